/- Maps whose keys are texts, off the buffer. impl.valued at plain values. impl.valued at booleans, times, uuids, bytes and texts. impl.valued at every plain value. Trees of values in memory; a value more behind others. How values are compared, and which values are asked: plain words and their laws. The forms in which values are written, and how long they get. Trees in memory, one value at a time. impl.listed: lists as values. The library's sort of texts, by the kit's shelf: laid by the kit's tools lay-shelf.mjs and lay-plain.mjs at this dump. Texts in a row, sorted. Texts in a row in the making; looking up a text; keys picked out of a map. Bytes in a row in the making. Rows of structs of whatever type in the making, and slices that show such. The library's sort.Slice and utf8.ValidString, by the kit's shelf: laid by the kit's tools lay-shelf.mjs and lay-plain.mjs at this dump. sort.Slice as impl.pairs calls it: the pairs by their keys' texts. The pairs of impl.pairs in memory, and how they are sorted. -/
import Derived.Test.YtfoegolfadhmjaaGreatDoorU02
import Derived.Deep.AppendLies
import Derived.Lib.ValidLaws
import Derived.Shelf.Sort.Plain
import Derived.Shelf.Slices.In.SortNone2
import Derived.Test.YtfoegolfadhmjaaGreatDoorProg
import Derived.Maps.AppendAt
import Derived.Deep.Upon
import Derived.Shelf.Lays
import Derived.Shelf.GgSortFunc.Lays
import Derived.Shelf.Unicode.ValidAny
import Derived.Shelf.SlSortFuncK.WholeK
import Derived.Shelf.GgSortFunc.Tiny
import Derived.Deep.QuietTactic
import Derived.Sort.Walk0
import Derived.BigQuiet
set_option linter.unusedVariables false
set_option linter.unusedSimpArgs false
set_option maxRecDepth 100000
set_option maxHeartbeats 4000000
namespace Go.Proofs.YtfoegolfadhmjaaGreatDoor
open Go.RowKit Go.WideShapes
def TextK(k:Int):Prop:=k=19∨k=20
theorem TextK.key{k:Int}(h:TextK k):KeyK k:=by unfold TextK at h;unfold KeyK;omega
def ReadsT(t b:List UInt8):Prop:=
 ∀(g:Nat) (r:List UInt8) (w:World),Buf w g (b++r)→Calls Tryz.prog 107 #[.pointer (some ⟨g,0,none⟩)] w fun e w'=>e=.returned (.tuple #[.string ⟨t.toArray⟩,.nilIface])∧Adv g r w w'
theorem text_reads{v:V}{b:List UInt8}(h:Leaf v b)(hk:TextK v.kind):ReadsT v.text b∧v.text.length<4294967296∧v.num=0∧∃o,v=.mk v.kind 0 v.text [] o []:=by
 cases h
 case str8 t o h=>
  have hb:UInt8.toNat (UInt8.ofNat (t.length/256 ^ 0 % 256))=t.length:=by rw [b1];omega
  exact⟨fun g r w B=>readString_8 g 161 (by decide) t r _ hb w (by simpa [beB]using B),by show t.length<_;omega,rfl,o,rfl⟩
 case sym8 t o h=>
  have hb:UInt8.toNat (UInt8.ofNat (t.length/256 ^ 0 % 256))=t.length:=by rw [b1];omega
  exact⟨fun g r w B=>readString_8 g 163 (by decide) t r _ hb w (by simpa [beB]using B),by show t.length<_;omega,rfl,o,rfl⟩
 case str32 t o h=>exact⟨fun g r w B=>readString_32 g 177 (by decide) (beB 4 t.length) t r (beB_len _ _) (beNat_beB _ _ (by simpa using h)) w (by simpa using B),h,rfl,o,rfl⟩
 case sym32 t o h=>exact⟨fun g r w B=>readString_32 g 179 (by decide) (beB 4 t.length) t r (beB_len _ _) (beNat_beB _ _ (by simpa using h)) w (by simpa using B),h,rfl,o,rfl⟩
 all_goals (simp [TextK,V.kind]at hk)
inductive TextsL:List (V×V)→List UInt8→Prop where
 | nil:TextsL [] []
 | cons {q:V×V} {ps:List (V×V)} {b1 b2 bs:List UInt8} (h1:ReadsT q.1.text b1) (hl:q.1.text.length<4294967296) (h2:Reads q.2 b2) (hs:TextsL ps bs):TextsL (q::ps) (b1++(b2++bs))
theorem TextsL.inv{q:V×V}{ps:List (V×V)}{b:List UInt8}(h:TextsL (q::ps) b):∃b1 b2 bs,b=b1++(b2++bs)∧ReadsT q.1.text b1∧q.1.text.length<4294967296∧Reads q.2 b2∧TextsL ps bs:=by
 cases h with
 | cons h1 hl h2 hs=>exact⟨_,_,_,rfl,h1,hl,h2,hs⟩
theorem EncV.leaf_inv{k:V}{l:List V}{b:List UInt8}(h:EncV (k::l) b)(hk:KeyK k.kind):∃b1 b2,b=b1++b2∧Leaf k b1∧EncV l b2:=by
 cases h with
 | leaf h hs=>exact⟨_,_,rfl,h,hs⟩
 | _=>simp [KeyK,V.kind]at hk
theorem EncV.inv{k:V}{l:List V}{b:List UInt8}(h:EncV (k::l) b):∃b1 b2,b=b1++b2∧Reads k b1∧EncV l b2:=by
 cases h with
 | leaf h hs=>exact⟨_,_,rfl,leaf_reads h,hs⟩
 | list0 hs=>exact⟨_,_,rfl,list0_reads _,hs⟩
 | list hk hh hm hs=>exact⟨_,_,rfl,list_reads _ _ _ _ (reads_of hk) hk.len hh hm,hs⟩
 | map hk hh hm ok hs=>exact⟨_,_,rfl,map_reads _ _ _ _ (reads_of hk) (by have:=hk.len;rwa [flat2_len]at this) hh hm ok,hs⟩
 | arr hk hh hm hne hs=>exact⟨_,_,rfl,array_reads _ _ _ _ _ hk hh hm hne,hs⟩
theorem texts_of:∀{ps:List (V×V)} {b:List UInt8},EncV (flat2 ps) b→(∀q∈ps,TextK q.1.kind)→TextsL ps b
 | [],_,h,_=>by cases h;exact .nil
 | q::ps,b,h,hk=>by
   have h1:EncV (q.1::q.2::flat2 ps) b:=h
   have hq:=hk q (List.mem_cons_self ..)
   obtain⟨b1,b2,rfl,hl,h2⟩:=h1.leaf_inv hq.key
   obtain⟨b3,b4,rfl,h3,h4⟩:=h2.inv
   obtain⟨r1,r2,_,_⟩:=text_reads hl hq
   exact .cons r1 r2 h3 (texts_of h4 fun q' hq'=>hk q' (List.mem_cons_of_mem _ hq'))
def MapT(w:World)(base m:Nat)(ps:List (V×V)):Prop:=
 ∃es clock,w.heap[m]? =some (.map es clock)∧Born es clock∧es.size=ps.length∧∀j (hj:j<ps.length) (he:j<es.size),es[j].key=.string ⟨ps[j].1.text.toArray⟩∧Dep (fun b=>base≤b∧b≠m) w (fun w=>GV w ps[j].2 es[j].val)
section
variable {w w':World} {base m:Nat} {ps:List (V×V)}
theorem MapT.nil(h:w.heap[m]? =some (.map #[] 0)):MapT w base m []:=⟨#[],0,h,⟨by simp,by simp⟩,rfl,fun j hj=>absurd hj (by simp)⟩
theorem MapT.keep{ok:Nat→Prop}(h:MapT w base m ps)(kp:Keep ok w w')(ho:ok m)(hb:∀b,base≤b→ok b):MapT w' base m ps:=by
 obtain⟨es,clock,hm,hbo,hs,hr⟩:=h
 exact⟨es,clock,kp.blk hm ho,hbo,hs,fun j hj he=>⟨(hr j hj he).1,(hr j hj he).2.keep kp (fun b _ hbb=>hb b hbb.1)⟩⟩
theorem MapT.step(h:MapT w base m ps)(t kt:TypeId)(ht:Tryz.prog.underlying t=some (.map kt 20))(hkt:Tryz.prog.underlying kt=some .string){a b:V}(hn:∀q∈ps,q.1.text≠a.text){y:Value}
 (hy:Dep (fun b=>base≤b∧b≠m) w (fun w=>GV w b y)):
 ∃w',(Instr.mapUpdate t (.map (some m)) (.string ⟨a.text.toArray⟩) y).run Tryz.prog w=.ok () w'∧Keep (fun k=>k≠m) w w'∧MapT w' base m (ps++[(a,b)]):=by
 obtain⟨es,clock,hm,hbo,hs,hr⟩:=h
 have hks:∀e∈es.toList,∃s',e.key=.string s'∧(⟨a.text.toArray⟩:ByteArray)≠s':=fun e he=>by
  obtain⟨j,hj,rfl⟩:=List.getElem_of_mem he
  have hje:j<es.size:=by simpa using hj
  have hjp:j<ps.length:=by omega
  refine⟨_,by simpa using (hr j hjp hje).1,fun e=>?_⟩
  injection e with e
  exact hn _ (List.getElem_mem hjp) (by simpa using e.symm)
 obtain⟨w',hrun,hm',kk⟩:=update_text w t kt ht hkt m es clock hm _ y hks
 refine⟨w',hrun,kk,_,_,hm',born_push hbo _ _,by simp [hs],fun j hj he=>?_⟩
 have kk':∀{φ:World→Prop},Dep (fun b=>base≤b∧b≠m) w φ→Dep (fun b=>base≤b∧b≠m) w' φ:=fun h=>h.keep kk (fun b _ hb=>hb.2)
 by_cases e:j<es.size
 ·have hjp:j<ps.length:=by omega
  rw [Array.getElem_push_lt e]
  simp only [List.getElem_append_left hjp]
  exact⟨(hr j hjp e).1,kk' (hr j hjp e).2⟩
 ·have hje:j=es.size:=by simp at he;omega
  subst hje
  rw [Array.getElem_push_eq,List.getElem_append_right (by omega)]
  have e0:es.size-ps.length=0:=by omega
  simp only [e0,List.getElem_cons_zero]
  exact⟨trivial,kk' hy⟩
def TMapD(ok:Nat→Prop)(w:World)(ps:List (V×V))(s:Value):Prop:=
 ∃m es clock,s=.map (some m)∧Born es clock∧es.size=ps.length∧(∀j (hj:j<ps.length) (he:j<es.size),es[j].key=.string ⟨ps[j].1.text.toArray⟩)∧
  Dep ok w (fun w=>w.heap[m]? =some (.map es clock)∧∀j (hj:j<ps.length) (he:j<es.size),GV w ps[j].2 es[j].val)
theorem MapT.out{b0:Nat}(h:MapT w base m ps)(h1:b0≤base)(h2:b0≤m):TMapD (fun b=>b0≤b) w ps (.map (some m)):=by
 obtain⟨es,clock,hm,hbo,hs,hr⟩:=h
 exact⟨m,es,clock,rfl,hbo,hs,fun j hj he=>(hr j hj he).1,fun w' hw=>⟨(hw m (lt_blk hm) h2).trans hm,fun j hj he=>(hr j hj he).2 w' (fun b hb hbb=>hw b hb (Nat.le_trans h1 hbb.1))⟩⟩
end
theorem textMap_is(g:Nat)(p:Addr)(hpg:p.block≠g)(ps:List (V×V))(body r h:List UInt8)(hmax:2*ps.length≤1000)(hlen:2*ps.length≤body.length)(Hh:Hd 193 209 (2*ps.length) body h)(HR:TextsL ps body)(hnd:(ps.map fun q=>q.1.text).Nodup)
 (w:World) (u:Value) (hc:w.cell? p=some u) (hf:w.frozen? p=false) (B:Buf w g (h++(body++r))):
 Calls Tryz.prog 129 #[.pointer (some p),.pointer (some ⟨g,0,none⟩)] w fun e w'=>e=.returned .nilIface∧∃sl w1,w'=w1.setCell p sl∧Adv g r w w1∧TMapD (fun k=>w.heap.size≤k) w1 ps sl:=by
 obtain⟨n,hn⟩:∃n,n=ps.length:=⟨_,rfl⟩
 have hq:(2*(n:Int)).tdiv 2=n:=by rw [Int.tdiv_eq_ediv_of_nonneg (by omega)];omega
 have N:=Lib.hid hn
 have HP:=Lib.hid hpg
 have BD:=Lib.hid HR
 have ND:=Lib.hid hnd
 have hgw:=B.lt
 have hlt:=cell_lt hc
 have hmk:=makeMap_n 394 9 20 Tryz.underlying394 .u32 n
 have hnm:2*n≤1000:=by omega
 clear hn hpg HR hnd
 go_enter Tryz.func129,Tryz.ntmps129
 go_wp2_with fail
 refine(mapHead g (2*ps.length) body r h Hh hlen (by omega) _ B).mono ?_
 rintro e w0 ⟨rfl,h0⟩
 have hcast:((2*ps.length:Nat):Int)=2*(n:Int):=by rw [←N.out];omega
 rw [hcast]
 have hc0:=h0.1.cell hc HP.out
 have hf0:w0.frozen? p=false:=(h0.1.free hlt HP.out).trans hf
 have hs0:=h0.1.size
 have hgl0:=h0.2.lt
 clear hcast
 go_wp2_with fail
 go_loopg [8] n (fun k s8 wr=>∃(j:Nat) (bj:List UInt8),j+k=n∧s8=.int .u32 (2*(j:Int))∧TextsL (ps.drop j) bj∧Keep (fun k=>k≠g) w0 wr∧Buf wr g (bj++r)∧MapT wr w.heap.size w0.heap.size (ps.take j))
 case atStart=>exact⟨0,body,by omega,rfl,BD.out,(Keep.refl _ _).alloc _,h0.2.new ((Keep.refl _ _).alloc _),MapT.nil (blk_new _ _)⟩
 case round=>
  obtain⟨j,bj,hj,rfl,hLj,kr,hBr,fl⟩:=hrel
  have LJ:=Lib.hid hLj
  clear hLj
  cases gk with
  | zero=>
    obtain rfl:j=n:=by omega
    have hcr:=kr.cell hc0 HP.out
    have hfr:wr.frozen? p=false:=(kr.free (cell_lt hc0) HP.out).trans hf0
    have hnil:bj=[]:=by
     have:=LJ.out
     rw [N.out,List.drop_length]at this
     cases this;rfl
    rw [hnil,List.nil_append]at hBr
    rw [N.out,List.take_length]at fl
    go_wp2
    go_ret
    exact⟨rfl,_,wr,rfl,⟨h0.1.trans kr,hBr⟩,fl.out (Nat.le_refl _) hs0⟩
  | succ k=>
    have hjn:j<n:=by omega
    have tj:decide (2*(j:Int)<2*n)=true:=by simp;omega
    have tj2:decide (j<n)=true:=by simpa using hjn
    have wj:IntKind.u32.wrap (2*(j:Int)+2)=2*j+2:=by rw [IntKind.wrap_u32];omega
    have hjx:j<ps.length:=by rw [←N.out];exact hjn
    have hL:=LJ.out
    rw [List.drop_eq_getElem_cons hjx]at hL
    obtain⟨b1,b2,b3,rfl,hq1,hql,hq2,hL2⟩:=hL.inv
    have Q1:=Lib.hid hq1
    have Q2:=Lib.hid hq2
    have L2:=Lib.hid hL2
    clear hL hL2 LJ hq1 hq2 hql
    simp only [List.append_assoc]at hBr
    go_wp2_with fail
    refine(Q1.out g (b2++(b3++r)) _ hBr).mono ?_
    rintro e w4 ⟨rfl,h4⟩
    go_wp2_with fail
    refine(Q2.out g (b3++r) _ h4.2).mono ?_
    rintro e w5 ⟨y,rfl,h5,hy⟩
    have h45:=h4.1.trans h5.1
    have e1:=kr.size
    have e2:=h4.1.size
    have e3:=h5.1.size
    have hlm:=lt_blk fl.choose_spec.choose_spec.1
    have fl5:=fl.keep h45 (show w0.heap.size≠g by omega) (fun b hb=>by omega)
    have hy5:Dep (fun b=>w.heap.size≤b∧b≠w0.heap.size) w5 (fun w=>GV w ps[j].2 y):=hy.mono (fun b _ hb=>by omega)
    have hnew:∀q∈ps.take j,q.1.text≠ps[j].1.text:=by
     intro q hq he
     obtain⟨i,hi,rfl⟩:=List.getElem_of_mem hq
     rw [List.length_take]at hi
     rw [List.getElem_take]at he
     exact List.pairwise_iff_getElem.1 ND.out i j (by simp;omega) (by simpa using hjx) (by omega) (by simpa using he)
    obtain⟨w7,hup,k7,fl7⟩:=fl5.step 394 9 Tryz.underlying394 Tryz.underlying9 hnew hy5
    have UP:=Lib.hid hup
    rw [List.take_append_getElem hjx]at fl7
    clear hy hy5 hup hnew
    go_wp2_with (at_mapUpdate;refine wpList_mapUpdate_eq _ w7 rfl _ _ _ 394 rfl _ _ _ rfl rfl rfl UP.out ?_)
    go_roundg k
    case measure=>omega
    case rel=>
     refine⟨j+1,b3,by omega,congrArg _ (by omega),L2.out,?_,?_,fl7⟩
     ·exact(kr.trans h45).then k7 (fun i hi _=>by omega)
     ·exact h5.2.keep k7 (fun i hi=>by omega)
theorem symbolMap_is(g:Nat)(p:Addr)(hpg:p.block≠g)(ps:List (V×V))(body r h:List UInt8)(hmax:2*ps.length≤1000)(hlen:2*ps.length≤body.length)(Hh:Hd 193 209 (2*ps.length) body h)(HR:TextsL ps body)(hnd:(ps.map fun q=>q.1.text).Nodup)
 (w:World) (u:Value) (hc:w.cell? p=some u) (hf:w.frozen? p=false) (B:Buf w g (h++(body++r))):
 Calls Tryz.prog 130 #[.pointer (some p),.pointer (some ⟨g,0,none⟩)] w fun e w'=>e=.returned .nilIface∧∃sl w1,w'=w1.setCell p sl∧Adv g r w w1∧TMapD (fun k=>w.heap.size≤k) w1 ps sl:=by
 obtain⟨n,hn⟩:∃n,n=ps.length:=⟨_,rfl⟩
 have hq:(2*(n:Int)).tdiv 2=n:=by rw [Int.tdiv_eq_ediv_of_nonneg (by omega)];omega
 have N:=Lib.hid hn
 have HP:=Lib.hid hpg
 have BD:=Lib.hid HR
 have ND:=Lib.hid hnd
 have hgw:=B.lt
 have hlt:=cell_lt hc
 have hmk:=makeMap_n 395 158 20 Tryz.underlying395 .u32 n
 have hnm:2*n≤1000:=by omega
 clear hn hpg HR hnd
 go_enter Tryz.func130,Tryz.ntmps130
 go_wp2_with fail
 refine(mapHead g (2*ps.length) body r h Hh hlen (by omega) _ B).mono ?_
 rintro e w0 ⟨rfl,h0⟩
 have hcast:((2*ps.length:Nat):Int)=2*(n:Int):=by rw [←N.out];omega
 rw [hcast]
 have hc0:=h0.1.cell hc HP.out
 have hf0:w0.frozen? p=false:=(h0.1.free hlt HP.out).trans hf
 have hs0:=h0.1.size
 have hgl0:=h0.2.lt
 clear hcast
 go_wp2_with fail
 go_loopg [8] n (fun k s8 wr=>∃(j:Nat) (bj:List UInt8),j+k=n∧s8=.int .u32 (2*(j:Int))∧TextsL (ps.drop j) bj∧Keep (fun k=>k≠g) w0 wr∧Buf wr g (bj++r)∧MapT wr w.heap.size w0.heap.size (ps.take j))
 case atStart=>exact⟨0,body,by omega,rfl,BD.out,(Keep.refl _ _).alloc _,h0.2.new ((Keep.refl _ _).alloc _),MapT.nil (blk_new _ _)⟩
 case round=>
  obtain⟨j,bj,hj,rfl,hLj,kr,hBr,fl⟩:=hrel
  have LJ:=Lib.hid hLj
  clear hLj
  cases gk with
  | zero=>
    obtain rfl:j=n:=by omega
    have hcr:=kr.cell hc0 HP.out
    have hfr:wr.frozen? p=false:=(kr.free (cell_lt hc0) HP.out).trans hf0
    have hnil:bj=[]:=by
     have:=LJ.out
     rw [N.out,List.drop_length]at this
     cases this;rfl
    rw [hnil,List.nil_append]at hBr
    rw [N.out,List.take_length]at fl
    go_wp2
    go_ret
    exact⟨rfl,_,wr,rfl,⟨h0.1.trans kr,hBr⟩,fl.out (Nat.le_refl _) hs0⟩
  | succ k=>
    have hjn:j<n:=by omega
    have tj:decide (2*(j:Int)<2*n)=true:=by simp;omega
    have tj2:decide (j<n)=true:=by simpa using hjn
    have wj:IntKind.u32.wrap (2*(j:Int)+2)=2*j+2:=by rw [IntKind.wrap_u32];omega
    have hjx:j<ps.length:=by rw [←N.out];exact hjn
    have hL:=LJ.out
    rw [List.drop_eq_getElem_cons hjx]at hL
    obtain⟨b1,b2,b3,rfl,hq1,hql,hq2,hL2⟩:=hL.inv
    have Q1:=Lib.hid hq1
    have Q2:=Lib.hid hq2
    have L2:=Lib.hid hL2
    clear hL hL2 LJ hq1 hq2 hql
    simp only [List.append_assoc]at hBr
    go_wp2_with fail
    refine(Q1.out g (b2++(b3++r)) _ hBr).mono ?_
    rintro e w4 ⟨rfl,h4⟩
    go_wp2_with fail
    refine(Q2.out g (b3++r) _ h4.2).mono ?_
    rintro e w5 ⟨y,rfl,h5,hy⟩
    have h45:=h4.1.trans h5.1
    have e1:=kr.size
    have e2:=h4.1.size
    have e3:=h5.1.size
    have hlm:=lt_blk fl.choose_spec.choose_spec.1
    have fl5:=fl.keep h45 (show w0.heap.size≠g by omega) (fun b hb=>by omega)
    have hy5:Dep (fun b=>w.heap.size≤b∧b≠w0.heap.size) w5 (fun w=>GV w ps[j].2 y):=hy.mono (fun b _ hb=>by omega)
    have hnew:∀q∈ps.take j,q.1.text≠ps[j].1.text:=by
     intro q hq he
     obtain⟨i,hi,rfl⟩:=List.getElem_of_mem hq
     rw [List.length_take]at hi
     rw [List.getElem_take]at he
     exact List.pairwise_iff_getElem.1 ND.out i j (by simp;omega) (by simpa using hjx) (by omega) (by simpa using he)
    obtain⟨w7,hup,k7,fl7⟩:=fl5.step 395 158 Tryz.underlying395 Tryz.underlying158 hnew hy5
    have UP:=Lib.hid hup
    rw [List.take_append_getElem hjx]at fl7
    clear hy hy5 hup hnew
    go_wp2_with (at_mapUpdate;refine wpList_mapUpdate_eq _ w7 rfl _ _ _ 395 rfl _ _ _ rfl rfl rfl UP.out ?_)
    go_roundg k
    case measure=>omega
    case rel=>
     refine⟨j+1,b3,by omega,congrArg _ (by omega),L2.out,?_,?_,fl7⟩
     ·exact(kr.trans h45).then k7 (fun i hi _=>by omega)
     ·exact h5.2.keep k7 (fun i hi=>by omega)
end Go.Proofs.YtfoegolfadhmjaaGreatDoor
namespace Go.Proofs.YtfoegolfadhmjaaGreatDoor
open Go.RowKit Go.WideShapes
def plainV(k:Int)(n:Nat)(t:List UInt8):Value:=.agg #[.int .i64 k,.int .u64 (n:Int),.string ⟨t.toArray⟩,.slice none 0 0,.int .i64 0,.slice none 0 0]
theorem u64n{n:Nat}(h:n<18446744073709551616):IntKind.u64.wrap (n:Int)=n:=by rw [IntKind.wrap_u64];omega
theorem u64s{n:Nat}(h:n<18446744073709551616):IntKind.u64.wrap (sgn n)=n:=by
 rw [IntKind.wrap_u64]
 unfold sgn wrap64
 omega
theorem flag_is(b:Bool)(w:World):Calls Tryz.prog 147 #[.bool b] w fun e w'=>e=.returned (.int .u64 (if b then 1 else 0))∧New w w':=by
 cases b
 all_goals
  go_enter Tryz.func147,Tryz.ntmps147
  go_wp2
  go_ret
  exact⟨rfl,Keep.refl _ _⟩
theorem valued_null(w:World):Calls Tryz.prog 91 #[.nilIface] w fun e w'=>e=.returned (.tuple #[plainV 0 0 [],.bool true])∧New w w':=by
 go_enter Tryz.func91,Tryz.ntmps91
 go_wp2
 refine bodyPost_ret (v:=.tuple #[plainV 0 0 [],.bool true]) (by simp [results,Tryz.results91,go_sem,plainV]) rfl ⟨rfl,?_⟩
 exact(Keep.refl _ w).alloc _
theorem valued_u8(n:Nat)(h:n<256)(w:World):Calls Tryz.prog 91 #[.iface 5 (.int .u8 n)] w fun e w'=>e=.returned (.tuple #[plainV 2 n [],.bool true])∧New w w':=by
 have hu:=u64n (n:=n) (by omega)
 go_enter Tryz.func91,Tryz.ntmps91
 go_wp2
 refine bodyPost_ret (v:=.tuple #[plainV 2 n [],.bool true]) (by simp [results,Tryz.results91,go_sem,plainV]) rfl ⟨rfl,?_⟩
 exact(Keep.refl _ w).alloc _
theorem valued_u16(n:Nat)(h:n<65536)(w:World):Calls Tryz.prog 91 #[.iface 117 (.int .u16 n)] w fun e w'=>e=.returned (.tuple #[plainV 3 n [],.bool true])∧New w w':=by
 have hu:=u64n (n:=n) (by omega)
 go_enter Tryz.func91,Tryz.ntmps91
 go_wp2
 refine bodyPost_ret (v:=.tuple #[plainV 3 n [],.bool true]) (by simp [results,Tryz.results91,go_sem,plainV]) rfl ⟨rfl,?_⟩
 exact(Keep.refl _ w).alloc _
theorem valued_u32(n:Nat)(h:n<4294967296)(w:World):Calls Tryz.prog 91 #[.iface 22 (.int .u32 n)] w fun e w'=>e=.returned (.tuple #[plainV 4 n [],.bool true])∧New w w':=by
 have hu:=u64n (n:=n) (by omega)
 go_enter Tryz.func91,Tryz.ntmps91
 go_wp2
 refine bodyPost_ret (v:=.tuple #[plainV 4 n [],.bool true]) (by simp [results,Tryz.results91,go_sem,plainV]) rfl ⟨rfl,?_⟩
 exact(Keep.refl _ w).alloc _
theorem valued_u64(n:Nat)(h:n<18446744073709551616)(w:World):Calls Tryz.prog 91 #[.iface 26 (.int .u64 n)] w fun e w'=>e=.returned (.tuple #[plainV 5 n [],.bool true])∧New w w':=by
 have hu:=u64n (n:=n) (by omega)
 go_enter Tryz.func91,Tryz.ntmps91
 go_wp2
 refine bodyPost_ret (v:=.tuple #[plainV 5 n [],.bool true]) (by simp [results,Tryz.results91,go_sem,plainV]) rfl ⟨rfl,?_⟩
 exact(Keep.refl _ w).alloc _
theorem valued_i8(n:Nat)(h:Fits 8 n)(w:World):Calls Tryz.prog 91 #[.iface 191 (.int .i8 (sgn n))] w fun e w'=>e=.returned (.tuple #[plainV 6 n [],.bool true])∧New w w':=by
 have hu:=u64s h.1
 go_enter Tryz.func91,Tryz.ntmps91
 go_wp2
 refine bodyPost_ret (v:=.tuple #[plainV 6 n [],.bool true]) (by simp [results,Tryz.results91,go_sem,plainV]) rfl ⟨rfl,?_⟩
 exact(Keep.refl _ w).alloc _
theorem valued_i16(n:Nat)(h:Fits 16 n)(w:World):Calls Tryz.prog 91 #[.iface 195 (.int .i16 (sgn n))] w fun e w'=>e=.returned (.tuple #[plainV 7 n [],.bool true])∧New w w':=by
 have hu:=u64s h.1
 go_enter Tryz.func91,Tryz.ntmps91
 go_wp2
 refine bodyPost_ret (v:=.tuple #[plainV 7 n [],.bool true]) (by simp [results,Tryz.results91,go_sem,plainV]) rfl ⟨rfl,?_⟩
 exact(Keep.refl _ w).alloc _
theorem valued_i32(n:Nat)(h:Fits 32 n)(w:World):Calls Tryz.prog 91 #[.iface 21 (.int .i32 (sgn n))] w fun e w'=>e=.returned (.tuple #[plainV 8 n [],.bool true])∧New w w':=by
 have hu:=u64s h.1
 go_enter Tryz.func91,Tryz.ntmps91
 go_wp2
 refine bodyPost_ret (v:=.tuple #[plainV 8 n [],.bool true]) (by simp [results,Tryz.results91,go_sem,plainV]) rfl ⟨rfl,?_⟩
 exact(Keep.refl _ w).alloc _
theorem valued_i64(n:Nat)(h:Fits 64 n)(w:World):Calls Tryz.prog 91 #[.iface 2 (.int .i64 (sgn n))] w fun e w'=>e=.returned (.tuple #[plainV 9 n [],.bool true])∧New w w':=by
 have hu:=u64s h.1
 go_enter Tryz.func91,Tryz.ntmps91
 go_wp2
 refine bodyPost_ret (v:=.tuple #[plainV 9 n [],.bool true]) (by simp [results,Tryz.results91,go_sem,plainV]) rfl ⟨rfl,?_⟩
 exact(Keep.refl _ w).alloc _
theorem valued_f32(n:Nat)(h:n<4294967296)(w:World):Calls Tryz.prog 91 #[.iface 212 (.float .f32 n)] w fun e w'=>e=.returned (.tuple #[plainV 10 n [],.bool true])∧New w w':=by
 have hu:=u64n (n:=n) (by omega)
 go_enter Tryz.func91,Tryz.ntmps91
 go_wp2
 refine bodyPost_ret (v:=.tuple #[plainV 10 n [],.bool true]) (by simp [results,Tryz.results91,go_sem,plainV]) rfl ⟨rfl,?_⟩
 exact(Keep.refl _ w).alloc _
theorem valued_f64(n:Nat)(h:n<18446744073709551616)(w:World):Calls Tryz.prog 91 #[.iface 216 (.float .f64 n)] w fun e w'=>e=.returned (.tuple #[plainV 11 n [],.bool true])∧New w w':=by
 have hu:=u64n (n:=n) (by omega)
 go_enter Tryz.func91,Tryz.ntmps91
 go_wp2
 refine bodyPost_ret (v:=.tuple #[plainV 11 n [],.bool true]) (by simp [results,Tryz.results91,go_sem,plainV]) rfl ⟨rfl,?_⟩
 exact(Keep.refl _ w).alloc _
end Go.Proofs.YtfoegolfadhmjaaGreatDoor
namespace Go.Proofs.YtfoegolfadhmjaaGreatDoor
open Go.RowKit Go.WideShapes
theorem conv_cells(w:World)(d i c:Nat)(l:List UInt8)(h:∀j (hj:j<l.length),w.cell? ⟨d,i+j,none⟩=some (.int .u8 (l[j].toNat:Int))):(convert 27 9 (.slice (some ⟨d,i,none⟩) l.length c)).run Tryz.prog w=.ok (.string ⟨l.toArray⟩) w:=by
 have fo:∀m:List UInt8,(m.map fun b=>(b.toNat:Int)).map (fun n=>UInt8.ofNat n.toNat)=m:=fun m=>by
  rw [List.map_map];conv=>rhs;rw [←List.map_id m]
  apply List.map_congr_left;intro b _;simp
 have:=run_convert_bytes_arg (P:=Tryz.prog) w 27 5 Tryz.underlying27 Tryz.underlying5 d i l.length c (l.map fun b=>(b.toNat:Int)) (by simp) (fun j hj=>by
  rw [h j hj];simp [List.getD,hj]) 9 Tryz.underlying9
 rw [this]
 simp only [strOfNums,fo]
theorem valued_bool(n:Nat)(h:n≤1)(w:World):Calls Tryz.prog 91 #[.iface 4 (.bool (n !=0))] w fun e w'=>e=.returned (.tuple #[plainV 1 n [],.bool true])∧New w w':=by
 have hf:(if (n !=0)=true then(1:Int)else 0)=n:=by
  match n,h with
  | 0,_=>rfl
  | 1,_=>rfl
 obtain⟨b,hb⟩:∃b,b=(n !=0):=⟨_,rfl⟩
 rw [←hb]at hf ⊢
 have HF:=Lib.hid hf
 clear hf hb
 go_enter Tryz.func91,Tryz.ntmps91
 go_wp2_with fail
 refine(flag_is b _).mono ?_
 rintro e w1 ⟨rfl,k1⟩
 rw [HF.out]
 have k2:=(((Keep.refl (fun _=>True) w).alloc _).trans k1)
 have hb:=k1.blk (blk_new w _) trivial
 have c0:=(blk_cell hb 0).trans rfl
 have c1:=(blk_cell hb 1).trans rfl
 have c2:=(blk_cell hb 2).trans rfl
 have c3:=(blk_cell hb 3).trans rfl
 have c4:=(blk_cell hb 4).trans rfl
 have c5:=(blk_cell hb 5).trans rfl
 have f0:=blk_free hb 0
 have f1:=blk_free hb 1
 have f2:=blk_free hb 2
 have f3:=blk_free hb 3
 have f4:=blk_free hb 4
 have f5:=blk_free hb 5
 clear hb
 go_wp2
 refine bodyPost_ret (v:=.tuple #[plainV 1 n [],.bool true]) (by simp [results,Tryz.results91,go_sem,plainV,c0,c1,c2,c3,c4,c5]) rfl ⟨rfl,?_⟩
 repeat (refine Keep.setCell ?_ (.inl (Nat.le_refl _)) _)
 exact k2
theorem valued_str(t:List UInt8)(w:World):Calls Tryz.prog 91 #[.iface 9 (.string ⟨t.toArray⟩)] w fun e w'=>e=.returned (.tuple #[plainV 19 0 t,.bool true])∧New w w':=by
 go_enter Tryz.func91,Tryz.ntmps91
 go_wp2
 refine bodyPost_ret (v:=.tuple #[plainV 19 0 t,.bool true]) (by simp [results,Tryz.results91,go_sem,plainV]) rfl ⟨rfl,?_⟩
 exact(Keep.refl _ w).alloc _
theorem valued_bin(s:Value)(t:List UInt8)(w:World)(hs:SlB w s t):Calls Tryz.prog 91 #[.iface 27 s] w fun e w'=>e=.returned (.tuple #[plainV 18 0 t,.bool true])∧New w w':=by
 have hc:=fun u (k:New w u)=>conv_string u s t (hs.new k)
 have HC:=Lib.hid hc
 have hc1:=HC.out _ ((Keep.refl (fun _=>True) w).alloc (.cells #[.int .i64 0,.int .u64 0,.string ⟨#[]⟩,.slice none 0 0,.int .i64 0,.slice none 0 0] 78))
 clear hc
 go_enter Tryz.func91,Tryz.ntmps91
 go_wp2
 refine bodyPost_ret (v:=.tuple #[plainV 18 0 t,.bool true]) (by simp [results,Tryz.results91,go_sem,plainV]) rfl ⟨rfl,?_⟩
 exact(Keep.refl _ w).alloc _
theorem valued_time(n:Nat)(h:n<18446744073709551616)(w:World):Calls Tryz.prog 91 #[.iface 228 (timeV (sgn n))] w fun e w'=>e=.returned (.tuple #[plainV 16 n [],.bool true])∧New w w':=by
 have hu:=u64s h
 have hw:=wrap64_in (n:Int)
 go_enter Tryz.func91,Tryz.ntmps91
 simp only [timeV]
 go_wp2_with fail
 refine(unixMilli_is (sgn n) _ hw.1 hw.2).mono ?_
 rintro e w1 ⟨rfl,k1⟩
 have k2:=((((Keep.refl (fun _=>True) w).alloc _).alloc _).trans k1)
 have hb:=k1.blk (blk_alloc (blk_new w _) _) trivial
 have c0:=(blk_cell hb 0).trans rfl
 have c1:=(blk_cell hb 1).trans rfl
 have c2:=(blk_cell hb 2).trans rfl
 have c3:=(blk_cell hb 3).trans rfl
 have c4:=(blk_cell hb 4).trans rfl
 have c5:=(blk_cell hb 5).trans rfl
 have f0:=blk_free hb 0
 have f1:=blk_free hb 1
 have f2:=blk_free hb 2
 have f3:=blk_free hb 3
 have f4:=blk_free hb 4
 have f5:=blk_free hb 5
 clear hb
 go_wp2
 refine bodyPost_ret (v:=.tuple #[plainV 16 n [],.bool true]) (by simp [results,Tryz.results91,go_sem,plainV,c0,c1,c2,c3,c4,c5]) rfl ⟨rfl,?_⟩
 repeat (refine Keep.setCell ?_ (.inl (Nat.le_refl _)) _)
 exact k2
theorem valued_uuid(t:List UInt8)(h:t.length=16)(w:World):Calls Tryz.prog 91 #[.iface 309 (uuidV t)] w fun e w'=>e=.returned (.tuple #[plainV 17 0 t,.bool true])∧New w w':=by
 obtain⟨a0,a1,a2,a3,a4,a5,a6,a7,a8,a9,a10,a11,a12,a13,a14,a15,rfl⟩:=sixteen_of h
 simp only [uuidV,List.map_cons,List.map_nil]
 have hc:=conv_cells ((w.alloc (.cells #[.int .i64 0,.int .u64 0,.string ⟨#[]⟩,.slice none 0 0,.int .i64 0,.slice none 0 0] 78)).alloc (.cells #[.int .u8 a0.toNat,.int .u8 a1.toNat,.int .u8 a2.toNat,.int .u8 a3.toNat,.int .u8 a4.toNat,.int .u8 a5.toNat,.int .u8 a6.toNat,.int .u8 a7.toNat,.int .u8 a8.toNat,.int .u8 a9.toNat,.int .u8 a10.toNat,.int .u8 a11.toNat,.int .u8 a12.toNat,.int .u8 a13.toNat,.int .u8 a14.toNat,.int .u8 a15.toNat] 309)) (w.heap.size+1) 0 16 [a0,a1,a2,a3,a4,a5,a6,a7,a8,a9,a10,a11,a12,a13,a14,a15] (fun j hj=>by
  have hb:=blk_new (w.alloc (.cells #[.int .i64 0,.int .u64 0,.string ⟨#[]⟩,.slice none 0 0,.int .i64 0,.slice none 0 0] 78)) (.cells #[.int .u8 a0.toNat,.int .u8 a1.toNat,.int .u8 a2.toNat,.int .u8 a3.toNat,.int .u8 a4.toNat,.int .u8 a5.toNat,.int .u8 a6.toNat,.int .u8 a7.toNat,.int .u8 a8.toNat,.int .u8 a9.toNat,.int .u8 a10.toNat,.int .u8 a11.toNat,.int .u8 a12.toNat,.int .u8 a13.toNat,.int .u8 a14.toNat,.int .u8 a15.toNat] 309)
  simp only [World.size_alloc]at hb
  rw [blk_cell hb]
  match j,hj with
  | 0,_=>rfl
  | 1,_=>rfl
  | 2,_=>rfl
  | 3,_=>rfl
  | 4,_=>rfl
  | 5,_=>rfl
  | 6,_=>rfl
  | 7,_=>rfl
  | 8,_=>rfl
  | 9,_=>rfl
  | 10,_=>rfl
  | 11,_=>rfl
  | 12,_=>rfl
  | 13,_=>rfl
  | 14,_=>rfl
  | 15,_=>rfl
  | n+16,h=>simp at h;omega)
 simp only [List.length_cons,List.length_nil]at hc
 go_enter Tryz.func91,Tryz.ntmps91
 go_wp2
 refine bodyPost_ret (v:=.tuple #[plainV 17 0 [a0,a1,a2,a3,a4,a5,a6,a7,a8,a9,a10,a11,a12,a13,a14,a15],.bool true]) (by simp [results,Tryz.results91,go_sem,plainV]) rfl ⟨rfl,?_⟩
 first | exact((Keep.refl _ w).alloc _).alloc _ | exact(((Keep.refl (fun _=>True) w).alloc _).alloc _).setCell (.inl (Nat.le_refl _)) _
end Go.Proofs.YtfoegolfadhmjaaGreatDoor
namespace Go.Proofs.YtfoegolfadhmjaaGreatDoor
open Go.RowKit Go.WideShapes
theorem valued_leaf{w:World}{v:V}{x:Value}(h:GLeaf w v x):Calls Tryz.prog 91 #[x] w fun e w'=>e=.returned (.tuple #[plainV (if v.kind=20 then 19 else v.kind) v.num v.text,.bool true])∧New w w':=by
 cases h with
 | null o=>exact valued_null w
 | bool n o h=>exact valued_bool n h w
 | u8 n o h=>exact valued_u8 n h w
 | u16 n o h=>exact valued_u16 n h w
 | u32 n o h=>exact valued_u32 n h w
 | u64 n o h=>exact valued_u64 n h w
 | i8 n o h=>exact valued_i8 n h w
 | i16 n o h=>exact valued_i16 n h w
 | i32 n o h=>exact valued_i32 n h w
 | i64 n o h=>exact valued_i64 n h w
 | f32 n o h=>exact valued_f32 n h w
 | f64 n o h=>exact valued_f64 n h w
 | time n o h=>exact valued_time n h.1 w
 | uuid t o h=>exact valued_uuid t h w
 | bin t o s h=>exact valued_bin s t w h
 | str t o h=>exact valued_str t w
 | sym t o h=>exact valued_str t w
end Go.Proofs.YtfoegolfadhmjaaGreatDoor
namespace Go.Proofs.YtfoegolfadhmjaaGreatDoor
open Go.RowKit Go.WideShapes
def SlM(w:World)(s:Value)(n:Nat)(cells:List Value):Prop:=
 ∃A c,s=.slice A n c∧n≤c∧c≤maxLen∧cells.length=n*6∧
  (n≠0→∃d i,A=some ⟨d,i,none⟩∧∀q u,cells[q]? =some u→w.cell? ⟨d,i+q,none⟩=some u)
inductive Mem(w:World):List V→List Value→Prop where
 | nil:Mem w [] []
 | cons {k:Int} {n:Nat} {t:List UInt8} {kids desc vs:List V} {o:Int} {sk sd:Value} {ck cd cells:List Value} (hn:n<18446744073709551616)
  (hk:SlM w sk kids.length ck) (hkm:Mem w kids ck) (hd:SlM w sd desc.length cd) (hdm:Mem w desc cd) (hs:Mem w vs cells):
  Mem w (.mk k n t kids o desc::vs) (.int .i64 k::.int .u64 (n:Int)::.string ⟨t.toArray⟩::sk::.int .i64 o::sd::cells)
theorem Mem.len{w:World}{l:List V}{cells:List Value}(h:Mem w l cells):cells.length=l.length*6:=by
 induction h with
 | nil=>rfl
 | cons _ _ _ _ _ _ _ _ ih=>simp only [List.length_cons,ih];omega
theorem Mem.append{w:World}{l1 l2:List V}{c1 c2:List Value}(h1:Mem w l1 c1)(h2:Mem w l2 c2):Mem w (l1++l2) (c1++c2):=by
 induction h1 with
 | nil=>exact h2
 | cons hn hk hkm hd hdm hs _ _ ih=>exact .cons hn hk hkm hd hdm ih
theorem Mem.one{w:World}{l:List V}{cells:List Value}(h:Mem w l cells):∀u∈cells,u.oneCell'=true:=by
 induction h with
 | nil=>intro u hu;simp at hu
 | cons hn hk hkm hd hdm hs _ _ ih=>
   obtain⟨A,c,rfl,_⟩:=hk
   obtain⟨A',c',rfl,_⟩:=hd
   intro u hu
   simp only [List.mem_cons]at hu
   rcases hu with rfl | rfl | rfl | rfl | rfl | rfl | hu
   all_goals first | rfl | exact ih u hu
theorem slM_nil(w:World):SlM w (.slice none 0 0) 0 []:=⟨none,0,rfl,Nat.le_refl _,by unfold maxLen;omega,rfl,fun h=>absurd rfl h⟩
theorem mem_plain(w:World)(k:Int)(n:Nat)(t:List UInt8)(h:n<18446744073709551616):Mem w [.mk k n t [] 0 []] [.int .i64 k,.int .u64 (n:Int),.string ⟨t.toArray⟩,.slice none 0 0,.int .i64 0,.slice none 0 0]:=
 .cons h (slM_nil w) .nil (slM_nil w) .nil .nil
theorem slM_own{w:World}{base:Nat}{v:Value}{n:Nat}{cells:List Value}(h:w.ownsRow base 78 6 v n cells):SlM w v n cells:=by
 obtain⟨h1,h2⟩:=h
 rcases h2 with⟨rfl,rfl⟩ | ⟨g,cap,cur,rfl,hg,hb,hn,hc,hs,ht⟩
 ·have:cells=[]:=List.eq_nil_of_length_eq_zero (by simpa using h1)
  subst this
  exact slM_nil w
 ·refine⟨_,cap,rfl,hn,hc,h1,fun _=>⟨g,0,rfl,fun q u hu=>?_⟩⟩
  have hq:q<n*6:=by
   rw [←h1]
   exact(List.getElem?_eq_some_iff.1 hu).1
  rw [←ht,List.getElem?_take_of_lt hq,Array.getElem?_toList]at hu
  rw [blk_cell hb,Nat.zero_add]
  exact hu
theorem info78:(Tryz.prog.info? 78).map (fun i=>(i.zero,i.size,i.bytes))=some (some (.agg #[.int .i64 0,.int .u64 0,.string .empty,.slice none 0 0,.int .i64 0,.slice none 0 0]),6,88):=by kernel_rfl
theorem append_val(w:World)(base:Nat)(v:Value)(n:Nat)(xs:List Value)(hown:w.ownsRow base 78 6 v n xs)(B c:Nat)(news:List Value)(hl:news.length=6)(hB:w.heap[B]? =some (.cells news.toArray 78 (0,0)))(h1:∀u∈news,u.oneCell'=true)(hn:n≤1000000)(hbase:base≤w.heap.size):
 ∃g cap w',(Builtin.append_ #[43,43] 43 #[v,.slice (some ⟨B,0,none⟩) 1 c]).run Tryz.prog w=.ok (.slice (some ⟨g,0,none⟩) (n+1) cap) w'∧
  w'.ownsRow base 78 6 (.slice (some ⟨g,0,none⟩) (n+1) cap) (n+1) (xs++news)∧Keep (fun k=>some k≠v.ownBlock) w w':=by
 obtain⟨i0,hi,hz,hs,hb⟩:=info_parts info78
 obtain⟨g,cap,w',hr,h2,h3,_,_⟩:=run_append_lies (P:=Tryz.prog) w 43 43 base 78 i0 _ 6 88 Tryz.underlying43 hi hz hs hb rfl (by omega) v n xs hown ⟨B,0,none⟩ 1 c news (by rw [hl]) (fun j u hj=>by
  have hplain:(⟨B,0,none⟩:Addr).add j=⟨B,0+j,none⟩:=by unfold Addr.add;split<;>simp_all
  rw [hplain,blk_cell hB,Nat.zero_add]
  simpa using hj) h1 (by omega) (by unfold maxLen;omega) (by omega) hbase w.heap.size rfl
 exact⟨g,cap,w',hr,h2,Keep.of_grown h3 (fun k hk=>hk)⟩
end Go.Proofs.YtfoegolfadhmjaaGreatDoor
namespace Go.Proofs.YtfoegolfadhmjaaGreatDoor
open Go.RowKit Go.WideShapes
mutual
def sameV:V→V→Bool
 | .mk k n t ks _ ds,.mk k' n' t' ks' _ ds'=>k==k'&&(n==n'&&(t==t'&&(ks.length==ks'.length&&(ds.length==ds'.length&&(sameVs ks ks'&&sameD ds ds')))))
def sameVs:List V→List V→Bool
 | [],_=>true
 | _::_,[]=>true
 | a::r,b::s=>sameV a b&&sameVs r s
def sameD:List V→List V→Bool
 | [],_=>true
 | _::_,[]=>true
 | a::_,b::_=>sameV a b
end
def trimR:List V→List V
 | []=>[]
 | v::r=>match trimR r with
   | []=>if v.kind=0 then []else [v]
   | u::s=>v::u::s
mutual
def usualV:V→V
 | .mk k n t ks o ds=>match k==23,ks,usualVs ks with
   | true,[.mk k' _ t' _ _ _],us=>if k'=20 then .mk 19 0 t' [] 0 []else .mk k n t us o ds
   | _,_,us=>if k=20 then .mk 19 0 t us 0 ds else if k=21∧ds.length=1 then .mk k n t (trimR us) o ds else .mk k n t us o ds
def usualVs:List V→List V
 | []=>[]
 | a::r=>usualV a::usualVs r
end
def sameAt(f:V→Bool)(k:V):List V→Bool
 | a::b::r=>(sameV k a&&f b) || sameAt f k r
 | _=>false
mutual
def sameL:V→V→Bool
 | .mk k n t ks o ds,b=>
   if k=21 then k==b.kind&&(ks.length==b.kids.length&&(ds.length==b.desc.length&&((ds.length !=1 || sameD ds b.desc)&&sameLs ks b.kids)))
   else if k=22 then k==b.kind&&(ks.length==b.kids.length&&(ds.length==b.desc.length&&((ds.length !=1 || sameD ds b.desc)&&sameM ks b.kids)))
   else sameV (.mk k n t ks o ds) b
def sameLs:List V→List V→Bool
 | [],_=>true
 | _::_,[]=>true
 | a::r,b::s=>sameL a b&&sameLs r s
def sameM:List V→List V→Bool
 | a::x::r,bs=>sameAt (sameL x) a bs&&sameM r bs
 | _,_=>true
end
inductive Sims:List V→List V→Prop where
 | nil:Sims [] []
 | leaf {k k':Int} {n:Nat} {t:List UInt8} {o o':Int} {vs us:List V} (hk:k<21) (hk':k'=k∨k=20∧k'=19) (h0:k=20→n=0) (hs:Sims vs us):Sims (.mk k n t [] o []::vs) (.mk k' n t [] o' []::us)
 | list {o o':Int} {ks ls vs us:List V} (hk:Sims ks ls) (hs:Sims vs us):Sims (.mk 21 0 [] ks o []::vs) (.mk 21 0 [] ls o' []::us)
 | map {o o':Int} {ps qs:List (V×V)} {ls vs us:List V} (hp:ps.Perm qs) (h1:∀q∈ps,q.1.kind<21) (hk:Sims (flat2 qs) ls) (hs:Sims vs us):Sims (.mk 22 0 [] (flat2 ps) o []::vs) (.mk 22 0 [] ls o' []::us)
 | arr {k o o':Int} {ks ls vs us:List V} (hk:k<20) (h1:∀v∈ks,v.kind=k) (hsk:Sims ks ls) (hs:Sims vs us):Sims (.mk 23 0 [] ks o []::vs) (.mk 23 0 [] ls o' []::us)
theorem usualVs_map(l:List V):usualVs l=l.map usualV:=by
 induction l with
 | nil=>rfl
 | cons a r ih=>simp [usualVs,ih]
theorem Sims.len{l m:List V}(h:Sims l m):l.length=m.length:=by
 induction h<;>simp_all
theorem sameV_leaf(k:Int)(n:Nat)(t:List UInt8)(o o':Int):sameV (.mk k n t [] o []) (.mk k n t [] o' [])=true:=by
 simp [sameV,sameVs,sameD]
theorem usual_leaf{k:Int}(n:Nat)(t:List UInt8)(o:Int)(hk:k<21):usualV (.mk k n t [] o [])=if k=20 then .mk 19 0 t [] 0 []else .mk k n t [] o []:=by
 have h1:¬k=21:=by omega
 simp [usualV,usualVs,h1]
theorem usual_list(ks:List V)(o:Int):usualV (.mk 21 0 [] ks o [])=.mk 21 0 [] (usualVs ks) o []:=by
 simp [usualV]
theorem usual_map(ks:List V)(o:Int):usualV (.mk 22 0 [] ks o [])=.mk 22 0 [] (usualVs ks) o []:=by
 simp [usualV]
theorem usual_arr(ks:List V)(o:Int)(h:∀v∈ks,v.kind<20):usualV (.mk 23 0 [] ks o [])=.mk 23 0 [] (usualVs ks) o []:=by
 match ks with
 | []=>simp [usualV,usualVs]
 | [.mk k' n' t' ks' o' ds']=>
   have h1:k'<20:=h _ (List.mem_singleton.2 rfl)
   have h2:¬k'=20:=by omega
   simp [usualV,h2]
 | a::b::r=>simp [usualV]
theorem Sims.arr_same{l m:List V}(h:Sims l m)(hl:∀v∈l,v.kind<20):sameVs (usualVs l) (usualVs m)=true:=by
 induction h with
 | nil=>rfl
 | leaf hk hk' h0 hs ih=>
   rename_i k k' n t o o' vs us
   have h1:k<20:=hl (.mk k n t [] o []) (List.mem_cons_self ..)
   have h2:¬k=20:=by omega
   obtain rfl:k'=k:=by omega
   have:=ih fun v hv=>hl v (List.mem_cons_of_mem _ hv)
   simp only [usualVs,sameVs,if_neg h2,usual_leaf _ _ _ hk,sameV_leaf,Bool.true_and]
   exact this
 | list hk hs _ _=>exact absurd (hl _ (List.mem_cons_self ..)) (by simp [V.kind])
 | map hp h1 hk hs _ _=>exact absurd (hl _ (List.mem_cons_self ..)) (by simp [V.kind])
 | arr hk h1 hsk hs _ _=>exact absurd (hl _ (List.mem_cons_self ..)) (by simp [V.kind])
theorem usual_flat2(ps:List (V×V)):usualVs (flat2 ps)=flat2 (ps.map fun q=>(usualV q.1,usualV q.2)):=by
 induction ps with
 | nil=>rfl
 | cons q ps ih=>simp [flat2,usualVs,ih]
theorem sameM_all(ps:List (V×V))(bs:List V)(h:∀q∈ps,sameAt (sameL q.2) q.1 bs=true):sameM (flat2 ps) bs=true:=by
 induction ps with
 | nil=>rfl
 | cons q ps ih=>
   simp only [flat2,sameM,h q (List.mem_cons_self ..),Bool.true_and]
   exact ih fun q' hq'=>h q' (List.mem_cons_of_mem _ hq')
theorem sameL_leaf{a b:V}(h1:a.kind≠21)(h2:a.kind≠22):sameL a b=sameV a b:=by
 cases a with
 | mk k n t ks o ds=>
   have h1:¬k=21:=h1
   have h2:¬k=22:=h2
   simp [sameL,h1,h2]
theorem usual_kind_lt{a:V}(h:a.kind<21):(usualV a).kind≠21∧(usualV a).kind≠22:=by
 cases a with
 | mk k n t ks o ds=>
   have h:k<21:=h
   have h1:¬k=21:=by omega
   have h2:(k==23)=false:=by simp;omega
   have h3:¬k=22:=by omega
   simp only [usualV,h2]
   split
   ·exact⟨(by show ¬(19:Int)=21;omega),(by show ¬(19:Int)=22;omega)⟩
   ·split<;>exact⟨h1,h3⟩
theorem sameAt_of:∀{qs:List (V×V)} {ls:List V},(flat2 qs).length=ls.length→sameLs (usualVs (flat2 qs)) (usualVs ls)=true→∀q∈qs,q.1.kind<21→sameAt (sameL (usualV q.2)) (usualV q.1) (usualVs ls)=true
 | [],_,_,_,q,hq,_=>by simp at hq
 | p::qs,[],hl,_,_,_,_=>by simp [flat2]at hl
 | p::qs,[x],hl,_,_,_,_=>by simp [flat2]at hl
 | p::qs,x::y::ls,hl,hs,q,hq,hk=>by
   simp only [flat2,usualVs,sameLs,Bool.and_eq_true]at hs
   obtain⟨h1,h2,h3⟩:=hs
   simp only [usualVs,sameAt,Bool.or_eq_true,Bool.and_eq_true]
   rcases List.mem_cons.1 hq with rfl | hq
   ·obtain⟨e1,e2⟩:=usual_kind_lt hk
    exact .inl ⟨(sameL_leaf e1 e2).symm.trans h1,h2⟩
   ·exact .inr (sameAt_of (by simpa [flat2]using hl) h3 q hq hk)
theorem Sims.same{l m:List V}(h:Sims l m):sameLs (usualVs l) (usualVs m)=true:=by
 induction h with
 | nil=>rfl
 | leaf hk hk' h0 hs ih=>
   rename_i k k' n t o o' vs us
   simp only [usualVs,sameLs,ih,Bool.and_true]
   rw [usual_leaf _ _ _ hk]
   by_cases h2:k=20
   ·subst h2
    obtain rfl:=h0 rfl
    rcases hk' with rfl | ⟨_,rfl⟩
    ·rw [usual_leaf _ _ _ (by omega)]
     simp [sameL,sameV,sameVs,sameD]
    ·rw [usual_leaf _ _ _ (by omega)]
     simp [sameL,sameV,sameVs,sameD]
   ·have h3:¬k=21:=by omega
    obtain rfl:k'=k:=by omega
    simp only [if_neg h2,usual_leaf n t o' hk]
    by_cases h4:k'=22
    ·omega
    ·simp [sameL,h3,h4,sameV,sameVs,sameD]
 | list hk hs ih1 ih2=>
   have:=hk.len
   simp only [usualVs,sameLs,ih2,Bool.and_true,usual_list]
   simp [sameL,V.kids,V.desc,V.kind,usualVs_map,this]
   simpa [usualVs_map]using ih1
 | map hp h1 hk hs ih1 ih2=>
   rename_i o o' ps qs ls vs us
   have e:=hk.len
   have e':(flat2 ps).length=ls.length:=by
    have h2:∀l:List (V×V),(flat2 l).length=2*l.length:=by
     intro l
     induction l with
     | nil=>rfl
     | cons q l ih=>simp [flat2,ih];omega
    rw [h2]at e ⊢
    rw [hp.length_eq,e]
   simp only [usualVs,sameLs,ih2,Bool.and_true,usual_map]
   have hm:sameM (usualVs (flat2 ps)) (usualVs ls)=true:=by
    rw [usual_flat2]
    refine sameM_all _ _ fun q hq=>?_
    obtain⟨q0,hq0,rfl⟩:=List.mem_map.1 hq
    exact sameAt_of e ih1 q0 (hp.mem_iff.1 hq0) (h1 q0 hq0)
   have e1:(usualVs (flat2 ps)).length=(usualVs ls).length:=by simp [usualVs_map,e']
   simp only [sameL]
   simp [V.kids,V.desc,V.kind,e1,hm]
 | arr hk h1 hsk hs ih1 ih2=>
   rename_i k o o' ks ls vs us
   have h20:∀v∈ks,v.kind<20:=fun v hv=>by rw [h1 v hv];exact hk
   have h20':∀v∈ls,v.kind<20:=by
    clear ih1 ih2 h1
    induction hsk with
    | nil=>intro v hv;simp at hv
    | leaf hk' hk2 h0 hs' ih=>
      have h3:=h20 _ (List.mem_cons_self ..)
      simp only [V.kind]at h3
      intro v hv
      rcases List.mem_cons.1 hv with rfl | hv
      ·simp only [V.kind];omega
      ·exact ih (fun v hv=>h20 v (List.mem_cons_of_mem _ hv)) v hv
    | list _ _ _ _=>exact absurd (h20 _ (List.mem_cons_self ..)) (by simp [V.kind])
    | map _ _ _ _ _ _=>exact absurd (h20 _ (List.mem_cons_self ..)) (by simp [V.kind])
    | arr _ _ _ _ _ _=>exact absurd (h20 _ (List.mem_cons_self ..)) (by simp [V.kind])
   simp only [usualVs,sameLs,ih2,Bool.and_true]
   rw [usual_arr ks o h20,usual_arr ls o' h20']
   have:=hsk.len
   simp [sameL,sameV,sameD,usualVs_map,this]
   simpa [usualVs_map]using hsk.arr_same h20
theorem flat2_of_even:∀(l:List V),l.length % 2=0→∃ps,l=flat2 ps
 | [],_=>⟨[],rfl⟩
 | [_],h=>absurd h (by simp)
 | a::b::r,h=>by
   obtain⟨ps,rfl⟩:=flat2_of_even r (by simp at h;omega)
   exact⟨(a,b)::ps,rfl⟩
structure FitC(k:Int)(n:Nat)(t:List UInt8)(ks ds:List V):Prop where
 lo:0≤k
 hi:k<24
 noKids:k<21→ks=[]
 noText:¬(17≤k∧k≤20∨k=14)→t=[]
 noNum:¬(1≤k∧k≤16∧k≠14)→n=0
 few:ks.length≤1000
 short:t.length≤131072
 num:n<18446744073709551616
 b:k=1→n≤1
 u8:k=2→n<256
 u16:k=3→n<65536
 u32:k=4∨k=10→n<4294967296
 i8:k=6→Fits 8 n
 i16:k=7→Fits 16 n
 i32:k=8→Fits 32 n
 uuid:k=17→t.length=16
 even:k=22→ks.length % 2=0
 arr:k=23→∀v∈ks,∀u∈ks,v.kind=u.kind∧v.desc.length=u.desc.length
 d1:ds.length≤1
 txt:k=19∨k=20→Lib.validD t=true
inductive FitL:List V→Prop where
 | nil:FitL []
 | cons {k:Int} {n:Nat} {t:List UInt8} {ks ds vs:List V} {o:Int} (h:FitC k n t ks ds) (hk:FitL ks) (hd:FitL ds) (hs:FitL vs):FitL (.mk k n t ks o ds::vs)
inductive SayL:List V→Prop where
 | nil:SayL []
 | cons {k:Int} {n:Nat} {t:List UInt8} {ks vs:List V} {o:Int} (h1:¬(12≤k∧k≤15)) (h2:k≠23→SayL ks)
  (h3:k=23→ks≠[]∧(∀v,ks.head? =some v→(1≤v.kind∧v.kind≤11∨16≤v.kind∧v.kind≤20)∧v.desc=[])∧∀v∈ks,18≤v.kind→v.kind≤20→v.text≠[])
  (h4:k=22→∀ps,ks=flat2 ps→MapOk ps) (hs:SayL vs):SayL (.mk k n t ks o []::vs)
inductive LeafOk:V→Prop where
 | null (o:Int):LeafOk (.mk 0 0 [] [] o [])
 | bool (n:Nat) (o:Int) (h:n≤1):LeafOk (.mk 1 n [] [] o [])
 | u8 (n:Nat) (o:Int) (h:n<256):LeafOk (.mk 2 n [] [] o [])
 | u16 (n:Nat) (o:Int) (h:n<65536):LeafOk (.mk 3 n [] [] o [])
 | u32 (n:Nat) (o:Int) (h:n<4294967296):LeafOk (.mk 4 n [] [] o [])
 | u64 (n:Nat) (o:Int) (h:n<18446744073709551616):LeafOk (.mk 5 n [] [] o [])
 | i8 (n:Nat) (o:Int) (h:Fits 8 n):LeafOk (.mk 6 n [] [] o [])
 | i16 (n:Nat) (o:Int) (h:Fits 16 n):LeafOk (.mk 7 n [] [] o [])
 | i32 (n:Nat) (o:Int) (h:Fits 32 n):LeafOk (.mk 8 n [] [] o [])
 | i64 (n:Nat) (o:Int) (h:Fits 64 n):LeafOk (.mk 9 n [] [] o [])
 | f32 (n:Nat) (o:Int) (h:n<4294967296):LeafOk (.mk 10 n [] [] o [])
 | f64 (n:Nat) (o:Int) (h:n<18446744073709551616):LeafOk (.mk 11 n [] [] o [])
 | time (n:Nat) (o:Int) (h:Fits 64 n):LeafOk (.mk 16 n [] [] o [])
 | uuid (t:List UInt8) (o:Int) (h:t.length=16):LeafOk (.mk 17 0 t [] o [])
 | bin (t:List UInt8) (o:Int) (h:t.length≤131072):LeafOk (.mk 18 0 t [] o [])
 | str (t:List UInt8) (o:Int) (h:t.length≤131072) (hv:Lib.validD t=true):LeafOk (.mk 19 0 t [] o [])
 | sym (t:List UInt8) (o:Int) (h:t.length≤131072) (hv:Lib.validD t=true):LeafOk (.mk 20 0 t [] o [])
structure ArrOk(k:Int)(ks:List V):Prop where
 kind:1≤k∧k≤11∨16≤k∧k≤20
 all:∀v∈ks,v.kind=k∧LeafOk v∧(18≤k→v.text≠[])
inductive AbleL:List V→Prop where
 | nil:AbleL []
 | leaf {v:V} {vs:List V} (h:LeafOk v) (hs:AbleL vs):AbleL (v::vs)
 | list {o:Int} {ks vs:List V} (hk:AbleL ks) (hm:ks.length≤1000) (hs:AbleL vs):AbleL (.mk 21 0 [] ks o []::vs)
 | map {o:Int} {ps:List (V×V)} {vs:List V} (hk:AbleL (flat2 ps)) (hm:2*ps.length≤1000) (ok:MapOk ps) (hs:AbleL vs):AbleL (.mk 22 0 [] (flat2 ps) o []::vs)
 | arr {o k:Int} {ks vs:List V} (hk:ArrOk k ks) (hm:ks.length≤1000) (hne:ks≠[]) (hs:AbleL vs):AbleL (.mk 23 0 [] ks o []::vs)
theorem fits64{n:Nat}(h:n<18446744073709551616):Fits 64 n:=by
 refine⟨h,?_,?_⟩<;>(unfold sgn wrap64;omega)
theorem FitC.leaf{k:Int}{n:Nat}{t:List UInt8}{ks:List V}{o:Int}(h:FitC k n t ks [])(hk:k<21)(h1:¬(12≤k∧k≤15)):LeafOk (.mk k n t ks o []):=by
 obtain rfl:=h.noKids hk
 have h0:=h.lo
 have hc:k=0∨k=1∨k=2∨k=3∨k=4∨k=5∨k=6∨k=7∨k=8∨k=9∨k=10∨k=11∨k=16∨k=17∨k=18∨k=19∨k=20:=by omega
 have hn:=h.num
 have hs:=h.short
 rcases hc with rfl | rfl | rfl | rfl | rfl | rfl | rfl | rfl | rfl | rfl | rfl | rfl | rfl | rfl | rfl | rfl | rfl
 ·obtain rfl:=h.noText (by omega)
  obtain rfl:=h.noNum (by omega)
  exact .null o
 ·obtain rfl:=h.noText (by omega)
  exact .bool n o (h.b rfl)
 ·obtain rfl:=h.noText (by omega)
  exact .u8 n o (h.u8 rfl)
 ·obtain rfl:=h.noText (by omega)
  exact .u16 n o (h.u16 rfl)
 ·obtain rfl:=h.noText (by omega)
  exact .u32 n o (h.u32 (.inl rfl))
 ·obtain rfl:=h.noText (by omega)
  exact .u64 n o hn
 ·obtain rfl:=h.noText (by omega)
  exact .i8 n o (h.i8 rfl)
 ·obtain rfl:=h.noText (by omega)
  exact .i16 n o (h.i16 rfl)
 ·obtain rfl:=h.noText (by omega)
  exact .i32 n o (h.i32 rfl)
 ·obtain rfl:=h.noText (by omega)
  exact .i64 n o (fits64 hn)
 ·obtain rfl:=h.noText (by omega)
  exact .f32 n o (h.u32 (.inr rfl))
 ·obtain rfl:=h.noText (by omega)
  exact .f64 n o hn
 ·obtain rfl:=h.noText (by omega)
  exact .time n o (fits64 hn)
 ·obtain rfl:=h.noNum (by omega)
  exact .uuid t o (h.uuid rfl)
 ·obtain rfl:=h.noNum (by omega)
  exact .bin t o hs
 ·obtain rfl:=h.noNum (by omega)
  exact .str t o hs (h.txt (.inl rfl))
 ·obtain rfl:=h.noNum (by omega)
  exact .sym t o hs (h.txt (.inr rfl))
theorem FitL.mem{l:List V}(h:FitL l):∀v∈l,FitC v.kind v.num v.text v.kids v.desc:=by
 induction h with
 | nil=>intro v hv;simp at hv
 | cons h hk hd hs _ _ ih=>
   intro v hv
   rcases List.mem_cons.1 hv with rfl | hv
   ·exact h
   ·exact ih v hv
theorem able_of{l:List V}(h:FitL l):SayL l→AbleL l:=by
 induction h with
 | nil=>intro _;exact .nil
 | cons h hk hd hs ih1 _ ih2=>
   rename_i k n t ks ds vs o _
   intro s
   cases s with
   | cons h1 h2 h3 h4 hs'=>
     have hc:k<21∨k=21∨k=22∨k=23:=by have:=h.hi;omega
     rcases hc with hc | rfl | rfl | rfl
     ·exact .leaf (h.leaf hc h1) (ih2 hs')
     ·obtain rfl:=h.noText (by omega)
      obtain rfl:=h.noNum (by omega)
      exact .list (ih1 (h2 (by omega))) h.few (ih2 hs')
     ·obtain rfl:=h.noText (by omega)
      obtain rfl:=h.noNum (by omega)
      obtain⟨ps,rfl⟩:=flat2_of_even ks (h.even rfl)
      exact .map (ih1 (h2 (by omega))) (by have:=h.few;rwa [flat2_len]at this) (h4 rfl ps rfl) (ih2 hs')
     ·obtain rfl:=h.noText (by omega)
      obtain rfl:=h.noNum (by omega)
      obtain⟨hne,hh,hx⟩:=h3 rfl
      match ks,hne,hh,hx,hk,h with
      | a::r,hne,hh,hx,hk,h=>
        obtain⟨ha,hb⟩:=hh a rfl
        refine .arr (k:=a.kind) ⟨ha,fun v hv=>?_⟩ h.few hne (ih2 hs')
        obtain⟨e1,e2⟩:=h.arr rfl v hv a (List.mem_cons_self ..)
        rw [hb]at e2
        have e3:v.desc=[]:=List.eq_nil_of_length_eq_zero e2
        have hf:=hk.mem v hv
        rw [e3]at hf
        refine⟨e1,?_,fun h18=>hx v hv (by omega) (by omega)⟩
        have:=hf.leaf (o:=v.of) (by omega) (by omega)
        cases v with
        | mk k' n' t' ks' o' ds'=>
          obtain rfl:ds'=[]:=e3
          exact this
end Go.Proofs.YtfoegolfadhmjaaGreatDoor
namespace Go.Proofs.YtfoegolfadhmjaaGreatDoor
open Go.RowKit Go.WideShapes
def lng(c8 c32:UInt8)(t:List UInt8):List (UInt8×List UInt8):=
 (if t.length≤255 then [(c8,beB 1 t.length++t)]else [])++[(c32,beB 4 t.length++t)]
def pcs:V→List (UInt8×List UInt8)
 | .mk k n t _ _ _=>
   if k=0 then [(64,[])]
   else if k=1 then [(UInt8.ofNat (66-n),[]),(86,beB 1 n)]
   else if k=2 then [(80,beB 1 n)]
   else if k=3 then [(96,beB 2 n)]
   else if k=4 then(if n=0 then [(67,[])]else [])++((if n<256 then [(82,beB 1 n)]else [])++[(112,beB 4 n)])
   else if k=5 then(if n=0 then [(68,[])]else [])++((if n<256 then [(83,beB 1 n)]else [])++[(128,beB 8 n)])
   else if k=6 then [(81,beB 1 n)]
   else if k=7 then [(97,beB 2 n)]
   else if k=8 then(if -128≤sgn n∧sgn n<128 then [(84,beB 1 n)]else [])++[(113,beB 4 n)]
   else if k=9 then(if -128≤sgn n∧sgn n<128 then [(85,beB 1 n)]else [])++[(129,beB 8 n)]
   else if k=10 then [(114,beB 4 n)]
   else if k=11 then [(130,beB 8 n)]
   else if k=16 then [(131,beB 8 n)]
   else if k=17 then [(152,t)]
   else if k=18 then lng 160 176 t
   else if k=19 then lng 161 177 t
   else if k=20 then lng 163 179 t
   else []
theorem lng_leaf{c8 c32:UInt8}{t:List UInt8}(P:UInt8→List UInt8→Prop)(h8:t.length<256→P c8 (beB 1 t.length++t))(h32:P c32 (beB 4 t.length++t)):∀p∈lng c8 c32 t,P p.1 p.2:=by
 intro p hp
 unfold lng at hp
 split at hp
 ·simp only [List.singleton_append,List.mem_cons,List.mem_nil_iff,or_false]at hp
  rcases hp with rfl | rfl
  ·exact h8 (by omega)
  ·exact h32
 ·simp only [List.nil_append,List.mem_cons,List.mem_nil_iff,or_false]at hp
  subst hp
  exact h32
theorem pcs_leaf{v:V}(h:LeafOk v):∀p∈pcs v,Leaf v (p.1::p.2):=by
 cases h with
 | null o=>intro p hp;simp [pcs]at hp;subst hp;exact .null o
 | bool n o h=>
   intro p hp;simp [pcs]at hp
   rcases hp with rfl | rfl
   ·rcases Nat.lt_or_ge 0 n with h1 | h1
    ·obtain rfl:n=1:=by omega
     exact .b1 o
    ·obtain rfl:n=0:=by omega
     exact .b0 o
   ·exact .bb n o h
 | u8 n o h=>intro p hp;simp [pcs]at hp;subst hp;exact .u8 n o h
 | u16 n o h=>intro p hp;simp [pcs]at hp;subst hp;exact .u16 n o h
 | u32 n o h=>
   intro p hp
   simp only [pcs,show ¬((4:Int)=0) by omega,show ¬((4:Int)=1) by omega,show ¬((4:Int)=2) by omega,show ¬((4:Int)=3) by omega,if_true,if_false,List.mem_append]at hp
   rcases hp with hp | hp | hp
   ·split at hp
    ·rename_i e;subst e;simp at hp;subst hp;exact .u32z o
    ·simp at hp
   ·split at hp
    ·simp at hp;subst hp;exact .u32s n o (by assumption)
    ·simp at hp
   ·simp at hp;subst hp;exact .u32 n o h
 | u64 n o h=>
   intro p hp
   simp only [pcs,show ¬((5:Int)=0) by omega,show ¬((5:Int)=1) by omega,show ¬((5:Int)=2) by omega,show ¬((5:Int)=3) by omega,show ¬((5:Int)=4) by omega,if_true,if_false,List.mem_append]at hp
   rcases hp with hp | hp | hp
   ·split at hp
    ·rename_i e;subst e;simp at hp;subst hp;exact .u64z o
    ·simp at hp
   ·split at hp
    ·simp at hp;subst hp;exact .u64s n o (by assumption)
    ·simp at hp
   ·simp at hp;subst hp;exact .u64 n o h
 | i8 n o h=>intro p hp;simp [pcs]at hp;subst hp;exact .i8 n o h
 | i16 n o h=>intro p hp;simp [pcs]at hp;subst hp;exact .i16 n o h
 | i32 n o h=>
   intro p hp
   simp [pcs]at hp
   rcases hp with⟨hc,rfl⟩ | rfl
   ·exact .i32s n o ⟨h.1,by have:=hc.1;simpa using this,by have:=hc.2;simpa using this⟩
   ·exact .i32 n o h
 | i64 n o h=>
   intro p hp
   simp [pcs]at hp
   rcases hp with⟨hc,rfl⟩ | rfl
   ·exact .i64s n o ⟨h.1,by have:=hc.1;simpa using this,by have:=hc.2;simpa using this⟩
   ·exact .i64 n o h
 | f32 n o h=>intro p hp;simp [pcs]at hp;subst hp;exact .f32 n o h
 | f64 n o h=>intro p hp;simp [pcs]at hp;subst hp;exact .f64 n o h
 | time n o h=>intro p hp;simp [pcs]at hp;subst hp;exact .time n o h
 | uuid t o h=>intro p hp;simp [pcs]at hp;subst hp;exact .uuid t o h
 | bin t o h=>exact lng_leaf (fun c d=>Leaf _ (c::d)) (fun h8=>.bin8 t o h8) (.bin32 t o (by omega))
 | str t o h hv=>exact lng_leaf (fun c d=>Leaf _ (c::d)) (fun h8=>.str8 t o h8) (.str32 t o (by omega))
 | sym t o h hv=>exact lng_leaf (fun c d=>Leaf _ (c::d)) (fun h8=>.sym8 t o h8) (.sym32 t o (by omega))
theorem lng_len(c8 c32:UInt8)(t:List UInt8):1≤(lng c8 c32 t).length∧(lng c8 c32 t).length≤3:=by
 unfold lng
 split<;>simp
theorem pcs_len{v:V}(h:LeafOk v):1≤(pcs v).length∧(pcs v).length≤3:=by
 have two:∀(c:Prop) [Decidable c] (a b:UInt8×List UInt8),1≤((if c then [a]else [])++[b]).length∧((if c then [a]else [])++[b]).length≤3:=by
  intro c _ a b
  split<;>simp
 have three:∀(c e:Prop) [Decidable c] [Decidable e] (a b x:UInt8×List UInt8),1≤((if c then [a]else [])++((if e then [b]else [])++[x])).length∧((if c then [a]else [])++((if e then [b]else [])++[x])).length≤3:=by
  intro c e _ _ a b x
  split<;>split<;>simp
 cases h with
 | u32 n o h=>exact three _ _ _ _ _
 | u64 n o h=>exact three _ _ _ _ _
 | i32 n o h=>exact two _ _ _
 | i64 n o h=>exact two _ _ _
 | bin t o h=>exact lng_len _ _ _
 | str t o h hv=>exact lng_len _ _ _
 | sym t o h hv=>exact lng_len _ _ _
 | bool n o h=>exact⟨Nat.le_succ _,Nat.le_succ _⟩
 | _=>exact⟨Nat.le_refl _,by show 1≤3;omega⟩
def longC(k:Int):UInt8:=
 if k=0 then 64 else if k=1 then 86 else if k=2 then 80 else if k=3 then 96 else if k=4 then 112 else if k=5 then 128 else if k=6 then 81 else if k=7 then 97 else if k=8 then 113 else if k=9 then 129
 else if k=10 then 114 else if k=11 then 130 else if k=16 then 131 else if k=17 then 152 else if k=18 then 176 else if k=19 then 177 else if k=20 then 179 else 0
def shortC(k:Int):UInt8:=
 if k=4 then 82 else if k=5 then 83 else if k=8 then 84 else if k=9 then 85 else if k=18 then 160 else if k=19 then 161 else if k=20 then 163 else 0
def pick1(code:UInt8)(l:List (UInt8×List UInt8)):Option (List UInt8):=(l.find? fun p=>p.1==code).map (·.2)
def elems(code:UInt8):List V→Option (List UInt8)
 | []=>some []
 | v::r=>match pick1 code (pcs v),elems code r with
   | some d,some e=>some (d++e)
   | _,_=>none
theorem num_inv{k:Int}{code:UInt8}{s:Nat}{ok:Nat→Prop}(hT:NumT k code s ok){v:V}{d:List UInt8}(h:Leaf v (code::d))(hk:v.kind=k):d=beB s v.num∧ok v.num∧v.text=[]:=by
 obtain⟨b,hb⟩:∃b,b=code::d:=⟨_,rfl⟩
 rw [←hb]at h
 cases h<;>cases hT<;>simp [V.kind]at hk
 all_goals first | (simp at hb;done) | skip
 all_goals (simp at hb)
 all_goals (subst hb;exact⟨rfl,(by assumption),rfl⟩)
theorem text_inv{k:Int}{code:UInt8}{s:Nat}(hT:TextT k code s){v:V}{d:List UInt8}(h:Leaf v (code::d))(hk:v.kind=k):v.num=0∧∃q,d=q++v.text∧q.length=s∧Lib.beNat q=v.text.length:=by
 obtain⟨b,hb⟩:∃b,b=code::d:=⟨_,rfl⟩
 rw [←hb]at h
 cases h<;>cases hT<;>simp [V.kind]at hk
 all_goals first | (simp at hb;done) | skip
 all_goals (simp at hb)
 all_goals (subst hb;exact⟨rfl,_,rfl,beB_len _ _,beNat_beB _ _ (by omega)⟩)
theorem uuid_inv{v:V}{d:List UInt8}(h:Leaf v (152::d))(hk:v.kind=17):v.num=0∧v.text.length=16∧d=v.text:=by
 obtain⟨b,hb⟩:∃b,b=152::d:=⟨_,rfl⟩
 rw [←hb]at h
 cases h<;>simp [V.kind]at hk
 simp at hb
 subst hb
 exact⟨rfl,by assumption,rfl⟩
theorem pick1_mem{code:UInt8}{l:List (UInt8×List UInt8)}{d:List UInt8}(h:pick1 code l=some d):(code,d)∈l:=by
 unfold pick1 at h
 cases hf:l.find? fun p=>p.1==code with
 | none=>rw [hf]at h;simp at h
 | some p=>
   rw [hf]at h
   have h1:=List.mem_of_find?_eq_some hf
   have h2:=List.find?_some hf
   simp at h h2
   subst h;subst h2
   exact h1
theorem LeafOk.plain{v:V}(h:LeafOk v):v=.mk v.kind v.num v.text [] v.of []:=by cases h<;>rfl
theorem elems_inv{code:UInt8}{v:V}{r:List V}{d:List UInt8}(h:elems code (v::r)=some d):∃a b,pick1 code (pcs v)=some a∧elems code r=some b∧d=a++b:=by
 unfold elems at h
 split at h
 ·rename_i a b h1 h2
  exact⟨a,b,h1,h2,by simpa using h.symm⟩
 ·simp at h
theorem elems_num{k:Int}{code:UInt8}{s:Nat}{ok:Nat→Prop}(hT:NumT k code s ok):∀{ks:List V} {d:List UInt8},(∀v∈ks,v.kind=k∧LeafOk v)→elems code ks=some d→d=(ks.map fun v=>beB s v.num).flatten∧∀v∈ks,ok v.num∧v.text=[]
 | [],d,_,h=>by simp [elems]at h;subst h;exact⟨rfl,by simp⟩
 | v::r,d,ha,h=>by
   obtain⟨a,b,h1,h2,rfl⟩:=elems_inv h
   obtain⟨e1,e2⟩:=ha v (List.mem_cons_self ..)
   obtain⟨rfl,e3,e4⟩:=num_inv hT (pcs_leaf e2 _ (pick1_mem h1)) e1
   obtain⟨rfl,e5⟩:=elems_num hT (fun u hu=>ha u (List.mem_cons_of_mem _ hu)) h2
   exact⟨by simp,fun u hu=>(List.mem_cons.1 hu).elim (fun e=>by subst e;exact⟨e3,e4⟩) (e5 u)⟩
theorem elems_text{k:Int}{code:UInt8}{s:Nat}(hT:TextT k code s):∀{ks:List V} {d:List UInt8},(∀v∈ks,v.kind=k∧LeafOk v)→elems code ks=some d→Lens s (ks.map V.text) d∧∀v∈ks,v.num=0
 | [],d,_,h=>by simp [elems]at h;subst h;exact⟨.nil,by simp⟩
 | v::r,d,ha,h=>by
   obtain⟨a,b,h1,h2,rfl⟩:=elems_inv h
   obtain⟨e1,e2⟩:=ha v (List.mem_cons_self ..)
   obtain⟨e3,q,rfl,e4,e5⟩:=text_inv hT (pcs_leaf e2 _ (pick1_mem h1)) e1
   obtain⟨e6,e7⟩:=elems_text hT (fun u hu=>ha u (List.mem_cons_of_mem _ hu)) h2
   refine⟨?_,fun u hu=>(List.mem_cons.1 hu).elim (fun e=>by subst e;exact e3) (e7 u)⟩
   rw [List.append_assoc]
   exact .cons e4 e5 e6
theorem elems_uuid:∀{ks:List V} {d:List UInt8},(∀v∈ks,v.kind=17∧LeafOk v)→elems 152 ks=some d→d=(ks.map V.text).flatten∧∀v∈ks,v.num=0∧v.text.length=16
 | [],d,_,h=>by simp [elems]at h;subst h;exact⟨rfl,by simp⟩
 | v::r,d,ha,h=>by
   obtain⟨a,b,h1,h2,rfl⟩:=elems_inv h
   obtain⟨e1,e2⟩:=ha v (List.mem_cons_self ..)
   obtain⟨e3,e4,rfl⟩:=uuid_inv (pcs_leaf e2 _ (pick1_mem h1)) e1
   obtain⟨rfl,e5⟩:=elems_uuid (fun u hu=>ha u (List.mem_cons_of_mem _ hu)) h2
   exact⟨by simp,fun u hu=>(List.mem_cons.1 hu).elim (fun e=>by subst e;exact⟨e3,e4⟩) (e5 u)⟩
theorem elems_enc{k:Int}{ks:List V}(h:ArrOk k ks)(code:UInt8)(hc:code=longC k∨code=shortC k∧code≠0){d:List UInt8}(hd:elems code ks=some d):EncA ks code d:=by
 have hp:Plain k ks:=fun v hv=>by
  obtain⟨e1,e2,_⟩:=h.all v hv
  exact⟨v.num,v.text,v.of,by rw [←e1];exact e2.plain⟩
 have ha:∀v∈ks,v.kind=k∧LeafOk v:=fun v hv=>⟨(h.all v hv).1,(h.all v hv).2.1⟩
 have N:∀{s:Nat} {ok:Nat→Prop},NumT k code s ok→EncA ks code d:=fun hT=>by
  obtain⟨rfl,e⟩:=elems_num hT ha hd
  exact .num hT hp e
 have T:∀{s:Nat},18≤k→TextT k code s→EncA ks code d:=fun h18 hT=>by
  obtain⟨e1,e2⟩:=elems_text hT ha hd
  exact .text hT hp (fun v hv=>⟨e2 v hv,(h.all v hv).2.2 h18⟩) e1
 have hk:=h.kind
 have hcs:k=1∨k=2∨k=3∨k=4∨k=5∨k=6∨k=7∨k=8∨k=9∨k=10∨k=11∨k=16∨k=17∨k=18∨k=19∨k=20:=by omega
 rcases hcs with rfl | rfl | rfl | rfl | rfl | rfl | rfl | rfl | rfl | rfl | rfl | rfl | rfl | rfl | rfl | rfl
 all_goals rcases hc with rfl | ⟨rfl,h0⟩
 all_goals first
  | exact absurd rfl h0
  | exact N .bool | exact N .u8 | exact N .u16 | exact N .u32 | exact N .u32s | exact N .u64 | exact N .u64s | exact N .i8 | exact N .i16 | exact N .i32 | exact N .i32s | exact N .i64 | exact N .i64s | exact N .f32 | exact N .f64 | exact N .time
  | exact T (by omega) .bin32 | exact T (by omega) .bin8 | exact T (by omega) .str32 | exact T (by omega) .str8 | exact T (by omega) .sym32 | exact T (by omega) .sym8
  | skip
 obtain⟨rfl,e⟩:=elems_uuid ha hd
 exact .uuid hp e
theorem pick1_long{v:V}(h:LeafOk v)(hk:1≤v.kind):∃d,pick1 (longC v.kind) (pcs v)=some d:=by
 have two:∀(c:Prop) [Decidable c] (x y:UInt8) (a b:List UInt8),∃d,pick1 y ((if c then [(x,a)]else [])++[(y,b)])=some d:=by
  intro c _ x y a b
  by_cases hc:c<;>by_cases hxy:x=y<;>simp [pick1,hc,hxy]
 have three:∀(c e:Prop) [Decidable c] [Decidable e] (x y z:UInt8) (a b f:List UInt8),∃d,pick1 z ((if c then [(x,a)]else [])++((if e then [(y,b)]else [])++[(z,f)]))=some d:=by
  intro c e _ _ x y z a b f
  by_cases hc:c<;>by_cases he:e<;>by_cases h1:x=z<;>by_cases h2:y=z<;>simp [pick1,hc,he,h1,h2]
 cases h with
 | null o=>simp [V.kind]at hk
 | u32 n o h=>exact three _ _ _ _ _ _ _ _
 | u64 n o h=>exact three _ _ _ _ _ _ _ _
 | i32 n o h=>exact two _ _ _ _ _
 | i64 n o h=>exact two _ _ _ _ _
 | bin t o h=>exact two _ _ _ _ _
 | str t o h hv=>exact two _ _ _ _ _
 | sym t o h hv=>exact two _ _ _ _ _
 | bool n o h=>
   rcases Nat.lt_or_ge 0 n with h1 | h1
   ·obtain rfl:n=1:=by omega
    exact⟨_,rfl⟩
   ·obtain rfl:n=0:=by omega
    exact⟨_,rfl⟩
 | _=>exact⟨_,rfl⟩
theorem elems_long{k:Int}(hk:1≤k):∀{ks:List V},(∀v∈ks,v.kind=k∧LeafOk v)→∃d,elems (longC k) ks=some d
 | [],_=>⟨[],rfl⟩
 | v::r,h=>by
   obtain⟨rfl,e⟩:=h v (List.mem_cons_self ..)
   obtain⟨a,ha⟩:=pick1_long e hk
   obtain⟨b,hb⟩:=elems_long hk fun u hu=>h u (List.mem_cons_of_mem _ hu)
   exact⟨a++b,by simp [elems,ha,hb]⟩
def lngc(c8 c32:UInt8)(data:List UInt8)(n:Nat):List (UInt8×List UInt8):=
 (if n≤255∧data.length+1≤255 then [(c8,beB 1 (data.length+1)++(beB 1 n++data))]else [])++[(c32,beB 4 (data.length+4)++(beB 4 n++data))]
theorem lngc_hd(c8 c32:UInt8)(data:List UInt8)(n:Nat)(h1:data.length+4<4294967296)(h2:n<4294967296):∀p∈lngc c8 c32 data n,∃h,p.1::p.2=h++data∧Hd c8 c32 n data h:=by
 intro p hp
 have long:∃h,c32::(beB 4 (data.length+4)++(beB 4 n++data))=h++data∧Hd c8 c32 n data h:=
  ⟨c32::(beB 4 (data.length+4)++beB 4 n),by simp,.inr ⟨_,_,rfl,beB_len _ _,beB_len _ _,beNat_beB _ _ (by omega),beNat_beB _ _ (by omega)⟩⟩
 unfold lngc at hp
 split at hp
 ·rename_i hc
  simp only [List.singleton_append,List.mem_cons,List.mem_nil_iff,or_false]at hp
  rcases hp with rfl | rfl
  ·refine⟨[c8,UInt8.ofNat ((data.length+1)/256 ^ 0 % 256),UInt8.ofNat (n/256 ^ 0 % 256)],by simp [beB],.inl ⟨_,_,rfl,?_,?_⟩⟩
   ·simp;omega
   ·simp;omega
  ·exact long
 ·simp only [List.nil_append,List.mem_cons,List.mem_nil_iff,or_false]at hp
  subst hp
  exact long
theorem lngc_len(c8 c32:UInt8)(data:List UInt8)(n:Nat):1≤(lngc c8 c32 data n).length∧(lngc c8 c32 data n).length≤3:=by
 unfold lngc
 split<;>simp
inductive EncW:List V→List UInt8→Prop where
 | nil:EncW [] []
 | plain {v:V} {vs:List V} {b bs:List UInt8} (h:EncV [v] b) (hs:EncW vs bs):EncW (v::vs) (b++bs)
 | comp0 {o od:Int} {c:Nat} {vs:List V} {d bs:List UInt8} (hd:Leaf (.mk 5 c [] [] od []) d) (hs:EncW vs bs):EncW (.mk 21 0 [] [] o [.mk 5 c [] [] od []]::vs) ((0::(d++[69]))++bs)
 | comp {o od:Int} {c:Nat} {kids vs:List V} {d body h bs:List UInt8} (hd:Leaf (.mk 5 c [] [] od []) d) (hk:EncW kids body) (hh:Hd 192 208 kids.length body h) (hm:kids.length≤1000) (hs:EncW vs bs):
  EncW (.mk 21 0 [] kids o [.mk 5 c [] [] od []]::vs) ((0::(d++(h++body)))++bs)
inductive AbleW:List V→Prop where
 | nil:AbleW []
 | plain {v:V} {vs:List V} (h:AbleL [v]) (hs:AbleW vs):AbleW (v::vs)
 | comp {o od:Int} {c:Nat} {kids vs:List V} (hc:c<18446744073709551616) (hk:AbleW kids) (hm:kids.length≤1000) (hs:AbleW vs):AbleW (.mk 21 0 [] kids o [.mk 5 c [] [] od []]::vs)
mutual
def wt:V→Nat
 | .mk _ _ t ks _ ds=>12+t.length+wts ks+wts ds
def wts:List V→Nat
 | []=>0
 | a::r=>wt a+wts r
end
theorem wts_append(a b:List V):wts (a++b)=wts a+wts b:=by
 induction a with
 | nil=>simp [wts]
 | cons x a ih=>simp [wts,ih];omega
theorem wts_take(l:List V)(j:Nat):wts (l.take j)≤wts l:=by
 have:=wts_append (l.take j) (l.drop j)
 rw [List.take_append_drop]at this
 omega
theorem Leaf.short{v:V}{b:List UInt8}(h:Leaf v b):b.length≤wt v:=by
 cases h<;>simp [wt,wts,beB_len]<;>omega
theorem Hd.short{k8 k32:UInt8}{n:Nat}{body h:List UInt8}(H:Hd k8 k32 n body h):h.length≤9:=by
 rcases H with⟨s,c,rfl,_⟩ | ⟨p,q,rfl,hp,hq,_⟩
 ·simp
 ·simp [hp,hq]
theorem Lens.short{s:Nat}(hs:s≤4){d:List UInt8}:∀{ks:List V},Lens s (ks.map V.text) d→d.length≤wts ks
 | [],h=>by cases h;simp
 | v::r,h=>by
   obtain⟨x,hx⟩:∃x,x=(v::r).map V.text:=⟨_,rfl⟩
   rw [←hx]at h
   cases h with
   | nil=>simp at hx
   | cons hq hl hr=>
     simp only [List.map_cons,List.cons.injEq]at hx
     obtain⟨rfl,rfl⟩:=hx
     have:=Lens.short hs hr
     cases v with
     | mk k n t ks o ds=>
       simp only [V.text,List.length_append,wts,wt,hq]at *
       omega
theorem EncA.short{l:List V}{code:UInt8}{d:List UInt8}(h:EncA l code d):d.length≤wts l:=by
 have num:∀(s:Nat),s≤8→∀l:List V,((l.map fun v=>beB s v.num).flatten).length≤wts l:=by
  intro s hs l
  induction l with
  | nil=>simp
  | cons v r ih=>
    cases v with
    | mk k n t ks o ds=>
      simp only [List.map_cons,List.flatten_cons,List.length_append,beB_len,wts,wt]
      omega
 cases h with
 | num hT hp hn=>exact num _ (by cases hT<;>omega) _
 | uuid hp hn=>
   clear hp
   induction l with
   | nil=>simp
   | cons v r ih=>
     cases v with
     | mk k n t ks o ds=>
       have h1:=ih (fun u hu=>hn u (List.mem_cons_of_mem _ hu))
       simp only [List.map_cons,List.flatten_cons,List.length_append,wts,wt,V.text]
       omega
 | text hT hp hn hl=>exact hl.short (by cases hT<;>omega)
theorem EncV.short{l:List V}{b:List UInt8}(h:EncV l b):b.length≤wts l:=by
 induction h with
 | nil=>simp
 | leaf h hs ih=>
   have:=h.short
   simp only [List.length_append,wts];omega
 | list0 hs ih=>simp [wts,wt];omega
 | list hk hh hm hs ih1 ih2=>
   have:=hh.short
   simp only [List.length_append,wts,wt,List.length_nil];omega
 | map hk hh hm ok hs ih1 ih2=>
   have:=hh.short
   simp only [List.length_append,wts,wt,List.length_nil];omega
 | arr hk hh hm hne hs ih=>
   have:=hh.short
   have:=hk.short
   simp only [List.length_append,wts,wt,List.length_nil,List.length_cons];omega
theorem EncW.short{l:List V}{b:List UInt8}(h:EncW l b):b.length≤wts l:=by
 induction h with
 | nil=>simp
 | plain h hs ih=>
   have:=h.short
   simp only [wts]at this
   simp only [List.length_append,wts];omega
 | comp0 hd hs ih=>
   have:=hd.short
   simp only [wts,wt,List.length_nil]at this
   simp only [List.length_append,wts,wt,List.length_nil,List.length_cons];omega
 | comp hd hk hh hm hs ih1 ih2=>
   have:=hd.short
   have:=hh.short
   simp only [wts,wt,List.length_nil]at *
   simp only [List.length_append,wts,wt,List.length_nil,List.length_cons];omega
theorem EncV.append{l m:List V}{b c:List UInt8}(h:EncV l b)(k:EncV m c):EncV (l++m) (b++c):=by
 induction h with
 | nil=>exact k
 | leaf h hs ih=>rw [List.append_assoc];exact .leaf h ih
 | list0 hs ih=>rw [List.append_assoc];exact .list0 ih
 | list hk hh hm hs ih1 ih2=>rw [List.append_assoc];exact .list hk hh hm ih2
 | map hk hh hm ok hs ih1 ih2=>rw [List.append_assoc];exact .map hk hh hm ok ih2
 | arr hk hh hm hne hs ih=>rw [List.append_assoc];exact .arr hk hh hm hne ih
theorem EncW.append{l m:List V}{b c:List UInt8}(h:EncW l b)(k:EncW m c):EncW (l++m) (b++c):=by
 induction h with
 | nil=>exact k
 | plain h hs ih=>rw [List.append_assoc];exact .plain h ih
 | comp0 hd hs ih=>rw [List.append_assoc];exact .comp0 hd ih
 | comp hd hk hh hm hs ih1 ih2=>rw [List.append_assoc];exact .comp hd hk hh hm ih2
mutual
def cnt:V→Nat
 | .mk _ _ _ ks _ ds=>1+cnts ks+cnts ds
def cnts:List V→Nat
 | []=>0
 | a::r=>cnt a+cnts r
end
theorem FitL.short{l:List V}(h:FitL l):wts l≤cnts l*131084:=by
 induction h with
 | nil=>simp [wts]
 | cons h hk hd hs ih1 ih2 ih3=>
   have:=h.short
   simp only [wts,wt,cnts,cnt]
   omega
theorem cnts_append(a b:List V):cnts (a++b)=cnts a+cnts b:=by
 induction a with
 | nil=>simp [cnts]
 | cons x a ih=>simp [cnts,ih];omega
end Go.Proofs.YtfoegolfadhmjaaGreatDoor
namespace Go.Proofs.YtfoegolfadhmjaaGreatDoor
open Go.RowKit Go.WideShapes
def LM(w:World)(l:List V)(s:Value):Prop:=∃cells,SlM w s l.length cells∧Mem w l cells
def VM(w:World)(v:V)(x:Value):Prop:=∃cells,x=.agg cells.toArray∧Mem w [v] cells
section
variable {w w':World}
theorem SlM.keep{s:Value}{n:Nat}{cells:List Value}(h:SlM w s n cells)(k:New w w'):SlM w' s n cells:=by
 obtain⟨A,c,hs,h1,h2,h3,h4⟩:=h
 refine⟨A,c,hs,h1,h2,h3,fun hn=>?_⟩
 obtain⟨d,i,hA,hc⟩:=h4 hn
 exact⟨d,i,hA,fun q u hu=>k.cell (hc q u hu) trivial⟩
theorem Mem.keep{l:List V}{cells:List Value}(h:Mem w l cells)(k:New w w'):Mem w' l cells:=by
 induction h with
 | nil=>exact .nil
 | cons hn hk hkm hd hdm hs ih1 ih2 ih3=>exact .cons hn (hk.keep k) ih1 (hd.keep k) ih2 ih3
theorem LM.keep{l:List V}{s:Value}(h:LM w l s)(k:New w w'):LM w' l s:=by
 obtain⟨cells,h1,h2⟩:=h
 exact⟨cells,h1.keep k,h2.keep k⟩
theorem VM.keep{v:V}{x:Value}(h:VM w v x)(k:New w w'):VM w' v x:=by
 obtain⟨cells,h1,h2⟩:=h
 exact⟨cells,h1,h2.keep k⟩
theorem VM.mk{k:Int}{n:Nat}{t:List UInt8}{ks ds:List V}{o:Int}{sk sd:Value}(hn:n<18446744073709551616)(hk:LM w ks sk)(hd:LM w ds sd):VM w (.mk k n t ks o ds) (.agg #[.int .i64 k,.int .u64 (n:Int),.string ⟨t.toArray⟩,sk,.int .i64 o,sd]):=by
 obtain⟨ck,k1,k2⟩:=hk
 obtain⟨cd,d1,d2⟩:=hd
 exact⟨_,rfl,.cons hn k1 k2 d1 d2 .nil⟩
theorem VM.inv{k:Int}{n:Nat}{t:List UInt8}{ks ds:List V}{o:Int}{x:Value}(h:VM w (.mk k n t ks o ds) x):∃sk sd,x=.agg #[.int .i64 k,.int .u64 (n:Int),.string ⟨t.toArray⟩,sk,.int .i64 o,sd]∧n<18446744073709551616∧LM w ks sk∧LM w ds sd:=by
 obtain⟨cells,rfl,hm⟩:=h
 cases hm with
 | cons hn hk hkm hd hdm hs=>
   cases hs
   exact⟨_,_,rfl,hn,⟨_,hk,hkm⟩,⟨_,hd,hdm⟩⟩
theorem LM.nil:LM w [] (.slice none 0 0):=⟨[],slM_nil w,.nil⟩
theorem LM.shape{l:List V}{s:Value}(h:LM w l s):∃A c,s=.slice A l.length c∧l.length≤c∧c≤maxLen:=by
 obtain⟨cells,⟨A,c,hs,h1,h2,_⟩,_⟩:=h
 exact⟨A,c,hs,h1,h2⟩
theorem LM.own{base:Nat}{l:List V}{s:Value}{cells:List Value}(h:w.ownsRow base 78 6 s l.length cells)(hm:Mem w l cells):LM w l s:=⟨cells,slM_own h,hm⟩
theorem Mem.at{l:List V}{cells:List Value}(h:Mem w l cells):∀j (hj:j<l.length),∃a0 a1 a2 a3 a4 a5,VM w l[j] (.agg #[a0,a1,a2,a3,a4,a5])∧cells[j*6]? =some a0∧cells[j*6+1]? =some a1∧cells[j*6+2]? =some a2∧cells[j*6+3]? =some a3∧cells[j*6+4]? =some a4∧cells[j*6+5]? =some a5:=by
 induction h with
 | nil=>intro j hj;simp at hj
 | cons hn hk hkm hd hdm hs ih1 ih2 ih3=>
   intro j hj
   cases j with
   | zero=>exact⟨_,_,_,_,_,_,VM.mk hn ⟨_,hk,hkm⟩ ⟨_,hd,hdm⟩,by simp,by simp,by simp,by simp,by simp,by simp⟩
   | succ j=>
     obtain⟨a0,a1,a2,a3,a4,a5,h0,h1,h2,h3,h4,h5,h6⟩:=ih3 j (by simpa using hj)
     have e:∀q,(j+1)*6+q=j*6+q+6:=by intro q;omega
     have e0:(j+1)*6=j*6+6:=by omega
     refine⟨a0,a1,a2,a3,a4,a5,by simpa using h0,?_,?_,?_,?_,?_,?_⟩
     ·rw [e0];simpa using h1
     ·rw [e];simpa using h2
     ·rw [e];simpa using h3
     ·rw [e];simpa using h4
     ·rw [e];simpa using h5
     ·rw [e];simpa using h6
theorem LM.at{l:List V}{s:Value}(h:LM w l s)(hne:l≠[]):∃d i c,s=.slice (some ⟨d,i,none⟩) l.length c∧l.length≤c∧c≤maxLen∧∀j (hj:j<l.length),∃a0 a1 a2 a3 a4 a5,VM w l[j] (.agg #[a0,a1,a2,a3,a4,a5])∧w.cell? ⟨d,i+j*6,none⟩=some a0∧w.cell? ⟨d,i+j*6+1,none⟩=some a1∧w.cell? ⟨d,i+j*6+2,none⟩=some a2∧w.cell? ⟨d,i+j*6+3,none⟩=some a3∧w.cell? ⟨d,i+j*6+4,none⟩=some a4∧w.cell? ⟨d,i+j*6+5,none⟩=some a5:=by
 obtain⟨cells,⟨A,c,rfl,h1,h2,h3,h4⟩,hm⟩:=h
 obtain⟨d,i,rfl,hc⟩:=h4 (by simpa using hne)
 refine⟨d,i,c,rfl,h1,h2,fun j hj=>?_⟩
 obtain⟨a0,a1,a2,a3,a4,a5,h0,e0,e1,e2,e3,e4,e5⟩:=hm.at j hj
 have get:∀q a,cells[j*6+q]? =some a→q<6→w.cell? ⟨d,i+j*6+q,none⟩=some a:=fun q a ha hq=>by
  rw [Nat.add_assoc]
  exact hc (j*6+q) a ha
 exact⟨a0,a1,a2,a3,a4,a5,h0,get 0 _ e0 (by omega),get 1 _ e1 (by omega),get 2 _ e2 (by omega),get 3 _ e3 (by omega),get 4 _ e4 (by omega),get 5 _ e5 (by omega)⟩
end
def RowV(w:World)(base:Nat)(sk:Value)(us:List V):Prop:=
 ∃cells,w.ownsRow base 78 6 sk us.length cells∧Dep (fun b=>base≤b∧some b≠sk.ownBlock) w (fun w=>Mem w us cells)
theorem RowV.nil{w:World}{base:Nat}:RowV w base (.slice none 0 0) []:=⟨[],⟨rfl,.inl ⟨rfl,rfl⟩⟩,fun _ _=>.nil⟩
theorem own_keepK{ok:Nat→Prop}{w w':World}{base n:Nat}{v:Value}{xs:List Value}(h:w.ownsRow base 78 6 v n xs)(k:Keep ok w w')(ho:∀b,base≤b→ok b):w'.ownsRow base 78 6 v n xs:=by
 obtain⟨h1,h2⟩:=h
 refine⟨h1,?_⟩
 rcases h2 with h2 | ⟨g,cap,cur,hv,hg,hb,hr⟩
 ·exact .inl h2
 ·exact .inr ⟨g,cap,cur,hv,hg,k.blk hb (ho _ hg),hr⟩
theorem RowV.keep{ok:Nat→Prop}{w w':World}{base:Nat}{sk:Value}{us:List V}(h:RowV w base sk us)(k:Keep ok w w')(ho:∀b,base≤b→ok b):RowV w' base sk us:=by
 obtain⟨cells,h1,h2⟩:=h
 exact⟨cells,own_keepK h1 k ho,h2.keep k fun b _ hb=>ho b hb.1⟩
theorem RowV.shape{w:World}{base:Nat}{sk:Value}{us:List V}(h:RowV w base sk us):∃A c,sk=.slice A us.length c:=by
 obtain⟨cells,h1,_⟩:=h
 rcases h1.2 with⟨rfl,h⟩ | ⟨g,cap,cur,rfl,_⟩
 ·rw [h];exact⟨none,0,rfl⟩
 ·exact⟨_,cap,rfl⟩
theorem RowV.far{w:World}{base:Nat}{sk:Value}{us:List V}(h:RowV w base sk us)(k:Nat)(hk:k<base):some k≠sk.ownBlock:=by
 obtain⟨cells,h1,_⟩:=h
 rcases h1.2 with⟨rfl,_⟩ | ⟨g,cap,cur,rfl,hg,_⟩
 ·intro e;cases e
 ·intro e
  injection e with e
  simp at e
  omega
theorem RowV.step{w:World}{base:Nat}{sk:Value}{us vs:List V}(h:RowV w base sk us)(B i c:Nat)(news:List Value)(hB:∀j u,news[j]? =some u→w.cell? ⟨B,i+j,none⟩=some u)
 (hm:Dep (fun b=>base≤b∧some b≠sk.ownBlock) w (fun w=>Mem w vs news)) (hv:0<vs.length) (hn:us.length+vs.length≤1000000) (hbase:base≤w.heap.size):
 ∃g cap w',(Builtin.append_ #[43,43] 43 #[sk,.slice (some ⟨B,i,none⟩) vs.length c]).run Tryz.prog w=.ok (.slice (some ⟨g,0,none⟩) (us.length+vs.length) cap) w'∧
  RowV w' base (.slice (some ⟨g,0,none⟩) (us.length+vs.length) cap) (us++vs)∧Keep (fun k=>some k≠sk.ownBlock) w w':=by
 obtain⟨cells,h1,h2⟩:=h
 obtain⟨i0,hi,hz,hs,hb⟩:=info_parts info78
 have hlen:=hm.here.len
 obtain⟨g,cap,w',hr,h3,h4,h5,h6⟩:=run_append_lies (P:=Tryz.prog) w 43 43 base 78 i0 _ 6 88 Tryz.underlying43 hi hz hs hb rfl (by omega) sk us.length cells h1 ⟨B,i,none⟩ vs.length c news hlen (fun j u hj=>by
  have hplain:(⟨B,i,none⟩:Addr).add j=⟨B,i+j,none⟩:=by unfold Addr.add;split<;>simp_all
  rw [hplain]
  exact hB j u hj) hm.here.one hv (by unfold maxLen;omega) (by omega) hbase w.heap.size rfl
 have kk:Keep (fun k=>some k≠sk.ownBlock) w w':=Keep.of_grown h4 (fun k hk=>hk)
 refine⟨g,cap,w',hr,⟨cells++news,by simpa using h3,?_⟩,kk⟩
 refine((h2.and hm).step kk.size (fun k hk hb=>kk.block k hk hb.2) (fun k hk hb=>⟨hb.1,fun e=>?_⟩)).imp fun w' h=>h.1.append h.2
 have e':k=g:=by simpa [Value.ownBlock]using e
 rcases h5 with h5 | h5
 ·exact hb.2 (by rw [e',h5])
 ·omega
theorem RowV.out{w:World}{base:Nat}{sk:Value}{us:List V}(h:RowV w base sk us):Dep (fun b=>base≤b) w (fun w=>LM w us sk):=by
 obtain⟨cells,h1,h2⟩:=h
 intro w' hw
 have hown:w'.ownsRow base 78 6 sk us.length cells:=by
  obtain⟨e1,e2⟩:=h1
  refine⟨e1,?_⟩
  rcases e2 with e2 | ⟨g,cap,cur,hv,hg,hb,hr⟩
  ·exact .inl e2
  ·exact .inr ⟨g,cap,cur,hv,hg,(hw g (lt_blk hb) hg).trans hb,hr⟩
 exact .own hown (h2 w' fun k hk hb=>hw k hk hb.1)
inductive NoD:List V→Prop where
 | nil:NoD []
 | cons {k:Int} {n:Nat} {t:List UInt8} {ks vs:List V} {o:Int} (hk:NoD ks) (hs:NoD vs):NoD (.mk k n t ks o []::vs)
end Go.Proofs.YtfoegolfadhmjaaGreatDoor
namespace Go.Proofs.YtfoegolfadhmjaaGreatDoor
open Go.RowKit Go.WideShapes
def ValOK(w:World)(v:V)(x:Value):Prop:=
 ∀w1,New w w1→Calls Tryz.prog 91 #[x] w1 fun e w2=>∃y u,e=.returned (.tuple #[y,.bool true])∧New w1 w2∧Sims [v] [u]∧Dep (fun b=>w1.heap.size≤b) w2 (fun w=>VM w u y)
theorem Sims.app{l m l' m':List V}(h:Sims l m)(k:Sims l' m'):Sims (l++l') (m++m'):=by
 induction h with
 | nil=>exact k
 | leaf hk hk' h0 hs ih=>exact .leaf hk hk' h0 ih
 | list hk hs _ ih=>exact .list hk ih
 | map hp h1 hk hs _ ih=>exact .map hp h1 hk ih
 | arr hk h1 hsk hs _ ih=>exact .arr hk h1 hsk ih
theorem VM.parts{w:World}{u:V}{y:Value}(h:VM w u y):∃k n t A l c o A' l' c',y=.agg #[.int .i64 k,.int .u64 n,.string t,.slice A l c,.int .i64 o,.slice A' l' c']:=by
 obtain⟨k,n,t,ks,o,ds⟩:=u
 obtain⟨sk,sd,rfl,hn,hk,hd⟩:=h.inv
 obtain⟨A,c,rfl,_⟩:=hk.shape
 obtain⟨A',c',rfl,_⟩:=hd.shape
 exact⟨k,n,_,A,_,c,o,A',_,c',rfl⟩
theorem VM.mem{w:World}{u:V}{cells:Array Value}(h:VM w u (.agg cells)):Mem w [u] cells.toList:=by
 obtain⟨cs,he,hm⟩:=h
 injection he with he
 subst he
 simpa using hm
theorem RowV.ownLt{w:World}{base:Nat}{sk:Value}{us:List V}(h:RowV w base sk us){g:Nat}(hg:sk.ownBlock=some g):g<w.heap.size:=by
 obtain⟨cells,h1,_⟩:=h
 rcases h1.2 with⟨rfl,_⟩ | ⟨g',cap,cur,rfl,_,hb,_⟩
 ·cases hg
 ·have:g'=g:=by simpa [Value.ownBlock]using hg
  rw [←this]
  exact lt_blk hb
theorem listed_nil(w:World):Calls Tryz.prog 151 #[.slice none 0 0] w fun e w'=>e=.returned (.tuple #[.slice none 0 0,.bool true])∧New w w':=by
 go_enter Tryz.func151,Tryz.ntmps151
 go_wp2_with fail
 go_loopg [4,11] 0 (fun m s4 s11 wr=>m=0∧s4=.slice none 0 0∧s11=.int .i64 0∧New w wr)
 case atStart=>exact⟨rfl,rfl,rfl,Keep.refl _ _⟩
 case round=>
  obtain⟨rfl,rfl,rfl,kr⟩:=hrel
  go_wp2
  go_ret2
  exact⟨rfl,kr⟩
theorem listed_is(l:List V)(xs:List Value)(d:Nat)(w:World)(hd:w.heap[d]? =some (.cells xs.toArray 20 (0,0)))(hlen:l.length=xs.length)(hmax:xs.length≤1000)(hok:∀j (hj:j<l.length) (hx:j<xs.length),ValOK w l[j] xs[j]):
 Calls Tryz.prog 151 #[.slice (some ⟨d,0,none⟩) xs.length xs.length] w fun e w'=>∃s us,e=.returned (.tuple #[s,.bool true])∧New w w'∧Sims l us∧Dep (fun b=>w.heap.size≤b) w' (fun w=>LM w us s):=by
 obtain⟨n,hn⟩:∃n,n=xs.length:=⟨_,rfl⟩
 rw [←hn]at hmax ⊢
 have N:=Lib.hid hn
 have HD:=Lib.hid hd
 have OK:=Lib.hid hok
 have HL:=Lib.hid hlen
 clear hn hd hok hlen
 go_enter Tryz.func151,Tryz.ntmps151
 go_wp2_with fail
 go_loopg [4,11] n (fun m s4 s11 wr=>∃(j:Nat) (us:List V),j+m=n∧s11=.int .i64 (j:Int)∧us.length=j∧New w wr∧Sims (l.take j) us∧RowV wr w.heap.size s4 us)
 case atStart=>exact⟨0,[],by omega,rfl,rfl,Keep.refl _ _,.nil,RowV.nil⟩
 case round=>
  obtain⟨j,us,hj,rfl,hus,kr,hsim,hrow⟩:=hrel
  have SIM:=Lib.hid hsim
  clear hsim
  have hsh:=hrow.shape
  obtain⟨A,cc,rfl⟩:=hsh
  rw [hus]at hrow ⊢
  rcases gk with _ | m
  ·obtain rfl:j=n:=by omega
   have ho:=hrow.out
   have HO:=Lib.hid ho
   clear ho hrow
   go_wp2
   go_ret2
   refine⟨_,us,rfl,kr,?_,HO.out⟩
   have:=SIM.out
   rwa [N.out,←HL.out,List.take_length]at this
  ·have hjn:j<n:=by omega
   have tj:decide (j<n)=true:=by simpa using hjn
   have hjx:j<xs.length:=by rw [←N.out];exact hjn
   have hjl:j<l.length:=by rw [HL.out];exact hjx
   obtain⟨x,hx⟩:∃x,x=xs[j]:=⟨_,rfl⟩
   have hcx:wr.cell? ⟨d,j,none⟩=some x:=by
    rw [blk_cell (kr.blk HD.out trivial),hx]
    simp [hjx]
   have hcall:=OK.out j hjl hjx wr kr
   rw [←hx]at hcall
   have HC:=Lib.hid hcall
   clear hcall hx
   go_wp2_with fail
   refine HC.out.mono ?_
   rintro e w2 ⟨y,u,rfl,k2,hs2,hv2⟩
   obtain⟨yk,yn,yt,A1,l1,c1,yo,A2,l2,c2,rfl⟩:=hv2.here.parts
   have hrow2:=(((hrow.keep k2 (fun _ _=>trivial)).keep ((Keep.refl (fun _=>True) w2).alloc (.cells #[.int .i64 yk,.int .u64 yn,.string yt,.slice A1 l1 c1,.int .i64 yo,.slice A2 l2 c2] 78)) (fun _ _=>trivial)).keep ((Keep.refl (fun _=>True) _).alloc (.cells #[.int .i64 yk,.int .u64 yn,.string yt,.slice A1 l1 c1,.int .i64 yo,.slice A2 l2 c2] 78)) (fun _ _=>trivial))
   have kA:=((Keep.refl (fun _=>True) w2).alloc (.cells #[.int .i64 yk,.int .u64 yn,.string yt,.slice A1 l1 c1,.int .i64 yo,.slice A2 l2 c2] 78)).alloc (.cells #[.int .i64 yk,.int .u64 yn,.string yt,.slice A1 l1 c1,.int .i64 yo,.slice A2 l2 c2] 78)
   have e1:=kr.size
   have e2:=k2.size
   have e3:=kA.size
   have hfar:∀g,Value.ownBlock (.slice A j cc)=some g→g<wr.heap.size:=fun g hg=>hrow.ownLt hg
   have hfar2:=hrow.far
   obtain⟨g5,c5,w5,hap,hrow5,k5⟩:=hrow2.step (vs:=[u]) (w2.heap.size+1) 0 1 [.int .i64 yk,.int .u64 yn,.string yt,.slice A1 l1 c1,.int .i64 yo,.slice A2 l2 c2]
    (fun q z hq=>by
     have hb:=blk_new (w2.alloc (.cells #[.int .i64 yk,.int .u64 yn,.string yt,.slice A1 l1 c1,.int .i64 yo,.slice A2 l2 c2] 78)) (.cells #[.int .i64 yk,.int .u64 yn,.string yt,.slice A1 l1 c1,.int .i64 yo,.slice A2 l2 c2] 78)
     simp only [World.size_alloc]at hb
     rw [blk_cell hb,Nat.zero_add]
     simpa using hq)
    ((hv2.imp fun _ h=>h.mem).step kA.size (fun i hi _=>kA.block i hi trivial) (fun k hk hb=>⟨by omega,fun e=>by have:=hfar _ e.symm;omega⟩)) (by simp) (by simp;omega) (by omega)
   rw [hus]at hap hrow5
   simp only [List.length_singleton]at hap hrow5
   have HAP:=Lib.hid hap
   have HS2:=Lib.hid hs2
   clear hap hs2 hv2 hrow hrow2
   go_wp2_with (at_builtin;refine wpList_append_eq rfl _ _ 43 rfl _ _ _ _ rfl rfl HAP.out ?_)
   go_roundg m
   case measure=>omega
   case rel=>
    refine⟨j+1,us++[u],by omega,congrArg _ (by omega),by simp [hus],((kr.trans k2).trans kA).then k5 (fun i hi _=>hfar2 i hi),?_,hrow5⟩
    ·rw [←List.take_append_getElem hjl]
     exact SIM.out.app HS2.out
end Go.Proofs.YtfoegolfadhmjaaGreatDoor
namespace Go.Proofs
open Go.Shelf
def Tryz.lays192_ren:Go.Shelf.Ren:=⟨fun | 192=>90 | 190=>146 | 125=>213 | 258=>212 | 128=>242 | 129=>243 | 302=>233 | 303=>234 | 304=>235 | 305=>236 | 306=>237 | 307=>238 | 308=>239 | 309=>240 | 310=>241 | 333=>251 | 329=>252 | 330=>253 | 334=>254 | 335=>255 | 336=>256 | 344=>304 | n=>n,fun | 31=>52 | 0=>0 | 9=>9 | 3=>3 | 46=>139 | 51=>22 | 53=>26 | 4=>4 | 183=>427 | 182=>426 | 131=>432 | 5=>5 | 218=>450 | 222=>146 | 228=>483 | 229=>484 | n=>n,fun | n=>n⟩
theorem Tryz.lays192:Go.Proofs.Lays.n192 Tryz.prog Tryz.lays192_ren:={
 mixed:=by kernel_rfl
 f125:=Tryz.func213.trans (congrArg some (by kernel_rfl))
 f128:=Tryz.func242.trans (congrArg some (by kernel_rfl))
 f129:=Tryz.func243.trans (congrArg some (by kernel_rfl))
 f190:=Tryz.func146.trans (congrArg some (by kernel_rfl))
 f192:=Tryz.func90.trans (congrArg some (by kernel_rfl))
 f258:=Tryz.func212.trans (congrArg some (by kernel_rfl))
 f302:=Tryz.func233.trans (congrArg some (by kernel_rfl))
 f303:=Tryz.func234.trans (congrArg some (by kernel_rfl))
 f304:=Tryz.func235.trans (congrArg some (by kernel_rfl))
 f305:=Tryz.func236.trans (congrArg some (by kernel_rfl))
 f306:=Tryz.func237.trans (congrArg some (by kernel_rfl))
 f307:=Tryz.func238.trans (congrArg some (by kernel_rfl))
 f308:=Tryz.func239.trans (congrArg some (by kernel_rfl))
 f309:=Tryz.func240.trans (congrArg some (by kernel_rfl))
 f310:=Tryz.func241.trans (congrArg some (by kernel_rfl))
 f329:=Tryz.func252.trans (congrArg some (by kernel_rfl))
 f330:=Tryz.func253.trans (congrArg some (by kernel_rfl))
 f333:=Tryz.func251.trans (congrArg some (by kernel_rfl))
 f334:=Tryz.func254.trans (congrArg some (by kernel_rfl))
 f335:=Tryz.func255.trans (congrArg some (by kernel_rfl))
 f336:=Tryz.func256.trans (congrArg some (by kernel_rfl))
 f344:=Tryz.func304.trans (congrArg some (by kernel_rfl))
 t0:=Tryz.underlying0
 a0:=Tryz.isAgg0
 z0:=Tryz.sizeOf0
 v0:=Tryz.zeroValue0
 t3:=Tryz.underlying3
 a3:=Tryz.isAgg3
 z3:=Tryz.sizeOf3
 v3:=Tryz.zeroValue3
 t4:=Tryz.underlying4
 a4:=Tryz.isAgg4
 z4:=Tryz.sizeOf4
 v4:=Tryz.zeroValue4
 t5:=Tryz.underlying5
 a5:=Tryz.isAgg5
 z5:=Tryz.sizeOf5
 v5:=Tryz.zeroValue5
 t9:=Tryz.underlying9
 a9:=Tryz.isAgg9
 z9:=Tryz.sizeOf9
 v9:=Tryz.zeroValue9
 t31:=Tryz.underlying52
 a31:=Tryz.isAgg52
 z31:=Tryz.sizeOf52
 v31:=Tryz.zeroValue52
 t46:=Tryz.underlying139
 a46:=Tryz.isAgg139
 z46:=Tryz.sizeOf139
 v46:=Tryz.zeroValue139
 t51:=Tryz.underlying22
 a51:=Tryz.isAgg22
 z51:=Tryz.sizeOf22
 v51:=Tryz.zeroValue22
 t53:=Tryz.underlying26
 a53:=Tryz.isAgg26
 z53:=Tryz.sizeOf26
 v53:=Tryz.zeroValue26
 t131:=Tryz.underlying432
 a131:=Tryz.isAgg432
 z131:=Tryz.sizeOf432
 v131:=Tryz.zeroValue432
 t182:=Tryz.underlying426
 a182:=Tryz.isAgg426
 z182:=Tryz.sizeOf426
 v182:=Tryz.zeroValue426
 t183:=Tryz.underlying427
 a183:=Tryz.isAgg427
 z183:=Tryz.sizeOf427
 v183:=Tryz.zeroValue427
 t218:=Tryz.underlying450
 a218:=Tryz.isAgg450
 z218:=Tryz.sizeOf450
 v218:=Tryz.zeroValue450
 t222:=Tryz.underlying146
 a222:=Tryz.isAgg146
 z222:=Tryz.sizeOf146
 v222:=Tryz.zeroValue146
 t228:=Tryz.underlying483
 a228:=Tryz.isAgg483
 z228:=Tryz.sizeOf483
 v228:=Tryz.zeroValue483
 t229:=Tryz.underlying484
 a229:=Tryz.isAgg484
 z229:=Tryz.sizeOf484
 v229:=Tryz.zeroValue484 }
open Go.Sort Go.RowKit in
theorem Tryz.sort_Strings(blk off cap:Nat)(ss:List (List UInt8))(w:World)(hH:Holds encStr w blk off ss.toArray)(hblk:blk<w.heap.size)(hsz:ss.length<4611686018427387904):
 Calls Tryz.prog 90 #[.slice (some ⟨blk,off,none⟩) ss.length cap] w fun e w'=>
  e=.returned (.tuple #[])∧∃n os,w'=grow (putRow encStr (Sort.ahead w n) blk off (ss.mergeSort fun x y=>decide (x≤y)).toArray) os:=Any.sort_Strings Tryz.lays192 blk off cap ss w hH hblk hsz
theorem Tryz.sort_Strings_none(p:Option Addr)(cap:Nat)(w:World):Calls Tryz.prog 90 #[.slice p 0 cap] w fun e w'=>e=.returned (.tuple #[])∧w'=w:=Any.sort_Strings_none Tryz.lays192 p cap w
end Go.Proofs
namespace Go.Proofs.YtfoegolfadhmjaaGreatDoor
open Go.RowKit Go.WideShapes Go.Sort
theorem sort_texts(g cap:Nat)(cur:Array Value)(ts:List (List UInt8))(w:World)(hg:w.heap[g]? =some (.cells cur 9 (0,0)))(hcur:∀j (hj:j<ts.length),cur[j]? =some (.string ⟨ts[j].toArray⟩))(hlen:ts.length≤1000):
 Calls Tryz.prog 90 #[.slice (some ⟨g,0,none⟩) ts.length cap] w fun e w'=>e=.returned (.tuple #[])∧Keep (fun k=>k≠g) w w'∧∃(ts':List (List UInt8)) (cur':Array Value),ts'.Perm ts∧w'.heap[g]? =some (.cells cur' 9 (0,0))∧∀j (hj:j<ts'.length),cur'[j]? =some (.string ⟨ts'[j].toArray⟩):=by
 have hlt:=lt_blk hg
 refine(Tryz.sort_Strings g 0 cap ts w (fun j hj=>?_) hlt (by omega)).mono ?_
 ·have hj':j<ts.length:=by simpa using hj
  refine⟨?_,blk_free hg _⟩
  rw [blk_cell hg,Nat.zero_add,hcur j hj']
  simp [encStr,hj']
 ·rintro e w' ⟨rfl,n,os,rfl⟩
  have hl:(ts.mergeSort fun x y=>decide (x≤y)).length=ts.length:=List.length_mergeSort ..
  refine⟨rfl,?_,ts.mergeSort (fun x y=>decide (x≤y)),putCells encStr 0 (ts.mergeSort fun x y=>decide (x≤y)).toArray cur,List.mergeSort_perm ..,?_,fun j hj=>?_⟩
  ·refine⟨rfl,rfl,rfl,by simp [grow,putRow,mapBlock,ahead],fun k hk hne=>?_⟩
   rw [heap_grow_old _ _ (by simpa [putRow,mapBlock,ahead]using hk)]
   simp [putRow,mapBlock,ahead,Array.getElem?_modify,Ne.symm hne]
  ·rw [heap_grow_old _ _ (by simpa [putRow,mapBlock,ahead]using hlt)]
   simp [putRow,mapBlock,ahead,Array.getElem?_modify,hg,onCells]
  ·have hj1:j<ts.length:=by omega
   have hc:=hcur j hj1
   have hcs:j<cur.size:=(Array.getElem?_eq_some_iff.1 hc).1
   simp only [putCells,Array.getElem?_mapIdx,Array.getElem?_eq_getElem hcs,Option.map_some]
   rw [if_pos ⟨by omega,by simp;omega⟩]
   simp [encStr]
   rw [List.getElem?_eq_getElem hj]
   rfl
end Go.Proofs.YtfoegolfadhmjaaGreatDoor
namespace Go.Proofs.YtfoegolfadhmjaaGreatDoor
open Go.RowKit Go.WideShapes
theorem find_text:∀(l:List MapEntry) (i:Nat) (s:ByteArray) (e:MapEntry),e∈l→e.key=.string s→(∀x∈l,∃s',x.key=.string s')→(l.map (·.key)).Nodup→∃j,Instr.findNow .string (.string s) l i=some (some (j,e.val))
 | x::l,i,s,e,he,hs,hall,hnd=>by
   obtain⟨s',hs'⟩:=hall x (List.mem_cons_self ..)
   rw [List.map_cons,List.nodup_cons]at hnd
   rcases List.mem_cons.1 he with rfl | he
   ·refine⟨i,?_⟩
    have:(s==s)=true:=by
     cases s with
     | mk a=>exact beq_self_eq_true a
    simp only [Instr.findNow,hs,Instr.sameNow,this]
   ·have hne:s≠s':=fun h=>hnd.1 (List.mem_map.2 ⟨e,he,by rw [hs,hs',h]⟩)
    have:(s==s')=false:=ba_ne hne
    obtain⟨j,hj⟩:=find_text l (i+1) s e he hs (fun y hy=>hall y (List.mem_cons_of_mem _ hy)) hnd.2
    refine⟨j,?_⟩
    simp only [Instr.findNow,hs',Instr.sameNow,this]
    exact hj
theorem lookup_text(w:World)(t kt:TypeId)(ht:Tryz.prog.underlying t=some (.map kt 20))(hkt:Tryz.prog.underlying kt=some .string)(r:Nat)(es:Array MapEntry)(clock:Nat)(hr:w.heap[r]? =some (.map es clock))(s:ByteArray)(e:MapEntry)(he:e∈es.toList)(hs:e.key=.string s)(hall:∀x∈es.toList,∃s',x.key=.string s')(hnd:(es.toList.map (·.key)).Nodup):
 (Instr.lookup t (.map (some r)) (.string s) false).run Tryz.prog w=.ok e.val w:=by
 obtain⟨j,hj⟩:=find_text es.toList 0 s e he hs hall hnd
 have hc:(Instr.checkKey es.isEmpty 10000 kt (.string s)).run Tryz.prog w=.ok () w:=by
  show(Instr.checkKey es.isEmpty (9999+1) kt (.string s)).run Tryz.prog w=_
  have gen:∀d,(Instr.checkKey es.isEmpty (d+1) kt (.string s)).run Tryz.prog w=.ok () w:=fun d=>by
   simp [Instr.checkKey,run_underlying hkt,Result.andThen]
  exact gen 9999
 have hfk:(Instr.findKey kt (.string s) es.toList).run Tryz.prog w=.ok (some (j,e.val)) w:=by
  unfold Instr.findKey
  simp only [Sem.run_bind,run_underlying hkt,Result.andThen_ok,hj]
  rfl
 simp only [Instr.lookup,Sem.run_bind,run_underlying ht,Result.andThen_ok,getObj,hr,Sem.run_pure]
 simp only [Sem.run,hr,Result.andThen_ok,Sem.run_pure,hc,hfk,Sem.run_bind]
 rfl
theorem lift_perm{α β:Type}(f:α→β):∀(ts:List β) (ps:List α),ts.Perm (ps.map f)→∃qs,ps.Perm qs∧qs.map f=ts
 | [],ps,h=>⟨[],by
   have:=h.length_eq
   rw [List.eq_nil_of_length_eq_zero (l:=ps) (by simpa using this.symm)],rfl⟩
 | t::r,ps,h=>by
   obtain⟨q,hq,rfl⟩:=List.mem_map.1 (h.mem_iff.1 (List.mem_cons_self ..))
   obtain⟨a,b,rfl⟩:=List.append_of_mem hq
   have h2:(f q::r).Perm (f q::(a++b).map f):=h.trans (by
    simp only [List.map_append,List.map_cons]
    exact List.perm_middle)
   obtain⟨qs,h3,h4⟩:=lift_perm f r (a++b) (List.perm_cons _|>.1 h2)
   exact⟨q::qs,List.perm_middle.trans (h3.cons q),by simp [h4]⟩
def RowS(w:World)(base:Nat)(sk:Value)(ts:List (List UInt8)):Prop:=w.ownsRow base 9 1 sk ts.length (ts.map fun t=>.string ⟨t.toArray⟩)
theorem RowS.nil{w:World}{base:Nat}:RowS w base (.slice none 0 0) []:=⟨rfl,.inl ⟨rfl,rfl⟩⟩
theorem RowS.keep{ok:Nat→Prop}{w w':World}{base:Nat}{sk:Value}{ts:List (List UInt8)}(h:RowS w base sk ts)(k:Keep ok w w')(ho:∀b,base≤b→ok b):RowS w' base sk ts:=by
 obtain⟨h1,h2⟩:=h
 refine⟨h1,?_⟩
 rcases h2 with h2 | ⟨g,cap,cur,hv,hg,hb,hr⟩
 ·exact .inl h2
 ·exact .inr ⟨g,cap,cur,hv,hg,k.blk hb (ho _ hg),hr⟩
theorem RowS.cases{w:World}{base:Nat}{sk:Value}{ts:List (List UInt8)}(h:RowS w base sk ts):(sk=.slice none 0 0∧ts=[])∨∃g cap cur,sk=.slice (some ⟨g,0,none⟩) ts.length cap∧base≤g∧w.heap[g]? =some (.cells cur 9 (0,0))∧∀j (hj:j<ts.length),cur[j]? =some (.string ⟨ts[j].toArray⟩):=by
 obtain⟨h1,h2⟩:=h
 rcases h2 with⟨rfl,h2⟩ | ⟨g,cap,cur,hv,hg,hb,hn,hc,hs,ht⟩
 ·exact .inl ⟨rfl,List.eq_nil_of_length_eq_zero h2⟩
 ·refine .inr ⟨g,cap,cur,hv,hg,hb,fun j hj=>?_⟩
  have:(cur.toList.take (ts.length*1))[j]? =(ts.map fun t=>Value.string ⟨t.toArray⟩)[j]? :=by rw [ht]
  rw [List.getElem?_take_of_lt (by omega),Array.getElem?_toList]at this
  rw [this]
  simp [hj]
theorem RowS.far{w:World}{base:Nat}{sk:Value}{ts:List (List UInt8)}(h:RowS w base sk ts)(k:Nat)(hk:k<base):some k≠sk.ownBlock:=by
 rcases h.cases with⟨rfl,_⟩ | ⟨g,cap,cur,rfl,hg,_⟩
 ·intro e;cases e
 ·intro e
  injection e with e
  simp at e
  omega
theorem RowS.shape{w:World}{base:Nat}{sk:Value}{ts:List (List UInt8)}(h:RowS w base sk ts):∃A c,sk=.slice A ts.length c:=by
 rcases h.cases with⟨rfl,rfl⟩ | ⟨g,cap,cur,rfl,_⟩
 ·exact⟨none,0,rfl⟩
 ·exact⟨_,cap,rfl⟩
theorem RowS.step{w:World}{base:Nat}{sk:Value}{ts:List (List UInt8)}(h:RowS w base sk ts)(t:List UInt8)(B c:Nat)(hB:w.heap[B]? =some (.cells #[.string ⟨t.toArray⟩] 9 (0,0)))(hn:ts.length≤1000000)(hbase:base≤w.heap.size):
 ∃g cap w',(Builtin.append_ #[52,52] 52 #[sk,.slice (some ⟨B,0,none⟩) 1 c]).run Tryz.prog w=.ok (.slice (some ⟨g,0,none⟩) (ts.length+1) cap) w'∧RowS w' base (.slice (some ⟨g,0,none⟩) (ts.length+1) cap) (ts++[t])∧Keep (fun k=>some k≠sk.ownBlock) w w':=by
 obtain⟨i0,hi,hz,hs,hb⟩:=info_parts info9
 obtain⟨g,cap,w',hr,h3,h4,_,_⟩:=run_append_lies (P:=Tryz.prog) w 52 52 base 9 i0 _ 1 16 Tryz.underlying52 hi hz hs hb rfl (by omega) sk ts.length _ h ⟨B,0,none⟩ 1 c [.string ⟨t.toArray⟩] rfl (fun j u hj=>by
  have hplain:(⟨B,0,none⟩:Addr).add j=⟨B,0+j,none⟩:=by unfold Addr.add;split<;>simp_all
  rw [hplain,blk_cell hB,Nat.zero_add]
  simpa using hj) (by simp [Value.oneCell']) (by omega) (by unfold maxLen;omega) (by omega) hbase w.heap.size rfl
 exact⟨g,cap,w',hr,by simpa [RowS]using h3,Keep.of_grown h4 (fun k hk=>hk)⟩
end Go.Proofs.YtfoegolfadhmjaaGreatDoor
namespace Go.Proofs.YtfoegolfadhmjaaGreatDoor
open Go.RowKit Go.WideShapes
def RowB(w:World)(base:Nat)(sk:Value)(bs:List UInt8):Prop:=w.ownsRow base 5 1 sk bs.length (bs.map fun x=>.int .u8 (x.toNat:Int))
theorem RowB.nil{w:World}{base:Nat}:RowB w base (.slice none 0 0) []:=⟨rfl,.inl ⟨rfl,rfl⟩⟩
theorem RowB.keep{ok:Nat→Prop}{w w':World}{base:Nat}{sk:Value}{bs:List UInt8}(h:RowB w base sk bs)(k:Keep ok w w')(ho:∀b,base≤b→ok b):RowB w' base sk bs:=by
 obtain⟨h1,h2⟩:=h
 refine⟨h1,?_⟩
 rcases h2 with h2 | ⟨g,cap,cur,hv,hg,hb,hr⟩
 ·exact .inl h2
 ·exact .inr ⟨g,cap,cur,hv,hg,k.blk hb (ho _ hg),hr⟩
theorem RowB.mono{w:World}{base base':Nat}{sk:Value}{bs:List UInt8}(h:RowB w base sk bs)(hb:base'≤base):RowB w base' sk bs:=by
 obtain⟨h1,h2⟩:=h
 refine⟨h1,?_⟩
 rcases h2 with h2 | ⟨g,cap,cur,hv,hg,hr⟩
 ·exact .inl h2
 ·exact .inr ⟨g,cap,cur,hv,by omega,hr⟩
theorem RowB.far{w:World}{base:Nat}{sk:Value}{bs:List UInt8}(h:RowB w base sk bs)(k:Nat)(hk:k<base):some k≠sk.ownBlock:=by
 rcases h.2 with⟨rfl,_⟩ | ⟨g,cap,cur,rfl,hg,_⟩
 ·intro e;cases e
 ·intro e
  injection e with e
  simp at e
  omega
theorem RowB.lt{w:World}{base:Nat}{sk:Value}{bs:List UInt8}(h:RowB w base sk bs){g:Nat}(hg:sk.ownBlock=some g):g<w.heap.size:=by
 rcases h.2 with⟨rfl,_⟩ | ⟨g',cap,cur,rfl,_,hb,_⟩
 ·cases hg
 ·have:g'=g:=by simpa [Value.ownBlock]using hg
  rw [←this]
  exact lt_blk hb
theorem RowB.shape{w:World}{base:Nat}{sk:Value}{bs:List UInt8}(h:RowB w base sk bs):∃A c,sk=.slice A bs.length c:=by
 rcases h.2 with⟨rfl,h0⟩ | ⟨g,cap,cur,rfl,_⟩
 ·rw [h0];exact⟨none,0,rfl⟩
 ·exact⟨_,cap,rfl⟩
theorem RowB.out{w:World}{base:Nat}{sk:Value}{bs:List UInt8}(h:RowB w base sk bs):Dep (fun b=>base≤b) w (fun w=>SlB w sk bs):=by
 rcases h.2 with⟨rfl,h0⟩ | ⟨g,cap,cur,rfl,hg,hb,hn,hc,hs,ht⟩
 ·have:bs=[]:=List.eq_nil_of_length_eq_zero h0
  subst this
  exact fun _ _=>⟨none,0,rfl,Nat.le_refl _,by omega,fun h=>absurd rfl h⟩
 ·intro w' hw
  refine⟨_,cap,rfl,hn,by unfold maxLen at hc;omega,fun _=>⟨g,0,rfl,cur,(hw g (lt_blk hb) hg).trans hb,fun j hj=>?_⟩⟩
  have:(cur.toList.take (bs.length*1))[j]? =(bs.map fun x=>Value.int .u8 (x.toNat:Int))[j]? :=by rw [ht]
  rw [List.getElem?_take_of_lt (by omega),Array.getElem?_toList]at this
  rw [Nat.zero_add,this]
  simp [hj]
theorem RowB.app{w:World}{base:Nat}{sk:Value}{bs:List UInt8}(h:RowB w base sk bs){v:Value}{l:List UInt8}(hv:SlB w v l)(hn:bs.length+l.length≤1099511627776)(hbase:base≤w.heap.size):
 ∃sk' w',(Builtin.append_ #[27,27] 27 #[sk,v]).run Tryz.prog w=.ok sk' w'∧RowB w' base sk' (bs++l)∧Keep (fun k=>some k≠sk.ownBlock) w w'∧(sk'.ownBlock=sk.ownBlock∨sk'.ownBlock=some w.heap.size):=by
 obtain⟨i0,hi,hz,hs,hb⟩:=info_parts info5
 obtain⟨A,c,rfl,hl1,hc,hA⟩:=hv
 cases A with
 | some ad=>
   obtain⟨v',w',hr,h2,h3,_,h5⟩:=run_append_own_at (P:=Tryz.prog) (w:=w) base 27 27 5 i0 _ 1 1 Tryz.underlying27 hi hz hs hb rfl (by omega) sk bs.length _ h ad l.length c (l.map fun x=>Value.int .u8 (x.toNat:Int)) (by simp) (fun j u hj=>by
    have hjl:j<l.length:=by
     rcases Nat.lt_or_ge j l.length with h | h
     ·exact h
     ·simp [List.getElem?_eq_none (show(l.map fun x=>Value.int .u8 (x.toNat:Int)).length≤j by simpa using h)]at hj
    obtain⟨d,i,he,hd⟩:=hA (fun e=>by rw [e]at hjl;simp at hjl)
    injection he with he
    subst he
    have hplain:(⟨d,i,none⟩:Addr).add j=⟨d,i+j,none⟩:=by unfold Addr.add;split<;>simp_all
    rw [hplain,hd.cell j hjl]
    simpa [hjl]using hj) (by intro u hu;obtain⟨x,_,rfl⟩:=List.mem_map.1 hu;rfl) (by unfold maxLen;omega) (by omega) hbase
   exact⟨v',w',hr,by unfold RowB;rw [List.length_append,List.map_append];exact h2,Keep.of_grown h3 (fun k hk=>hk),h5⟩
 | none=>
   have hl0:l=[]:=by
    rcases l with _ | ⟨x,l⟩
    ·rfl
    ·obtain⟨d,i,he,_⟩:=hA (by simp)
     cases he
   subst hl0
   obtain⟨A',c',rfl⟩:=h.shape
   refine⟨_,w,?_,by rw [List.append_nil];exact h,Keep.refl _ _,.inl rfl⟩
   have hle:bs.length≤c':=by
    rcases h.2 with⟨e,h0⟩ | ⟨g,cap,cur,e,hg,hb,hn,_⟩
    ·injection e with _ _ e;omega
    ·injection e with _ _ e;omega
   exact run_append_nothing w 27 27 27 5 i0 Tryz.underlying27 hi A' bs.length c' hle _ (Src.ofNil w Tryz.underlying27 c)
end Go.Proofs.YtfoegolfadhmjaaGreatDoor
namespace Go.Proofs.YtfoegolfadhmjaaGreatDoor
open Go.RowKit Go.WideShapes
theorem at_dst(d:Nat){P:Program}{ops:Array Oper}{o:Oper}{a:Act}{w:World}{K:Act→World→Prop}{Q:Exit→Act→World→Prop}{E:Prop}(_:o.dst=some d)
 (h:if Region.wanted o (yielded ops a.tmps)=true then Oper.wp P o a w K Q else E):if Region.wanted o (yielded ops a.tmps)=true then Oper.wp P o a w K Q else E:=h
structure CellsOf{α:Type}(sz:Nat)(R:World→List α→List Value→Prop):Prop where
 nil:∀w,R w [] []
 len:∀{w us cells},R w us cells→cells.length=us.length*sz
 one:∀{w us cells},R w us cells→∀u∈cells,u.oneCell'=true
 app:∀{w l1 l2 c1 c2},R w l1 c1→R w l2 c2→R w (l1++l2) (c1++c2)
def RowG{α:Type}(T:TypeId)(sz:Nat)(R:World→List α→List Value→Prop)(w:World)(base:Nat)(sk:Value)(us:List α):Prop:=
 ∃cells,w.ownsRow base T sz sk us.length cells∧Dep (fun b=>base≤b∧some b≠sk.ownBlock) w (fun w=>R w us cells)
def SlG(T:TypeId)(sz:Nat)(w:World)(s:Value)(n:Nat)(cells:List Value):Prop:=
 ∃A c,s=.slice A n c∧n≤c∧c≤maxLen∧cells.length=n*sz∧
  (n≠0→∃d i cs,A=some ⟨d,i,none⟩∧w.heap[d]? =some (.cells cs T (0,0))∧∀q,q<n*sz→cs[i+q]? =cells[q]?)
section
variable {α:Type} {T:TypeId} {sz:Nat} {R:World→List α→List Value→Prop}
theorem RowG.nil{w:World}{base:Nat}(C:CellsOf sz R):RowG T sz R w base (.slice none 0 0) []:=⟨[],⟨by simp,.inl ⟨rfl,rfl⟩⟩,fun w' _=>C.nil w'⟩
theorem own_keepG{ok:Nat→Prop}{w w':World}{base n:Nat}{v:Value}{xs:List Value}(h:w.ownsRow base T sz v n xs)(k:Keep ok w w')(ho:∀b,base≤b→ok b):w'.ownsRow base T sz v n xs:=by
 obtain⟨h1,h2⟩:=h
 refine⟨h1,?_⟩
 rcases h2 with h2 | ⟨g,cap,cur,hv,hg,hb,hr⟩
 ·exact .inl h2
 ·exact .inr ⟨g,cap,cur,hv,hg,k.blk hb (ho _ hg),hr⟩
theorem RowG.keep{ok:Nat→Prop}{w w':World}{base:Nat}{sk:Value}{us:List α}(h:RowG T sz R w base sk us)(k:Keep ok w w')(ho:∀b,base≤b→ok b):RowG T sz R w' base sk us:=by
 obtain⟨cells,h1,h2⟩:=h
 exact⟨cells,own_keepG h1 k ho,h2.keep k fun b _ hb=>ho b hb.1⟩
theorem RowG.mono{w:World}{base base':Nat}{sk:Value}{us:List α}(h:RowG T sz R w base sk us)(hb:base'≤base):RowG T sz R w base' sk us:=by
 obtain⟨cells,⟨h1,h2⟩,h3⟩:=h
 refine⟨cells,⟨h1,?_⟩,h3.mono fun b _ h=>⟨by omega,h.2⟩⟩
 rcases h2 with h2 | ⟨g,cap,cur,hv,hg,hr⟩
 ·exact .inl h2
 ·exact .inr ⟨g,cap,cur,hv,by omega,hr⟩
theorem RowG.shape{w:World}{base:Nat}{sk:Value}{us:List α}(h:RowG T sz R w base sk us):∃A c,sk=.slice A us.length c:=by
 obtain⟨cells,h1,_⟩:=h
 rcases h1.2 with⟨rfl,h⟩ | ⟨g,cap,cur,rfl,_⟩
 ·rw [h];exact⟨none,0,rfl⟩
 ·exact⟨_,cap,rfl⟩
theorem RowG.far{w:World}{base:Nat}{sk:Value}{us:List α}(h:RowG T sz R w base sk us)(k:Nat)(hk:k<base):some k≠sk.ownBlock:=by
 obtain⟨cells,h1,_⟩:=h
 rcases h1.2 with⟨rfl,_⟩ | ⟨g,cap,cur,rfl,hg,_⟩
 ·intro e;cases e
 ·intro e
  injection e with e
  simp at e
  omega
theorem RowG.ownLt{w:World}{base:Nat}{sk:Value}{us:List α}(h:RowG T sz R w base sk us){g:Nat}(hg:sk.ownBlock=some g):g<w.heap.size:=by
 obtain⟨cells,h1,_⟩:=h
 rcases h1.2 with⟨rfl,_⟩ | ⟨g',cap,cur,rfl,_,hb,_⟩
 ·cases hg
 ·have:g'=g:=by simpa [Value.ownBlock]using hg
  rw [←this]
  exact lt_blk hb
theorem RowG.step(C:CellsOf sz R){ST:TypeId}{z:Value}{by':Nat}(hST:Tryz.prog.underlying ST=some (.slice T))(hinfo:(Tryz.prog.info? T).map (fun i=>(i.zero,i.size,i.bytes))=some (some z,sz,by'))(hzs:z.cells.size=sz)(hsz:0<sz)(hby:by'≤1000)
 {w:World} {base:Nat} {sk:Value} {us vs:List α} (h:RowG T sz R w base sk us) (B i c:Nat) (news:List Value) (hB:∀j u,news[j]? =some u→w.cell? ⟨B,i+j,none⟩=some u)
 (hm:Dep (fun b=>base≤b∧some b≠sk.ownBlock) w (fun w=>R w vs news)) (hv:0<vs.length) (hn:us.length+vs.length≤1000000) (hbase:base≤w.heap.size):
 ∃g cap w',(Builtin.append_ #[ST,ST] ST #[sk,.slice (some ⟨B,i,none⟩) vs.length c]).run Tryz.prog w=.ok (.slice (some ⟨g,0,none⟩) (us.length+vs.length) cap) w'∧
  RowG T sz R w' base (.slice (some ⟨g,0,none⟩) (us.length+vs.length) cap) (us++vs)∧Keep (fun k=>some k≠sk.ownBlock) w w'∧(sk.ownBlock=some g∨g=w.heap.size):=by
 obtain⟨cells,h1,h2⟩:=h
 obtain⟨i0,hi,hz,hs,hb⟩:=info_parts hinfo
 have hlen:=C.len hm.here
 obtain⟨g,cap,w',hr,h3,h4,h5,h6⟩:=run_append_lies (P:=Tryz.prog) w ST ST base T i0 z sz by' hST hi hz hs hb hzs hsz sk us.length cells h1 ⟨B,i,none⟩ vs.length c news hlen (fun j u hj=>by
  have hplain:(⟨B,i,none⟩:Addr).add j=⟨B,i+j,none⟩:=by unfold Addr.add;split<;>simp_all
  rw [hplain]
  exact hB j u hj) (C.one hm.here) hv (by unfold maxLen;omega) (Nat.le_trans (Nat.mul_le_mul hn hby) (by omega)) hbase w.heap.size rfl
 have kk:Keep (fun k=>some k≠sk.ownBlock) w w':=Keep.of_grown h4 (fun k hk=>hk)
 refine⟨g,cap,w',hr,⟨cells++news,by simpa using h3,?_⟩,kk,h5⟩
 refine((h2.and hm).step kk.size (fun k hk hb=>kk.block k hk hb.2) (fun k hk hb=>⟨hb.1,fun e=>?_⟩)).imp fun w' h=>C.app h.1 h.2
 have e':k=g:=by simpa [Value.ownBlock]using e
 rcases h5 with h5 | h5
 ·exact hb.2 (by rw [e',h5])
 ·omega
theorem slG_nil(w:World):SlG T sz w (.slice none 0 0) 0 []:=⟨none,0,rfl,Nat.le_refl _,by unfold maxLen;omega,by simp,fun h=>absurd rfl h⟩
theorem slG_own{w:World}{base:Nat}{v:Value}{n:Nat}{cells:List Value}(h:w.ownsRow base T sz v n cells):SlG T sz w v n cells:=by
 obtain⟨h1,h2⟩:=h
 rcases h2 with⟨rfl,rfl⟩ | ⟨g,cap,cur,rfl,hg,hb,hn,hc,hs,ht⟩
 ·have:cells=[]:=List.eq_nil_of_length_eq_zero (by simpa using h1)
  subst this
  exact slG_nil w
 ·refine⟨_,cap,rfl,hn,hc,h1,fun _=>⟨g,0,cur,rfl,hb,fun q hq=>?_⟩⟩
  rw [←ht,Nat.zero_add,List.getElem?_take_of_lt hq,Array.getElem?_toList]
theorem RowG.out{w:World}{base:Nat}{sk:Value}{us:List α}(h:RowG T sz R w base sk us):Dep (fun b=>base≤b) w (fun w=>∃cells,SlG T sz w sk us.length cells∧R w us cells):=by
 obtain⟨cells,h1,h2⟩:=h
 intro w' hw
 have hown:w'.ownsRow base T sz sk us.length cells:=by
  obtain⟨e1,e2⟩:=h1
  refine⟨e1,?_⟩
  rcases e2 with e2 | ⟨g,cap,cur,hv,hg,hb,hr⟩
  ·exact .inl e2
  ·exact .inr ⟨g,cap,cur,hv,hg,(hw g (lt_blk hb) hg).trans hb,hr⟩
 exact⟨cells,slG_own hown,h2 w' fun k hk hb=>hw k hk hb.1⟩
theorem SlG.keep{w w':World}{s:Value}{n:Nat}{cells:List Value}(h:SlG T sz w s n cells)(k:New w w'):SlG T sz w' s n cells:=by
 obtain⟨A,c,hs,h1,h2,h3,h4⟩:=h
 refine⟨A,c,hs,h1,h2,h3,fun hn=>?_⟩
 obtain⟨d,i,cs,hA,hd,hc⟩:=h4 hn
 exact⟨d,i,cs,hA,k.blk hd trivial,hc⟩
theorem SlG.shape{w:World}{s:Value}{n:Nat}{cells:List Value}(h:SlG T sz w s n cells):∃A c,s=.slice A n c∧n≤c∧c≤maxLen:=by
 obtain⟨A,c,hs,h1,h2,_⟩:=h
 exact⟨A,c,hs,h1,h2⟩
theorem SlG.at{w:World}{A:Option Addr}{n m c:Nat}{cells:List Value}(h:SlG T sz w (.slice A m c) n cells)(hne:n≠0):∃d i,A=some ⟨d,i,none⟩∧m=n∧n≤c∧c≤maxLen∧∀q u,q<n*sz→cells[q]? =some u→w.cell? ⟨d,i+q,none⟩=some u:=by
 obtain⟨A',c',hs,h1,h2,h3,h4⟩:=h
 injection hs with e1 e2 e3
 subst e1;subst e2;subst e3
 obtain⟨d,i,cs,rfl,hd,hc⟩:=h4 hne
 exact⟨d,i,rfl,rfl,h1,h2,fun q u hq hu=>by rw [blk_cell hd,hc q hq];exact hu⟩
end
end Go.Proofs.YtfoegolfadhmjaaGreatDoor
namespace Go.Proofs
open Go.Shelf
def Tryz.sv6_ren:Go.Shelf.Ren:=⟨fun | 6=>215 | 10=>245 | 11=>246 | 12=>247 | 13=>213 | 14=>248 | 24=>242 | 25=>243 | 26=>296 | 27=>297 | 28=>298 | 29=>299 | 30=>300 | 31=>301 | 32=>302 | 33=>303 | 34=>313 | 35=>314 | 36=>315 | 37=>316 | 38=>317 | 39=>325 | n=>n,fun | 20=>20 | 26=>419 | 35=>439 | 0=>0 | 37=>441 | 3=>3 | 41=>139 | 44=>445 | 49=>22 | 51=>26 | 4=>4 | 54=>478 | 53=>477 | 58=>432 | 5=>5 | 9=>9 | 60=>491 | 64=>146 | 66=>501 | 67=>484 | 17=>17 | 32=>436 | 33=>437 | 82=>520 | 12=>12 | 75=>514 | 76=>515 | 77=>516 | 78=>208 | 79=>517 | 80=>518 | n=>n,fun | n=>n⟩
theorem Tryz.sv6:Go.Proofs.LaysGg.n6 Tryz.prog Tryz.sv6_ren:={
 mixed:=by kernel_rfl
 f6:=Tryz.func215.trans (congrArg some (by kernel_rfl))
 f10:=Tryz.func245.trans (congrArg some (by kernel_rfl))
 f11:=Tryz.func246.trans (congrArg some (by kernel_rfl))
 f12:=Tryz.func247.trans (congrArg some (by kernel_rfl))
 f13:=Tryz.func213.trans (congrArg some (by kernel_rfl))
 f14:=Tryz.func248.trans (congrArg some (by kernel_rfl))
 f24:=Tryz.func242.trans (congrArg some (by kernel_rfl))
 f25:=Tryz.func243.trans (congrArg some (by kernel_rfl))
 f26:=Tryz.func296.trans (congrArg some (by kernel_rfl))
 f27:=Tryz.func297.trans (congrArg some (by kernel_rfl))
 f28:=Tryz.func298.trans (congrArg some (by kernel_rfl))
 f29:=Tryz.func299.trans (congrArg some (by kernel_rfl))
 f30:=Tryz.func300.trans (congrArg some (by kernel_rfl))
 f31:=Tryz.func301.trans (congrArg some (by kernel_rfl))
 f32:=Tryz.func302.trans (congrArg some (by kernel_rfl))
 f33:=Tryz.func303.trans (congrArg some (by kernel_rfl))
 f34:=Tryz.func313.trans (congrArg some (by kernel_rfl))
 f35:=Tryz.func314.trans (congrArg some (by kernel_rfl))
 f36:=Tryz.func315.trans (congrArg some (by kernel_rfl))
 f37:=Tryz.func316.trans (congrArg some (by kernel_rfl))
 f38:=Tryz.func317.trans (congrArg some (by kernel_rfl))
 f39:=Tryz.func325.trans (congrArg some (by kernel_rfl))
 t0:=Tryz.underlying0
 a0:=Tryz.isAgg0
 z0:=Tryz.sizeOf0
 v0:=Tryz.zeroValue0
 i0:=by kernel_rfl
 t3:=Tryz.underlying3
 a3:=Tryz.isAgg3
 z3:=Tryz.sizeOf3
 v3:=Tryz.zeroValue3
 i3:=by kernel_rfl
 t4:=Tryz.underlying4
 a4:=Tryz.isAgg4
 z4:=Tryz.sizeOf4
 v4:=Tryz.zeroValue4
 i4:=by kernel_rfl
 t5:=Tryz.underlying5
 a5:=Tryz.isAgg5
 z5:=Tryz.sizeOf5
 v5:=Tryz.zeroValue5
 i5:=by kernel_rfl
 t9:=Tryz.underlying9
 a9:=Tryz.isAgg9
 z9:=Tryz.sizeOf9
 v9:=Tryz.zeroValue9
 i9:=by kernel_rfl
 t12:=Tryz.underlying12
 a12:=Tryz.isAgg12
 z12:=Tryz.sizeOf12
 v12:=Tryz.zeroValue12
 i12:=by kernel_rfl
 t17:=Tryz.underlying17
 a17:=Tryz.isAgg17
 z17:=Tryz.sizeOf17
 v17:=Tryz.zeroValue17
 i17:=by kernel_rfl
 t20:=Tryz.underlying20
 a20:=Tryz.isAgg20
 z20:=Tryz.sizeOf20
 v20:=Tryz.zeroValue20
 i20:=by kernel_rfl
 t26:=Tryz.underlying419
 a26:=Tryz.isAgg419
 z26:=Tryz.sizeOf419
 v26:=Tryz.zeroValue419
 i26:=by kernel_rfl
 t32:=Tryz.underlying436
 a32:=Tryz.isAgg436
 z32:=Tryz.sizeOf436
 v32:=Tryz.zeroValue436
 i32:=by kernel_rfl
 t33:=Tryz.underlying437
 a33:=Tryz.isAgg437
 z33:=Tryz.sizeOf437
 v33:=Tryz.zeroValue437
 i33:=by kernel_rfl
 t35:=Tryz.underlying439
 a35:=Tryz.isAgg439
 z35:=Tryz.sizeOf439
 v35:=Tryz.zeroValue439
 i35:=by kernel_rfl
 t37:=Tryz.underlying441
 a37:=Tryz.isAgg441
 z37:=Tryz.sizeOf441
 v37:=Tryz.zeroValue441
 i37:=by kernel_rfl
 t41:=Tryz.underlying139
 a41:=Tryz.isAgg139
 z41:=Tryz.sizeOf139
 v41:=Tryz.zeroValue139
 i41:=by kernel_rfl
 t44:=Tryz.underlying445
 a44:=Tryz.isAgg445
 z44:=Tryz.sizeOf445
 v44:=Tryz.zeroValue445
 i44:=by kernel_rfl
 t49:=Tryz.underlying22
 a49:=Tryz.isAgg22
 z49:=Tryz.sizeOf22
 v49:=Tryz.zeroValue22
 i49:=by kernel_rfl
 t51:=Tryz.underlying26
 a51:=Tryz.isAgg26
 z51:=Tryz.sizeOf26
 v51:=Tryz.zeroValue26
 i51:=by kernel_rfl
 t53:=Tryz.underlying477
 a53:=Tryz.isAgg477
 z53:=Tryz.sizeOf477
 v53:=Tryz.zeroValue477
 i53:=by kernel_rfl
 t54:=Tryz.underlying478
 a54:=Tryz.isAgg478
 z54:=Tryz.sizeOf478
 v54:=Tryz.zeroValue478
 i54:=by kernel_rfl
 t58:=Tryz.underlying432
 a58:=Tryz.isAgg432
 z58:=Tryz.sizeOf432
 v58:=Tryz.zeroValue432
 i58:=by kernel_rfl
 t60:=Tryz.underlying491
 a60:=Tryz.isAgg491
 z60:=Tryz.sizeOf491
 v60:=Tryz.zeroValue491
 i60:=by kernel_rfl
 t64:=Tryz.underlying146
 a64:=Tryz.isAgg146
 z64:=Tryz.sizeOf146
 v64:=Tryz.zeroValue146
 i64:=by kernel_rfl
 t66:=Tryz.underlying501
 a66:=Tryz.isAgg501
 z66:=Tryz.sizeOf501
 v66:=Tryz.zeroValue501
 i66:=by kernel_rfl
 t67:=Tryz.underlying484
 a67:=Tryz.isAgg484
 z67:=Tryz.sizeOf484
 v67:=Tryz.zeroValue484
 i67:=by kernel_rfl
 t75:=Tryz.underlying514
 a75:=Tryz.isAgg514
 z75:=Tryz.sizeOf514
 v75:=Tryz.zeroValue514
 i75:=by kernel_rfl
 t76:=Tryz.underlying515
 a76:=Tryz.isAgg515
 z76:=Tryz.sizeOf515
 v76:=Tryz.zeroValue515
 i76:=by kernel_rfl
 t77:=Tryz.underlying516
 a77:=Tryz.isAgg516
 z77:=Tryz.sizeOf516
 v77:=Tryz.zeroValue516
 i77:=by kernel_rfl
 t78:=Tryz.underlying208
 a78:=Tryz.isAgg208
 z78:=Tryz.sizeOf208
 v78:=Tryz.zeroValue208
 i78:=by kernel_rfl
 t79:=Tryz.underlying517
 a79:=Tryz.isAgg517
 z79:=Tryz.sizeOf517
 v79:=Tryz.zeroValue517
 i79:=by kernel_rfl
 t80:=Tryz.underlying518
 a80:=Tryz.isAgg518
 z80:=Tryz.sizeOf518
 v80:=Tryz.zeroValue518
 i80:=by kernel_rfl
 t82:=Tryz.underlying520
 a82:=Tryz.isAgg520
 z82:=Tryz.sizeOf520
 v82:=Tryz.zeroValue520
 i82:=by kernel_rfl }
def Tryz.lays196_ren:Go.Shelf.Ren:=⟨fun | 196=>139 | 259=>211 | n=>n,fun | 9=>9 | 4=>4 | 3=>3 | 5=>5 | 12=>12 | 119=>408 | 0=>0 | 46=>139 | 139=>411 | 138=>410 | 53=>26 | n=>n,fun | 3=>1 | 4=>2 | n=>n⟩
theorem Tryz.lays196:Go.Proofs.Lays.n196 Tryz.prog Tryz.lays196_ren:={
 mixed:=by kernel_rfl
 f196:=Tryz.func139.trans (congrArg some (by kernel_rfl))
 f259:=Tryz.func211.trans (congrArg some (by kernel_rfl))
 t0:=Tryz.underlying0
 a0:=Tryz.isAgg0
 z0:=Tryz.sizeOf0
 v0:=Tryz.zeroValue0
 t3:=Tryz.underlying3
 a3:=Tryz.isAgg3
 z3:=Tryz.sizeOf3
 v3:=Tryz.zeroValue3
 t4:=Tryz.underlying4
 a4:=Tryz.isAgg4
 z4:=Tryz.sizeOf4
 v4:=Tryz.zeroValue4
 t5:=Tryz.underlying5
 a5:=Tryz.isAgg5
 z5:=Tryz.sizeOf5
 v5:=Tryz.zeroValue5
 t9:=Tryz.underlying9
 a9:=Tryz.isAgg9
 z9:=Tryz.sizeOf9
 v9:=Tryz.zeroValue9
 t12:=Tryz.underlying12
 a12:=Tryz.isAgg12
 z12:=Tryz.sizeOf12
 v12:=Tryz.zeroValue12
 t46:=Tryz.underlying139
 a46:=Tryz.isAgg139
 z46:=Tryz.sizeOf139
 v46:=Tryz.zeroValue139
 t53:=Tryz.underlying26
 a53:=Tryz.isAgg26
 z53:=Tryz.sizeOf26
 v53:=Tryz.zeroValue26
 t119:=Tryz.underlying408
 a119:=Tryz.isAgg408
 z119:=Tryz.sizeOf408
 t138:=Tryz.underlying410
 a138:=Tryz.isAgg410
 z138:=Tryz.sizeOf410
 v138:=Tryz.zeroValue410
 t139:=Tryz.underlying411
 a139:=Tryz.isAgg411
 z139:=Tryz.sizeOf411
 v139:=Tryz.zeroValue411
 g3:=by kernel_rfl
 g4:=by kernel_rfl }
open Go.RowKit in
theorem Tryz.valid_is(s:ByteArray)(w:World)(hs:s.size≤9223372036854775807)(hT:Lib.Utf8Tabs 1 2 w):
 Calls Tryz.prog 139 #[.string s] w fun e w'=>e=.returned (.bool (Lib.validD s.data.toList))∧Below w.heap.size w w':=Any.utf8_ValidString Tryz.lays196 s w hs hT
end Go.Proofs
namespace Go.Proofs
open Go.Shelf Go.RowKit Go.Lib Go.Sort
noncomputable def Tryz.pvT:TypeInfo:=(Tryz.prog.info? 414).get (by kernel_rfl)
noncomputable def Tryz.pvE:TypeInfo:=(Tryz.prog.info? 417).get (by kernel_rfl)
theorem Tryz.pvK(n:Nat)(h2:2≤n):Lib.swapperK n Tryz.pvE 25=9:=by
 have a:Tryz.pvE.hasPointers=true:=by kernel_rfl
 have b:Tryz.pvE.bytes=192:=by kernel_rfl
 have c:(n==0)=false:=by simp;omega
 have d:(n==1)=false:=by simp;omega
 simp [Lib.swapperK,a,b,c,d]
abbrev PairE:={ x:List UInt8×List Value//x.2.length=12∧∀v∈x.2,v.oneCell'=true }
instance:Inhabited PairE:=⟨⟨([],List.replicate 12 (.int .i64 0)),by simp,by intro v hv;rw [List.eq_of_mem_replicate hv];rfl⟩⟩
def encP(x:PairE):List Value:=.string ⟨x.1.1.toArray⟩::x.1.2
def ltP(x y:PairE):Bool:=Sort.ltStr x.1.1 y.1.1
theorem swo_ltP:SWO ltP where
 irrefl:=fun x=>swo_ltStr.irrefl x.1.1
 trans:=fun x y z h1 h2=>swo_ltStr.trans _ _ _ h1 h2
 ntrans:=fun x y z h1 h2=>swo_ltStr.ntrans _ _ _ h1 h2
theorem encP_len(x:PairE):(encP x).length=13:=by
 have:=x.2.1
 simp [encP,this]
theorem encP_one(x:PairE):∀v∈encP x,v.oneCell'=true:=by
 intro v hv
 rcases List.mem_cons.1 hv with rfl | hv
 ·rfl
 ·exact x.2.2 v hv
theorem Tryz.less_pairs(blk off c Bs size:Nat)(W:World)(G:Nat→List UInt8)(hs:W.cell? ⟨Bs,0,none⟩=some (.slice (some ⟨blk,off,none⟩) size c))
 (hc:∀t,t<size→W.cell? ⟨blk,off+t*13,none⟩=some (.string ⟨(G t).toArray⟩)) (i j:Nat) (hi:i<size) (hj:j<size) (_hsz:size<4611686018427387904):
 Calls Tryz.prog 216 #[.int .i64 i,.int .i64 j,.pointer (some ⟨Bs,0,none⟩)] W fun e w'=>e=.returned (.bool (Sort.ltStr (G i) (G j)))∧∃q,w'=W.drewN q:=by
 have ci:=hc i hi
 have cj:=hc j hj
 go_enter Tryz.func216,Tryz.ntmps216
 go_wp2
 go_quiet (fail)
 go_wp2
 go_ret
 exact⟨by unfold Sort.ltStr;rw [←bytesLess_eq];rfl,nq,rfl⟩
theorem Tryz.sort_pairs(blk off c Bs:Nat)(d:Array PairE)(h2:2≤d.size)(hsz:d.size<4611686018427387904)(w:World)(hH:HoldsK encP 13 w blk off d)(hblk:blk<w.heap.size)
 (hBs:w.cell? ⟨Bs,0,none⟩=some (.slice (some ⟨blk,off,none⟩) d.size c)) (hB1:Bs<w.heap.size) (hB2:Bs≠blk):
 Calls Tryz.prog 215 #[.iface 414 (.slice (some ⟨blk,off,none⟩) d.size c),.func (.func 216) #[] #[.pointer (some ⟨Bs,0,none⟩)]] w fun e w'=>
  e=.returned (.tuple #[])∧∃d' n os,PermIn 0 d.size d d'∧SortedIn ltP 0 d.size d'∧w'=grow (putRowK encP 13 (Sort.ahead w n) blk off d') os:=by
 have hless:LessReadsK Tryz.prog 216 #[.pointer (some ⟨Bs,0,none⟩)] encP 13 ltP blk off d.size w:=by
  intro m os dk hs i j hi hj
  have e:sortWorldK encP 13 w blk off m dk os=putRowK encP 13 (grow (Sort.ahead w m) os) blk off dk:=by
   unfold sortWorldK;rw [putRowK_grow _ _ (Sort.ahead w m) _ blk off _ hblk]
  have hHg:HoldsK encP 13 (grow (Sort.ahead w m) os) blk off d:=holdsK_grow _ _ _ _ blk off d hblk (holdsK_ahead _ _ _ _ _ _ _ hH)
  refine Tryz.less_pairs blk off c Bs d.size _ (fun t=>dk[t]!.1.1) ?_ (fun t ht=>?_) i j hi hj (by omega)
  ·rw [e,cell?_putRowK_other _ _ _ blk off dk _ (by exact hB2),cell?_grow _ _ _ (by exact hB1)];exact hBs
  ·rw [e];exact((holdsK_putRowK _ _ _ blk off d dk hHg hs).cell (i:=t) (c:=0) (by omega) (by omega)).1
 exact Any.sort_Slice_cells_sorted Tryz.sv6 414 417 Tryz.pvT Tryz.pvE (by kernel_rfl) (by kernel_rfl) (by kernel_rfl) (by kernel_rfl) 25 (fun _=>by kernel_rfl) encP 13 encP_len (by kernel_rfl) (fun _=>by kernel_rfl)
  encP_one ltP swo_ltP 216 _
  (enters_of Tryz.func216 (by kernel_rfl) rfl) blk off c d h2 hsz 295 (by rw [Tryz.pvK _ h2];kernel_rfl) false
  (fun args W=>run_callFunc_extern Tryz.func295 (by kernel_rfl) (by kernel_rfl) (by kernel_rfl) (e:=Extern.ReflectliteSwapper.swap false) (by kernel_rfl) args W) w hless hH hblk
theorem Tryz.sort_pairs_tiny(p:Option Addr)(n c Bs:Nat)(h1:n≤1)(w:World):
 Calls Tryz.prog 215 #[.iface 414 (.slice p n c),.func (.func 216) #[] #[.pointer (some ⟨Bs,0,none⟩)]] w fun e w'=>e=.returned (.tuple #[])∧∃os,w'=grow w os:=by
 have h:n=0∨n=1:=by omega
 rcases h with rfl | rfl
 ·exact Any.sort_Slice_tiny Tryz.sv6 414 417 Tryz.pvT Tryz.pvE (by kernel_rfl) (by kernel_rfl) (by kernel_rfl) (by kernel_rfl) 25 (fun _=>by kernel_rfl) p 0 c (by omega) 287 (by kernel_rfl) (.func 216) #[] _ w
 ·exact Any.sort_Slice_tiny Tryz.sv6 414 417 Tryz.pvT Tryz.pvE (by kernel_rfl) (by kernel_rfl) (by kernel_rfl) (by kernel_rfl) 25 (fun _=>by kernel_rfl) p 1 c (by omega) 288 (by kernel_rfl) (.func 216) #[] _ w
end Go.Proofs
namespace Go.Proofs.YtfoegolfadhmjaaGreatDoor
open Go.RowKit Go.WideShapes Go.Sort
inductive PR(w:World):List (List UInt8×V×V)→List Value→Prop where
 | nil:PR w [] []
 | cons {t:List UInt8} {k v:V} {ck cv cells:List Value} {ps:List (List UInt8×V×V)} (hk:Mem w [k] ck) (hv:Mem w [v] cv) (hs:PR w ps cells):PR w ((t,k,v)::ps) ((.string ⟨t.toArray⟩::(ck++cv))++cells)
theorem PR.len{w:World}{ps:List (List UInt8×V×V)}{cells:List Value}(h:PR w ps cells):cells.length=ps.length*13:=by
 induction h with
 | nil=>rfl
 | cons hk hv hs ih=>
   have:=hk.len
   have:=hv.len
   simp only [List.length_append,List.length_cons,List.length_nil]at *
   omega
theorem pairCells:CellsOf 13 PR where
 nil _:=.nil
 len h:=h.len
 one h:=by
  induction h with
  | nil=>intro u hu;simp at hu
  | cons hk hv hs ih=>
    intro u hu
    rcases List.mem_append.1 hu with hu | hu
    ·rcases List.mem_cons.1 hu with rfl | hu
     ·rfl
     ·rcases List.mem_append.1 hu with hu | hu
      ·exact hk.one u hu
      ·exact hv.one u hu
    ·exact ih u hu
 app h k:=by
  induction h with
  | nil=>exact k
  | cons hk hv hs ih=>rw [List.append_assoc];exact .cons hk hv ih
theorem PR.chunks{w:World}{ps:List (List UInt8×V×V)}{cells:List Value}(h:PR w ps cells):∃es:List PairE,es.length=ps.length∧cells=es.flatMap encP:=by
 induction h with
 | nil=>exact⟨[],rfl,rfl⟩
 | cons hk hv hs ih=>
   rename_i t k v ck cv cells ps
   obtain⟨es,h1,rfl⟩:=ih
   have e1:=hk.len
   have e2:=hv.len
   refine⟨⟨(t,ck++cv),by simp [e1,e2],fun u hu=>?_⟩::es,by simp [h1],by simp [encP]⟩
   rcases List.mem_append.1 hu with hu | hu
   ·exact hk.one u hu
   ·exact hv.one u hu
theorem PR.each{w:World}:∀{ps:List (List UInt8×V×V)} {es:List PairE},PR w ps (es.flatMap encP)→es.length=ps.length→∀z∈ps.zip es,PR w [z.1] (encP z.2)
 | [],es,_,_=>by intro z hz;simp at hz
 | p::ps,[],_,h=>by simp at h
 | p::ps,e::es,h,hl=>by
   obtain⟨x,hx⟩:∃x,x=(e::es).flatMap encP:=⟨_,rfl⟩
   rw [←hx]at h
   cases h with
   | cons hk hv hs=>
     rename_i t k v ck cv cells
     have e1:=hk.len
     have e2:=hv.len
     have e3:=encP_len e
     rw [List.flatMap_cons]at hx
     have:=List.append_inj hx (by rw [e3];simp [e1,e2])
     obtain⟨q1,rfl⟩:=this
     intro z hz
     simp only [List.zip_cons_cons,List.mem_cons]at hz
     rcases hz with rfl | hz
     ·have:=PR.cons (t:=t) hk hv (PR.nil (w:=w))
      rw [List.append_nil,q1]at this
      exact this
     ·exact PR.each hs (by simpa using hl) z hz
theorem PR.all{w:World}:∀{zs:List ((List UInt8×V×V)×PairE)},(∀z∈zs,PR w [z.1] (encP z.2))→PR w (zs.map (·.1)) ((zs.map (·.2)).flatMap encP)
 | [],_=>.nil
 | z::zs,h=>by
   have h1:=h z (List.mem_cons_self ..)
   have h2:=PR.all fun u hu=>h u (List.mem_cons_of_mem _ hu)
   simp only [List.map_cons,List.flatMap_cons]
   exact pairCells.app (l1:=[z.1]) h1 h2
theorem flat_at:∀(es:List PairE) (j:Nat),j<es.length*13→(es.flatMap encP)[j]? =some (encP es[j/13]!)[j % 13]!
 | [],j,h=>by simp at h
 | e::es,j,h=>by
   have e3:=encP_len e
   rw [List.flatMap_cons]
   by_cases hj:j<13
   ·rw [List.getElem?_append_left (by omega),Nat.div_eq_of_lt hj,Nat.mod_eq_of_lt hj]
    simp [e3,hj]
   ·rw [List.getElem?_append_right (by omega),e3,flat_at es (j-13) (by simp at h;omega)]
    have h1:j/13=(j-13)/13+1:=by omega
    have h2:j % 13=(j-13) % 13:=by omega
    rw [h1,h2]
    rfl
theorem permIn_list{d d':Array PairE}(h:PermIn 0 d.size d d'):d'.toList.Perm d.toList:=by
 obtain⟨h1,_,h3⟩:=h
 have e1:d'.extract 0 d.size=d':=by rw [←h1];simp
 have e2:d.extract 0 d.size=d:=by simp
 rw [e1,e2]at h3
 exact h3
theorem pairs_sorted(w:World)(base L:Nat)(sk:Value)(ps:List (List UInt8×V×V))(h:RowG 417 13 PR w base sk ps)(hL:w.heap[L]? =some (.cells #[sk] 414 (0,0)))(hLb:L<base)(hn:ps.length≤1000):
 Calls Tryz.prog 215 #[.iface 414 sk,.func (.func 216) #[] #[.pointer (some ⟨L,0,none⟩)]] w fun e w'=>e=.returned (.tuple #[])∧Keep (fun b=>some b≠sk.ownBlock) w w'∧∃ps',ps.Perm ps'∧RowG 417 13 PR w' base sk ps':=by
 by_cases hs1:ps.length≤1
 ·obtain⟨A,c,rfl⟩:=h.shape
  refine(Tryz.sort_pairs_tiny A ps.length c L hs1 w).mono ?_
  rintro e w' ⟨rfl,os,rfl⟩
  have k:New w (grow w os):=⟨rfl,rfl,rfl,by simp [grow],fun i hi _=>heap_grow_old w os hi⟩
  exact⟨rfl,k.keep _,ps,List.Perm.refl _,h.keep k (fun _ _=>trivial)⟩
 ·obtain⟨cells,⟨h1,h2⟩,hdep⟩:=h
  rcases h2 with⟨_,h2⟩ | ⟨g,cap,cur,rfl,hg,hb,hcn,hcap,hsz,ht⟩
  ·omega
  obtain⟨es,hel,rfl⟩:=hdep.here.chunks
  have hlt:=lt_blk hb
  have hLlt:=lt_blk hL
  have hflat:∀j,j<ps.length*13→cur[j]? =some (encP es[j/13]!)[j % 13]! :=fun j hj=>by
   rw [←flat_at es j (by rw [hel];exact hj),←ht,List.getElem?_take_of_lt hj,Array.getElem?_toList]
  have hcsz:ps.length*13≤cur.size:=by
   rcases Nat.lt_or_ge cur.size (ps.length*13)with h | h
   ·have:=hflat cur.size h
    simp at this
   ·exact h
  have hH:HoldsK encP 13 w g 0 es.toArray:=by
   intro j hj
   have hj':j<ps.length*13:=by simpa [hel]using hj
   refine⟨?_,blk_free hb _⟩
   rw [blk_cell hb,Nat.zero_add,hflat j hj',get_flatK _ _ _ _ (by simpa [hel]using hj')]
   simp
  have hsort:=Tryz.sort_pairs g 0 cap L es.toArray (by simp;omega) (by simp;omega) w hH hlt (by rw [(blk_cell hL 0).trans rfl];simp [hel]) hLlt (by omega)
  have e0:es.toArray.size=ps.length:=by simpa using hel
  rw [e0]at hsort
  refine hsort.mono ?_
  rintro e w' ⟨rfl,d',n,os,hp,_,rfl⟩
  have hperm:=permIn_list (d:=es.toArray) (d':=d') (by rw [e0];exact hp)
  have hd':d'.size=ps.length:=by
   have:=hperm.length_eq
   simpa [hel]using this
  have hk:Keep (fun b=>b≠g) w (grow (putRowK encP 13 (Sort.ahead w n) g 0 d') os):=by
   refine⟨rfl,rfl,rfl,by simp [grow,putRowK,putRow,mapBlock,ahead],fun k hk hne=>?_⟩
   rw [heap_grow_old _ _ (by simpa [putRowK,putRow,mapBlock,ahead]using hk)]
   simp [putRowK,putRow,mapBlock,ahead,Array.getElem?_modify,Ne.symm hne]
  have hb':(grow (putRowK encP 13 (Sort.ahead w n) g 0 d') os).heap[g]? =some (.cells (putCells id 0 (flatK encP 13 d') cur) 417 (0,0)):=by
   rw [heap_grow_old _ _ (by simpa [putRowK,putRow,mapBlock,ahead]using hlt)]
   simp [putRowK,putRow,mapBlock,ahead,Array.getElem?_modify,hb,onCells]
  obtain⟨zs,hz1,hz2⟩:=lift_perm (fun z:(List UInt8×V×V)×PairE=>z.2) d'.toList (ps.zip es) (by
   rw [show(ps.zip es).map (fun z=>z.2)=es from List.map_snd_zip (by omega)]
   simpa using hperm)
  have hz3:ps.Perm (zs.map (·.1)):=by
   have:=hz1.map (·.1)
   rwa [show(ps.zip es).map (fun z=>z.1)=ps from List.map_fst_zip (by omega)]at this
  refine⟨rfl,hk.mono fun b _ hb=>by intro e;subst e;exact hb (by simp [Value.ownBlock]),zs.map (·.1),hz3,d'.toList.flatMap encP,⟨?_,.inr ⟨g,cap,_,?_,hg,hb',?_,hcap,?_,?_⟩⟩,?_⟩
  ·have hfl:∀l:List PairE,(l.flatMap encP).length=l.length*13:=by
    intro l
    induction l with
    | nil=>rfl
    | cons e l ih=>rw [List.flatMap_cons,List.length_append,ih,encP_len];simp;omega
   rw [hfl,←hz3.length_eq]
   simp [hd']
  ·rw [←hz3.length_eq]
  ·rw [←hz3.length_eq];exact hcn
  ·simpa [putCells]using hsz
  ·rw [←hz3.length_eq]
   apply List.ext_getElem?
   intro j
   by_cases hj:j<ps.length*13
   ·have hd2:d'.toList.length*13=ps.length*13:=by simp [hd']
    rw [List.getElem?_take_of_lt hj,Array.getElem?_toList,flat_at d'.toList j (by omega)]
    have hjc:j<cur.size:=by omega
    simp only [putCells,Array.getElem?_mapIdx,Array.getElem?_eq_getElem hjc,Option.map_some]
    rw [if_pos ⟨Nat.zero_le _,by simp [hd'];omega⟩,Nat.sub_zero,get_flatK _ _ _ _ (by rw [hd'];exact hj)]
    simp [Array.getElem!_eq_getD,Array.getD_eq_getD_getElem?]
   ·rw [List.getElem?_eq_none (by simp;omega),List.getElem?_eq_none]
    have hfl:∀l:List PairE,(l.flatMap encP).length=l.length*13:=by
     intro l
     induction l with
     | nil=>rfl
     | cons e l ih=>rw [List.flatMap_cons,List.length_append,ih,encP_len];simp;omega
    rw [hfl]
    simp [hd']
    omega
  ·intro w'' hw''
   have:=hdep.keep hk (fun b _ hb=>fun e=>hb.2 (by rw [e];rfl)) w'' hw''
   have h5:=PR.all (w:=w'') (zs:=zs) fun z hz=>this.each hel z (hz1.mem_iff.2 hz)
   rw [hz2]at h5
   exact h5
end Go.Proofs.YtfoegolfadhmjaaGreatDoor
