/- spec.fewValues, spec.Values. -/
import Derived.Test.YtfoegolfadhmjaaGreatDoorZ05
import Derived.Test.YtfoegolfadhmjaaGreatDoorZ06
import Derived.Shelf.Lays
import Derived.Shelf.GgSortFunc.Lays
import Derived.Test.YtfoegolfadhmjaaGreatDoorProg
import Derived.Shelf.Unicode.ValidAny
import Derived.Shelf.SlSortFuncK.WholeK
import Derived.Shelf.GgSortFunc.Tiny
import Derived.Deep.QuietTactic
import Derived.Sort.Walk0
import Derived.BigQuiet
set_option linter.all false
set_option maxRecDepth 100000
set_option maxHeartbeats 8000000
namespace Go.Proofs.YtfoegolfadhmjaaGreatDoor
open Go.RowKit Go.WideShapes
theorem find_text:∀(l:List MapEntry) (i:Nat) (s:ByteArray) (e:MapEntry),e∈l→e.key=.string s→(∀x∈l,∃s',x.key=.string s')→(l.map (·.key)).Nodup→∃j,Instr.findNow .string (.string s) l i=some (some (j,e.val))
 | x::l,i,s,e,he,hs,hall,hnd=>by
   obtain⟨s',hs'⟩:=hall x (List.mem_cons_self ..)
   rw [List.map_cons,List.nodup_cons]at hnd
   rcases List.mem_cons.1 he with rfl | he
   ·refine⟨i,?_⟩
    have:(s==s)=true:=by
     cases s with
     | mk a=>exact beq_self_eq_true a
    simp only [Instr.findNow,hs,Instr.sameNow,this]
   ·have hne:s≠s':=fun h=>hnd.1 (List.mem_map.2 ⟨e,he,by rw [hs,hs',h]⟩)
    have:(s==s')=false:=ba_ne hne
    obtain⟨j,hj⟩:=find_text l (i+1) s e he hs (fun y hy=>hall y (List.mem_cons_of_mem _ hy)) hnd.2
    refine⟨j,?_⟩
    simp only [Instr.findNow,hs',Instr.sameNow,this]
    exact hj
theorem lookup_text(w:World)(t kt:TypeId)(ht:Tryz.prog.underlying t=some (.map kt 20))(hkt:Tryz.prog.underlying kt=some .string)(r:Nat)(es:Array MapEntry)(clock:Nat)(hr:w.heap[r]? =some (.map es clock))(s:ByteArray)(e:MapEntry)(he:e∈es.toList)(hs:e.key=.string s)(hall:∀x∈es.toList,∃s',x.key=.string s')(hnd:(es.toList.map (·.key)).Nodup):
 (Instr.lookup t (.map (some r)) (.string s) false).run Tryz.prog w=.ok e.val w:=by
 obtain⟨j,hj⟩:=find_text es.toList 0 s e he hs hall hnd
 have hc:(Instr.checkKey es.isEmpty 10000 kt (.string s)).run Tryz.prog w=.ok () w:=by
  show(Instr.checkKey es.isEmpty (9999+1) kt (.string s)).run Tryz.prog w=_
  have gen:∀d,(Instr.checkKey es.isEmpty (d+1) kt (.string s)).run Tryz.prog w=.ok () w:=fun d=>by
   simp [Instr.checkKey,run_underlying hkt,Result.andThen]
  exact gen 9999
 have hfk:(Instr.findKey kt (.string s) es.toList).run Tryz.prog w=.ok (some (j,e.val)) w:=by
  unfold Instr.findKey
  simp only [Sem.run_bind,run_underlying hkt,Result.andThen_ok,hj]
  rfl
 simp only [Instr.lookup,Sem.run_bind,run_underlying ht,Result.andThen_ok,getObj,hr,Sem.run_pure]
 simp only [Sem.run,hr,Result.andThen_ok,Sem.run_pure,hc,hfk,Sem.run_bind]
 rfl
theorem lift_perm{α β:Type}(f:α→β):∀(ts:List β) (ps:List α),ts.Perm (ps.map f)→∃qs,ps.Perm qs∧qs.map f=ts
 | [],ps,h=>⟨[],by
   have:=h.length_eq
   rw [List.eq_nil_of_length_eq_zero (l:=ps) (by simpa using this.symm)],rfl⟩
 | t::r,ps,h=>by
   obtain⟨q,hq,rfl⟩:=List.mem_map.1 (h.mem_iff.1 (List.mem_cons_self ..))
   obtain⟨a,b,rfl⟩:=List.append_of_mem hq
   have h2:(f q::r).Perm (f q::(a++b).map f):=h.trans (by
    simp only [List.map_append,List.map_cons]
    exact List.perm_middle)
   obtain⟨qs,h3,h4⟩:=lift_perm f r (a++b) (List.perm_cons _|>.1 h2)
   exact⟨q::qs,List.perm_middle.trans (h3.cons q),by simp [h4]⟩
def RowS(w:World)(base:Nat)(sk:Value)(ts:List (List UInt8)):Prop:=w.ownsRow base 9 1 sk ts.length (ts.map fun t=>.string ⟨t.toArray⟩)
theorem RowS.nil{w:World}{base:Nat}:RowS w base (.slice none 0 0) []:=⟨rfl,.inl ⟨rfl,rfl⟩⟩
theorem RowS.keep{ok:Nat→Prop}{w w':World}{base:Nat}{sk:Value}{ts:List (List UInt8)}(h:RowS w base sk ts)(k:Keep ok w w')(ho:∀b,base≤b→ok b):RowS w' base sk ts:=by
 obtain⟨h1,h2⟩:=h
 refine⟨h1,?_⟩
 rcases h2 with h2 | ⟨g,cap,cur,hv,hg,hb,hr⟩
 ·exact .inl h2
 ·exact .inr ⟨g,cap,cur,hv,hg,k.blk hb (ho _ hg),hr⟩
theorem RowS.cases{w:World}{base:Nat}{sk:Value}{ts:List (List UInt8)}(h:RowS w base sk ts):(sk=.slice none 0 0∧ts=[])∨∃g cap cur,sk=.slice (some ⟨g,0,none⟩) ts.length cap∧base≤g∧w.heap[g]? =some (.cells cur 9 (0,0))∧∀j (hj:j<ts.length),cur[j]? =some (.string ⟨ts[j].toArray⟩):=by
 obtain⟨h1,h2⟩:=h
 rcases h2 with⟨rfl,h2⟩ | ⟨g,cap,cur,hv,hg,hb,hn,hc,hs,ht⟩
 ·exact .inl ⟨rfl,List.eq_nil_of_length_eq_zero h2⟩
 ·refine .inr ⟨g,cap,cur,hv,hg,hb,fun j hj=>?_⟩
  have:(cur.toList.take (ts.length*1))[j]? =(ts.map fun t=>Value.string ⟨t.toArray⟩)[j]? :=by rw [ht]
  rw [List.getElem?_take_of_lt (by omega),Array.getElem?_toList]at this
  rw [this]
  simp [hj]
theorem RowS.far{w:World}{base:Nat}{sk:Value}{ts:List (List UInt8)}(h:RowS w base sk ts)(k:Nat)(hk:k<base):some k≠sk.ownBlock:=by
 rcases h.cases with⟨rfl,_⟩ | ⟨g,cap,cur,rfl,hg,_⟩
 ·intro e;cases e
 ·intro e
  injection e with e
  simp at e
  omega
theorem RowS.shape{w:World}{base:Nat}{sk:Value}{ts:List (List UInt8)}(h:RowS w base sk ts):∃A c,sk=.slice A ts.length c:=by
 rcases h.cases with⟨rfl,rfl⟩ | ⟨g,cap,cur,rfl,_⟩
 ·exact⟨none,0,rfl⟩
 ·exact⟨_,cap,rfl⟩
theorem RowS.step{w:World}{base:Nat}{sk:Value}{ts:List (List UInt8)}(h:RowS w base sk ts)(t:List UInt8)(B c:Nat)(hB:w.heap[B]? =some (.cells #[.string ⟨t.toArray⟩] 9 (0,0)))(hn:ts.length≤1000000)(hbase:base≤w.heap.size):
 ∃g cap w',(Builtin.append_ #[52,52] 52 #[sk,.slice (some ⟨B,0,none⟩) 1 c]).run Tryz.prog w=.ok (.slice (some ⟨g,0,none⟩) (ts.length+1) cap) w'∧RowS w' base (.slice (some ⟨g,0,none⟩) (ts.length+1) cap) (ts++[t])∧Keep (fun k=>some k≠sk.ownBlock) w w':=by
 obtain⟨i0,hi,hz,hs,hb⟩:=info_parts info9
 obtain⟨g,cap,w',hr,h3,h4,_,_⟩:=run_append_lies (P:=Tryz.prog) w 52 52 base 9 i0 _ 1 16 Tryz.underlying52 hi hz hs hb rfl (by omega) sk ts.length _ h ⟨B,0,none⟩ 1 c [.string ⟨t.toArray⟩] rfl (fun j u hj=>by
  have hplain:(⟨B,0,none⟩:Addr).add j=⟨B,0+j,none⟩:=by unfold Addr.add;split<;>simp_all
  rw [hplain,blk_cell hB,Nat.zero_add]
  simpa using hj) (by simp [Value.oneCell']) (by omega) (by unfold maxLen;omega) (by omega) hbase w.heap.size rfl
 exact⟨g,cap,w',hr,by simpa [RowS]using h3,Keep.of_grown h4 (fun k hk=>hk)⟩
theorem at_dst(d:Nat){P:Program}{ops:Array Oper}{o:Oper}{a:Act}{w:World}{K:Act→World→Prop}{Q:Exit→Act→World→Prop}{E:Prop}(_:o.dst=some d)
 (h:if Region.wanted o (yielded ops a.tmps)=true then Oper.wp P o a w K Q else E):if Region.wanted o (yielded ops a.tmps)=true then Oper.wp P o a w K Q else E:=h
structure CellsOf{α:Type}(sz:Nat)(R:World→List α→List Value→Prop):Prop where
 nil:∀w,R w [] []
 len:∀{w us cells},R w us cells→cells.length=us.length*sz
 one:∀{w us cells},R w us cells→∀u∈cells,u.oneCell'=true
 app:∀{w l1 l2 c1 c2},R w l1 c1→R w l2 c2→R w (l1++l2) (c1++c2)
def RowG{α:Type}(T:TypeId)(sz:Nat)(R:World→List α→List Value→Prop)(w:World)(base:Nat)(sk:Value)(us:List α):Prop:=
 ∃cells,w.ownsRow base T sz sk us.length cells∧Dep (fun b=>base≤b∧some b≠sk.ownBlock) w (fun w=>R w us cells)
def SlG(T:TypeId)(sz:Nat)(w:World)(s:Value)(n:Nat)(cells:List Value):Prop:=
 ∃A c,s=.slice A n c∧n≤c∧c≤maxLen∧cells.length=n*sz∧
  (n≠0→∃d i cs,A=some ⟨d,i,none⟩∧w.heap[d]? =some (.cells cs T (0,0))∧∀q,q<n*sz→cs[i+q]? =cells[q]?)
section
variable {α:Type} {T:TypeId} {sz:Nat} {R:World→List α→List Value→Prop}
theorem RowG.nil{w:World}{base:Nat}(C:CellsOf sz R):RowG T sz R w base (.slice none 0 0) []:=⟨[],⟨by simp,.inl ⟨rfl,rfl⟩⟩,fun w' _=>C.nil w'⟩
theorem own_keepG{ok:Nat→Prop}{w w':World}{base n:Nat}{v:Value}{xs:List Value}(h:w.ownsRow base T sz v n xs)(k:Keep ok w w')(ho:∀b,base≤b→ok b):w'.ownsRow base T sz v n xs:=by
 obtain⟨h1,h2⟩:=h
 refine⟨h1,?_⟩
 rcases h2 with h2 | ⟨g,cap,cur,hv,hg,hb,hr⟩
 ·exact .inl h2
 ·exact .inr ⟨g,cap,cur,hv,hg,k.blk hb (ho _ hg),hr⟩
theorem RowG.keep{ok:Nat→Prop}{w w':World}{base:Nat}{sk:Value}{us:List α}(h:RowG T sz R w base sk us)(k:Keep ok w w')(ho:∀b,base≤b→ok b):RowG T sz R w' base sk us:=by
 obtain⟨cells,h1,h2⟩:=h
 exact⟨cells,own_keepG h1 k ho,h2.keep k fun b _ hb=>ho b hb.1⟩
theorem RowG.mono{w:World}{base base':Nat}{sk:Value}{us:List α}(h:RowG T sz R w base sk us)(hb:base'≤base):RowG T sz R w base' sk us:=by
 obtain⟨cells,⟨h1,h2⟩,h3⟩:=h
 refine⟨cells,⟨h1,?_⟩,h3.mono fun b _ h=>⟨by omega,h.2⟩⟩
 rcases h2 with h2 | ⟨g,cap,cur,hv,hg,hr⟩
 ·exact .inl h2
 ·exact .inr ⟨g,cap,cur,hv,by omega,hr⟩
theorem RowG.shape{w:World}{base:Nat}{sk:Value}{us:List α}(h:RowG T sz R w base sk us):∃A c,sk=.slice A us.length c:=by
 obtain⟨cells,h1,_⟩:=h
 rcases h1.2 with⟨rfl,h⟩ | ⟨g,cap,cur,rfl,_⟩
 ·rw [h];exact⟨none,0,rfl⟩
 ·exact⟨_,cap,rfl⟩
theorem RowG.far{w:World}{base:Nat}{sk:Value}{us:List α}(h:RowG T sz R w base sk us)(k:Nat)(hk:k<base):some k≠sk.ownBlock:=by
 obtain⟨cells,h1,_⟩:=h
 rcases h1.2 with⟨rfl,_⟩ | ⟨g,cap,cur,rfl,hg,_⟩
 ·intro e;cases e
 ·intro e
  injection e with e
  simp at e
  omega
theorem RowG.ownLt{w:World}{base:Nat}{sk:Value}{us:List α}(h:RowG T sz R w base sk us){g:Nat}(hg:sk.ownBlock=some g):g<w.heap.size:=by
 obtain⟨cells,h1,_⟩:=h
 rcases h1.2 with⟨rfl,_⟩ | ⟨g',cap,cur,rfl,_,hb,_⟩
 ·cases hg
 ·have:g'=g:=by simpa [Value.ownBlock]using hg
  rw [←this]
  exact lt_blk hb
theorem RowG.step(C:CellsOf sz R){ST:TypeId}{z:Value}{by':Nat}(hST:Tryz.prog.underlying ST=some (.slice T))(hinfo:(Tryz.prog.info? T).map (fun i=>(i.zero,i.size,i.bytes))=some (some z,sz,by'))(hzs:z.cells.size=sz)(hsz:0<sz)(hby:by'≤1000)
 {w:World} {base:Nat} {sk:Value} {us vs:List α} (h:RowG T sz R w base sk us) (B i c:Nat) (news:List Value) (hB:∀j u,news[j]? =some u→w.cell? ⟨B,i+j,none⟩=some u)
 (hm:Dep (fun b=>base≤b∧some b≠sk.ownBlock) w (fun w=>R w vs news)) (hv:0<vs.length) (hn:us.length+vs.length≤1000000) (hbase:base≤w.heap.size):
 ∃g cap w',(Builtin.append_ #[ST,ST] ST #[sk,.slice (some ⟨B,i,none⟩) vs.length c]).run Tryz.prog w=.ok (.slice (some ⟨g,0,none⟩) (us.length+vs.length) cap) w'∧
  RowG T sz R w' base (.slice (some ⟨g,0,none⟩) (us.length+vs.length) cap) (us++vs)∧Keep (fun k=>some k≠sk.ownBlock) w w'∧(sk.ownBlock=some g∨g=w.heap.size):=by
 obtain⟨cells,h1,h2⟩:=h
 obtain⟨i0,hi,hz,hs,hb⟩:=info_parts hinfo
 have hlen:=C.len hm.here
 obtain⟨g,cap,w',hr,h3,h4,h5,h6⟩:=run_append_lies (P:=Tryz.prog) w ST ST base T i0 z sz by' hST hi hz hs hb hzs hsz sk us.length cells h1 ⟨B,i,none⟩ vs.length c news hlen (fun j u hj=>by
  have hplain:(⟨B,i,none⟩:Addr).add j=⟨B,i+j,none⟩:=by unfold Addr.add;split<;>simp_all
  rw [hplain]
  exact hB j u hj) (C.one hm.here) hv (by unfold maxLen;omega) (Nat.le_trans (Nat.mul_le_mul hn hby) (by omega)) hbase w.heap.size rfl
 have kk:Keep (fun k=>some k≠sk.ownBlock) w w':=Keep.of_grown h4 (fun k hk=>hk)
 refine⟨g,cap,w',hr,⟨cells++news,by simpa using h3,?_⟩,kk,h5⟩
 refine((h2.and hm).step kk.size (fun k hk hb=>kk.block k hk hb.2) (fun k hk hb=>⟨hb.1,fun e=>?_⟩)).imp fun w' h=>C.app h.1 h.2
 have e':k=g:=by simpa [Value.ownBlock]using e
 rcases h5 with h5 | h5
 ·exact hb.2 (by rw [e',h5])
 ·omega
theorem slG_nil(w:World):SlG T sz w (.slice none 0 0) 0 []:=⟨none,0,rfl,Nat.le_refl _,by unfold maxLen;omega,by simp,fun h=>absurd rfl h⟩
theorem slG_own{w:World}{base:Nat}{v:Value}{n:Nat}{cells:List Value}(h:w.ownsRow base T sz v n cells):SlG T sz w v n cells:=by
 obtain⟨h1,h2⟩:=h
 rcases h2 with⟨rfl,rfl⟩ | ⟨g,cap,cur,rfl,hg,hb,hn,hc,hs,ht⟩
 ·have:cells=[]:=List.eq_nil_of_length_eq_zero (by simpa using h1)
  subst this
  exact slG_nil w
 ·refine⟨_,cap,rfl,hn,hc,h1,fun _=>⟨g,0,cur,rfl,hb,fun q hq=>?_⟩⟩
  rw [←ht,Nat.zero_add,List.getElem?_take_of_lt hq,Array.getElem?_toList]
theorem RowG.out{w:World}{base:Nat}{sk:Value}{us:List α}(h:RowG T sz R w base sk us):Dep (fun b=>base≤b) w (fun w=>∃cells,SlG T sz w sk us.length cells∧R w us cells):=by
 obtain⟨cells,h1,h2⟩:=h
 intro w' hw
 have hown:w'.ownsRow base T sz sk us.length cells:=by
  obtain⟨e1,e2⟩:=h1
  refine⟨e1,?_⟩
  rcases e2 with e2 | ⟨g,cap,cur,hv,hg,hb,hr⟩
  ·exact .inl e2
  ·exact .inr ⟨g,cap,cur,hv,hg,(hw g (lt_blk hb) hg).trans hb,hr⟩
 exact⟨cells,slG_own hown,h2 w' fun k hk hb=>hw k hk hb.1⟩
theorem SlG.keep{w w':World}{s:Value}{n:Nat}{cells:List Value}(h:SlG T sz w s n cells)(k:New w w'):SlG T sz w' s n cells:=by
 obtain⟨A,c,hs,h1,h2,h3,h4⟩:=h
 refine⟨A,c,hs,h1,h2,h3,fun hn=>?_⟩
 obtain⟨d,i,cs,hA,hd,hc⟩:=h4 hn
 exact⟨d,i,cs,hA,k.blk hd trivial,hc⟩
theorem SlG.shape{w:World}{s:Value}{n:Nat}{cells:List Value}(h:SlG T sz w s n cells):∃A c,s=.slice A n c∧n≤c∧c≤maxLen:=by
 obtain⟨A,c,hs,h1,h2,_⟩:=h
 exact⟨A,c,hs,h1,h2⟩
theorem SlG.at{w:World}{A:Option Addr}{n m c:Nat}{cells:List Value}(h:SlG T sz w (.slice A m c) n cells)(hne:n≠0):∃d i,A=some ⟨d,i,none⟩∧m=n∧n≤c∧c≤maxLen∧∀q u,q<n*sz→cells[q]? =some u→w.cell? ⟨d,i+q,none⟩=some u:=by
 obtain⟨A',c',hs,h1,h2,h3,h4⟩:=h
 injection hs with e1 e2 e3
 subst e1;subst e2;subst e3
 obtain⟨d,i,cs,rfl,hd,hc⟩:=h4 hne
 exact⟨d,i,rfl,rfl,h1,h2,fun q u hq hu=>by rw [blk_cell hd,hc q hq];exact hu⟩
end
end Go.Proofs.YtfoegolfadhmjaaGreatDoor
namespace Go.Proofs
open Go.Shelf
def Tryz.sv6_ren:Go.Shelf.Ren:=⟨fun | 6=>215 | 10=>245 | 11=>246 | 12=>247 | 13=>213 | 14=>248 | 24=>242 | 25=>243 | 26=>296 | 27=>297 | 28=>298 | 29=>299 | 30=>300 | 31=>301 | 32=>302 | 33=>303 | 34=>313 | 35=>314 | 36=>315 | 37=>316 | 38=>317 | 39=>325 | n=>n,fun | 20=>20 | 26=>419 | 35=>439 | 0=>0 | 37=>441 | 3=>3 | 41=>139 | 44=>445 | 49=>22 | 51=>26 | 4=>4 | 54=>478 | 53=>477 | 58=>432 | 5=>5 | 9=>9 | 60=>491 | 64=>146 | 66=>501 | 67=>484 | 17=>17 | 32=>436 | 33=>437 | 82=>520 | 12=>12 | 75=>514 | 76=>515 | 77=>516 | 78=>208 | 79=>517 | 80=>518 | n=>n,fun | n=>n⟩
theorem Tryz.sv6:Go.Proofs.LaysGg.n6 Tryz.prog Tryz.sv6_ren:={
 mixed:=by kernel_rfl
 f6:=Tryz.func215.trans (congrArg some (by kernel_rfl))
 f10:=Tryz.func245.trans (congrArg some (by kernel_rfl))
 f11:=Tryz.func246.trans (congrArg some (by kernel_rfl))
 f12:=Tryz.func247.trans (congrArg some (by kernel_rfl))
 f13:=Tryz.func213.trans (congrArg some (by kernel_rfl))
 f14:=Tryz.func248.trans (congrArg some (by kernel_rfl))
 f24:=Tryz.func242.trans (congrArg some (by kernel_rfl))
 f25:=Tryz.func243.trans (congrArg some (by kernel_rfl))
 f26:=Tryz.func296.trans (congrArg some (by kernel_rfl))
 f27:=Tryz.func297.trans (congrArg some (by kernel_rfl))
 f28:=Tryz.func298.trans (congrArg some (by kernel_rfl))
 f29:=Tryz.func299.trans (congrArg some (by kernel_rfl))
 f30:=Tryz.func300.trans (congrArg some (by kernel_rfl))
 f31:=Tryz.func301.trans (congrArg some (by kernel_rfl))
 f32:=Tryz.func302.trans (congrArg some (by kernel_rfl))
 f33:=Tryz.func303.trans (congrArg some (by kernel_rfl))
 f34:=Tryz.func313.trans (congrArg some (by kernel_rfl))
 f35:=Tryz.func314.trans (congrArg some (by kernel_rfl))
 f36:=Tryz.func315.trans (congrArg some (by kernel_rfl))
 f37:=Tryz.func316.trans (congrArg some (by kernel_rfl))
 f38:=Tryz.func317.trans (congrArg some (by kernel_rfl))
 f39:=Tryz.func325.trans (congrArg some (by kernel_rfl))
 t0:=Tryz.underlying0
 a0:=Tryz.isAgg0
 z0:=Tryz.sizeOf0
 v0:=Tryz.zeroValue0
 i0:=by kernel_rfl
 t3:=Tryz.underlying3
 a3:=Tryz.isAgg3
 z3:=Tryz.sizeOf3
 v3:=Tryz.zeroValue3
 i3:=by kernel_rfl
 t4:=Tryz.underlying4
 a4:=Tryz.isAgg4
 z4:=Tryz.sizeOf4
 v4:=Tryz.zeroValue4
 i4:=by kernel_rfl
 t5:=Tryz.underlying5
 a5:=Tryz.isAgg5
 z5:=Tryz.sizeOf5
 v5:=Tryz.zeroValue5
 i5:=by kernel_rfl
 t9:=Tryz.underlying9
 a9:=Tryz.isAgg9
 z9:=Tryz.sizeOf9
 v9:=Tryz.zeroValue9
 i9:=by kernel_rfl
 t12:=Tryz.underlying12
 a12:=Tryz.isAgg12
 z12:=Tryz.sizeOf12
 v12:=Tryz.zeroValue12
 i12:=by kernel_rfl
 t17:=Tryz.underlying17
 a17:=Tryz.isAgg17
 z17:=Tryz.sizeOf17
 v17:=Tryz.zeroValue17
 i17:=by kernel_rfl
 t20:=Tryz.underlying20
 a20:=Tryz.isAgg20
 z20:=Tryz.sizeOf20
 v20:=Tryz.zeroValue20
 i20:=by kernel_rfl
 t26:=Tryz.underlying419
 a26:=Tryz.isAgg419
 z26:=Tryz.sizeOf419
 v26:=Tryz.zeroValue419
 i26:=by kernel_rfl
 t32:=Tryz.underlying436
 a32:=Tryz.isAgg436
 z32:=Tryz.sizeOf436
 v32:=Tryz.zeroValue436
 i32:=by kernel_rfl
 t33:=Tryz.underlying437
 a33:=Tryz.isAgg437
 z33:=Tryz.sizeOf437
 v33:=Tryz.zeroValue437
 i33:=by kernel_rfl
 t35:=Tryz.underlying439
 a35:=Tryz.isAgg439
 z35:=Tryz.sizeOf439
 v35:=Tryz.zeroValue439
 i35:=by kernel_rfl
 t37:=Tryz.underlying441
 a37:=Tryz.isAgg441
 z37:=Tryz.sizeOf441
 v37:=Tryz.zeroValue441
 i37:=by kernel_rfl
 t41:=Tryz.underlying139
 a41:=Tryz.isAgg139
 z41:=Tryz.sizeOf139
 v41:=Tryz.zeroValue139
 i41:=by kernel_rfl
 t44:=Tryz.underlying445
 a44:=Tryz.isAgg445
 z44:=Tryz.sizeOf445
 v44:=Tryz.zeroValue445
 i44:=by kernel_rfl
 t49:=Tryz.underlying22
 a49:=Tryz.isAgg22
 z49:=Tryz.sizeOf22
 v49:=Tryz.zeroValue22
 i49:=by kernel_rfl
 t51:=Tryz.underlying26
 a51:=Tryz.isAgg26
 z51:=Tryz.sizeOf26
 v51:=Tryz.zeroValue26
 i51:=by kernel_rfl
 t53:=Tryz.underlying477
 a53:=Tryz.isAgg477
 z53:=Tryz.sizeOf477
 v53:=Tryz.zeroValue477
 i53:=by kernel_rfl
 t54:=Tryz.underlying478
 a54:=Tryz.isAgg478
 z54:=Tryz.sizeOf478
 v54:=Tryz.zeroValue478
 i54:=by kernel_rfl
 t58:=Tryz.underlying432
 a58:=Tryz.isAgg432
 z58:=Tryz.sizeOf432
 v58:=Tryz.zeroValue432
 i58:=by kernel_rfl
 t60:=Tryz.underlying491
 a60:=Tryz.isAgg491
 z60:=Tryz.sizeOf491
 v60:=Tryz.zeroValue491
 i60:=by kernel_rfl
 t64:=Tryz.underlying146
 a64:=Tryz.isAgg146
 z64:=Tryz.sizeOf146
 v64:=Tryz.zeroValue146
 i64:=by kernel_rfl
 t66:=Tryz.underlying501
 a66:=Tryz.isAgg501
 z66:=Tryz.sizeOf501
 v66:=Tryz.zeroValue501
 i66:=by kernel_rfl
 t67:=Tryz.underlying484
 a67:=Tryz.isAgg484
 z67:=Tryz.sizeOf484
 v67:=Tryz.zeroValue484
 i67:=by kernel_rfl
 t75:=Tryz.underlying514
 a75:=Tryz.isAgg514
 z75:=Tryz.sizeOf514
 v75:=Tryz.zeroValue514
 i75:=by kernel_rfl
 t76:=Tryz.underlying515
 a76:=Tryz.isAgg515
 z76:=Tryz.sizeOf515
 v76:=Tryz.zeroValue515
 i76:=by kernel_rfl
 t77:=Tryz.underlying516
 a77:=Tryz.isAgg516
 z77:=Tryz.sizeOf516
 v77:=Tryz.zeroValue516
 i77:=by kernel_rfl
 t78:=Tryz.underlying208
 a78:=Tryz.isAgg208
 z78:=Tryz.sizeOf208
 v78:=Tryz.zeroValue208
 i78:=by kernel_rfl
 t79:=Tryz.underlying517
 a79:=Tryz.isAgg517
 z79:=Tryz.sizeOf517
 v79:=Tryz.zeroValue517
 i79:=by kernel_rfl
 t80:=Tryz.underlying518
 a80:=Tryz.isAgg518
 z80:=Tryz.sizeOf518
 v80:=Tryz.zeroValue518
 i80:=by kernel_rfl
 t82:=Tryz.underlying520
 a82:=Tryz.isAgg520
 z82:=Tryz.sizeOf520
 v82:=Tryz.zeroValue520
 i82:=by kernel_rfl }
def Tryz.lays196_ren:Go.Shelf.Ren:=⟨fun | 196=>139 | 259=>211 | n=>n,fun | 9=>9 | 4=>4 | 3=>3 | 5=>5 | 12=>12 | 119=>408 | 0=>0 | 46=>139 | 139=>411 | 138=>410 | 53=>26 | n=>n,fun | 3=>1 | 4=>2 | n=>n⟩
theorem Tryz.lays196:Go.Proofs.Lays.n196 Tryz.prog Tryz.lays196_ren:={
 mixed:=by kernel_rfl
 f196:=Tryz.func139.trans (congrArg some (by kernel_rfl))
 f259:=Tryz.func211.trans (congrArg some (by kernel_rfl))
 t0:=Tryz.underlying0
 a0:=Tryz.isAgg0
 z0:=Tryz.sizeOf0
 v0:=Tryz.zeroValue0
 t3:=Tryz.underlying3
 a3:=Tryz.isAgg3
 z3:=Tryz.sizeOf3
 v3:=Tryz.zeroValue3
 t4:=Tryz.underlying4
 a4:=Tryz.isAgg4
 z4:=Tryz.sizeOf4
 v4:=Tryz.zeroValue4
 t5:=Tryz.underlying5
 a5:=Tryz.isAgg5
 z5:=Tryz.sizeOf5
 v5:=Tryz.zeroValue5
 t9:=Tryz.underlying9
 a9:=Tryz.isAgg9
 z9:=Tryz.sizeOf9
 v9:=Tryz.zeroValue9
 t12:=Tryz.underlying12
 a12:=Tryz.isAgg12
 z12:=Tryz.sizeOf12
 v12:=Tryz.zeroValue12
 t46:=Tryz.underlying139
 a46:=Tryz.isAgg139
 z46:=Tryz.sizeOf139
 v46:=Tryz.zeroValue139
 t53:=Tryz.underlying26
 a53:=Tryz.isAgg26
 z53:=Tryz.sizeOf26
 v53:=Tryz.zeroValue26
 t119:=Tryz.underlying408
 a119:=Tryz.isAgg408
 z119:=Tryz.sizeOf408
 t138:=Tryz.underlying410
 a138:=Tryz.isAgg410
 z138:=Tryz.sizeOf410
 v138:=Tryz.zeroValue410
 t139:=Tryz.underlying411
 a139:=Tryz.isAgg411
 z139:=Tryz.sizeOf411
 v139:=Tryz.zeroValue411
 g3:=by kernel_rfl
 g4:=by kernel_rfl }
open Go.RowKit in
theorem Tryz.valid_is(s:ByteArray)(w:World)(hs:s.size≤9223372036854775807)(hT:Lib.Utf8Tabs 1 2 w):
 Calls Tryz.prog 139 #[.string s] w fun e w'=>e=.returned (.bool (Lib.validD s.data.toList))∧Below w.heap.size w w':=Any.utf8_ValidString Tryz.lays196 s w hs hT
end Go.Proofs
namespace Go.Proofs
open Go.Shelf Go.RowKit Go.Lib Go.Sort
noncomputable def Tryz.pvT:TypeInfo:=(Tryz.prog.info? 414).get (by kernel_rfl)
noncomputable def Tryz.pvE:TypeInfo:=(Tryz.prog.info? 417).get (by kernel_rfl)
theorem Tryz.pvK(n:Nat)(h2:2≤n):Lib.swapperK n Tryz.pvE 25=9:=by
 have a:Tryz.pvE.hasPointers=true:=by kernel_rfl
 have b:Tryz.pvE.bytes=192:=by kernel_rfl
 have c:(n==0)=false:=by simp;omega
 have d:(n==1)=false:=by simp;omega
 simp [Lib.swapperK,a,b,c,d]
abbrev PairE:={ x:List UInt8×List Value//x.2.length=12∧∀v∈x.2,v.oneCell'=true }
instance:Inhabited PairE:=⟨⟨([],List.replicate 12 (.int .i64 0)),by simp,by intro v hv;rw [List.eq_of_mem_replicate hv];rfl⟩⟩
def encP(x:PairE):List Value:=.string ⟨x.1.1.toArray⟩::x.1.2
def ltP(x y:PairE):Bool:=Sort.ltStr x.1.1 y.1.1
theorem swo_ltP:SWO ltP where
 irrefl:=fun x=>swo_ltStr.irrefl x.1.1
 trans:=fun x y z h1 h2=>swo_ltStr.trans _ _ _ h1 h2
 ntrans:=fun x y z h1 h2=>swo_ltStr.ntrans _ _ _ h1 h2
theorem encP_len(x:PairE):(encP x).length=13:=by
 have:=x.2.1
 simp [encP,this]
theorem encP_one(x:PairE):∀v∈encP x,v.oneCell'=true:=by
 intro v hv
 rcases List.mem_cons.1 hv with rfl | hv
 ·rfl
 ·exact x.2.2 v hv
theorem Tryz.less_pairs(blk off c Bs size:Nat)(W:World)(G:Nat→List UInt8)(hs:W.cell? ⟨Bs,0,none⟩=some (.slice (some ⟨blk,off,none⟩) size c))
 (hc:∀t,t<size→W.cell? ⟨blk,off+t*13,none⟩=some (.string ⟨(G t).toArray⟩)) (i j:Nat) (hi:i<size) (hj:j<size) (_hsz:size<4611686018427387904):
 Calls Tryz.prog 216 #[.int .i64 i,.int .i64 j,.pointer (some ⟨Bs,0,none⟩)] W fun e w'=>e=.returned (.bool (Sort.ltStr (G i) (G j)))∧∃q,w'=W.drewN q:=by
 have ci:=hc i hi
 have cj:=hc j hj
 go_enter Tryz.func216,Tryz.ntmps216
 go_wp2
 go_quiet (fail)
 go_wp2
 go_ret
 exact⟨by unfold Sort.ltStr;rw [←bytesLess_eq];rfl,nq,rfl⟩
theorem Tryz.sort_pairs(blk off c Bs:Nat)(d:Array PairE)(h2:2≤d.size)(hsz:d.size<4611686018427387904)(w:World)(hH:HoldsK encP 13 w blk off d)(hblk:blk<w.heap.size)
 (hBs:w.cell? ⟨Bs,0,none⟩=some (.slice (some ⟨blk,off,none⟩) d.size c)) (hB1:Bs<w.heap.size) (hB2:Bs≠blk):
 Calls Tryz.prog 215 #[.iface 414 (.slice (some ⟨blk,off,none⟩) d.size c),.func (.func 216) #[] #[.pointer (some ⟨Bs,0,none⟩)]] w fun e w'=>
  e=.returned (.tuple #[])∧∃d' n os,PermIn 0 d.size d d'∧SortedIn ltP 0 d.size d'∧w'=grow (putRowK encP 13 (Sort.ahead w n) blk off d') os:=by
 have hless:LessReadsK Tryz.prog 216 #[.pointer (some ⟨Bs,0,none⟩)] encP 13 ltP blk off d.size w:=by
  intro m os dk hs i j hi hj
  have e:sortWorldK encP 13 w blk off m dk os=putRowK encP 13 (grow (Sort.ahead w m) os) blk off dk:=by
   unfold sortWorldK;rw [putRowK_grow _ _ (Sort.ahead w m) _ blk off _ hblk]
  have hHg:HoldsK encP 13 (grow (Sort.ahead w m) os) blk off d:=holdsK_grow _ _ _ _ blk off d hblk (holdsK_ahead _ _ _ _ _ _ _ hH)
  refine Tryz.less_pairs blk off c Bs d.size _ (fun t=>dk[t]!.1.1) ?_ (fun t ht=>?_) i j hi hj (by omega)
  ·rw [e,cell?_putRowK_other _ _ _ blk off dk _ (by exact hB2),cell?_grow _ _ _ (by exact hB1)];exact hBs
  ·rw [e];exact((holdsK_putRowK _ _ _ blk off d dk hHg hs).cell (i:=t) (c:=0) (by omega) (by omega)).1
 exact Any.sort_Slice_cells_sorted Tryz.sv6 414 417 Tryz.pvT Tryz.pvE (by kernel_rfl) (by kernel_rfl) (by kernel_rfl) (by kernel_rfl) 25 (fun _=>by kernel_rfl) encP 13 encP_len (by kernel_rfl) (fun _=>by kernel_rfl)
  encP_one ltP swo_ltP 216 _
  (enters_of Tryz.func216 (by kernel_rfl) rfl) blk off c d h2 hsz 295 (by rw [Tryz.pvK _ h2];kernel_rfl) false
  (fun args W=>run_callFunc_extern Tryz.func295 (by kernel_rfl) (by kernel_rfl) (by kernel_rfl) (e:=Extern.ReflectliteSwapper.swap false) (by kernel_rfl) args W) w hless hH hblk
theorem Tryz.sort_pairs_tiny(p:Option Addr)(n c Bs:Nat)(h1:n≤1)(w:World):
 Calls Tryz.prog 215 #[.iface 414 (.slice p n c),.func (.func 216) #[] #[.pointer (some ⟨Bs,0,none⟩)]] w fun e w'=>e=.returned (.tuple #[])∧∃os,w'=grow w os:=by
 have h:n=0∨n=1:=by omega
 rcases h with rfl | rfl
 ·exact Any.sort_Slice_tiny Tryz.sv6 414 417 Tryz.pvT Tryz.pvE (by kernel_rfl) (by kernel_rfl) (by kernel_rfl) (by kernel_rfl) 25 (fun _=>by kernel_rfl) p 0 c (by omega) 287 (by kernel_rfl) (.func 216) #[] _ w
 ·exact Any.sort_Slice_tiny Tryz.sv6 414 417 Tryz.pvT Tryz.pvE (by kernel_rfl) (by kernel_rfl) (by kernel_rfl) (by kernel_rfl) 25 (fun _=>by kernel_rfl) p 1 c (by omega) 288 (by kernel_rfl) (.func 216) #[] _ w
end Go.Proofs
namespace Go.Proofs.YtfoegolfadhmjaaGreatDoor
open Go.RowKit Go.WideShapes Go.Sort
inductive PR(w:World):List (List UInt8×V×V)→List Value→Prop where
 | nil:PR w [] []
 | cons {t:List UInt8} {k v:V} {ck cv cells:List Value} {ps:List (List UInt8×V×V)} (hk:Mem w [k] ck) (hv:Mem w [v] cv) (hs:PR w ps cells):PR w ((t,k,v)::ps) ((.string ⟨t.toArray⟩::(ck++cv))++cells)
theorem PR.len{w:World}{ps:List (List UInt8×V×V)}{cells:List Value}(h:PR w ps cells):cells.length=ps.length*13:=by
 induction h with
 | nil=>rfl
 | cons hk hv hs ih=>
   have:=hk.len
   have:=hv.len
   simp only [List.length_append,List.length_cons,List.length_nil]at *
   omega
theorem pairCells:CellsOf 13 PR where
 nil _:=.nil
 len h:=h.len
 one h:=by
  induction h with
  | nil=>intro u hu;simp at hu
  | cons hk hv hs ih=>
    intro u hu
    rcases List.mem_append.1 hu with hu | hu
    ·rcases List.mem_cons.1 hu with rfl | hu
     ·rfl
     ·rcases List.mem_append.1 hu with hu | hu
      ·exact hk.one u hu
      ·exact hv.one u hu
    ·exact ih u hu
 app h k:=by
  induction h with
  | nil=>exact k
  | cons hk hv hs ih=>rw [List.append_assoc];exact .cons hk hv ih
theorem PR.chunks{w:World}{ps:List (List UInt8×V×V)}{cells:List Value}(h:PR w ps cells):∃es:List PairE,es.length=ps.length∧cells=es.flatMap encP:=by
 induction h with
 | nil=>exact⟨[],rfl,rfl⟩
 | cons hk hv hs ih=>
   rename_i t k v ck cv cells ps
   obtain⟨es,h1,rfl⟩:=ih
   have e1:=hk.len
   have e2:=hv.len
   refine⟨⟨(t,ck++cv),by simp [e1,e2],fun u hu=>?_⟩::es,by simp [h1],by simp [encP]⟩
   rcases List.mem_append.1 hu with hu | hu
   ·exact hk.one u hu
   ·exact hv.one u hu
theorem PR.each{w:World}:∀{ps:List (List UInt8×V×V)} {es:List PairE},PR w ps (es.flatMap encP)→es.length=ps.length→∀z∈ps.zip es,PR w [z.1] (encP z.2)
 | [],es,_,_=>by intro z hz;simp at hz
 | p::ps,[],_,h=>by simp at h
 | p::ps,e::es,h,hl=>by
   obtain⟨x,hx⟩:∃x,x=(e::es).flatMap encP:=⟨_,rfl⟩
   rw [←hx]at h
   cases h with
   | cons hk hv hs=>
     rename_i t k v ck cv cells
     have e1:=hk.len
     have e2:=hv.len
     have e3:=encP_len e
     rw [List.flatMap_cons]at hx
     have:=List.append_inj hx (by rw [e3];simp [e1,e2])
     obtain⟨q1,rfl⟩:=this
     intro z hz
     simp only [List.zip_cons_cons,List.mem_cons]at hz
     rcases hz with rfl | hz
     ·have:=PR.cons (t:=t) hk hv (PR.nil (w:=w))
      rw [List.append_nil,q1]at this
      exact this
     ·exact PR.each hs (by simpa using hl) z hz
theorem PR.all{w:World}:∀{zs:List ((List UInt8×V×V)×PairE)},(∀z∈zs,PR w [z.1] (encP z.2))→PR w (zs.map (·.1)) ((zs.map (·.2)).flatMap encP)
 | [],_=>.nil
 | z::zs,h=>by
   have h1:=h z (List.mem_cons_self ..)
   have h2:=PR.all fun u hu=>h u (List.mem_cons_of_mem _ hu)
   simp only [List.map_cons,List.flatMap_cons]
   exact pairCells.app (l1:=[z.1]) h1 h2
theorem flat_at:∀(es:List PairE) (j:Nat),j<es.length*13→(es.flatMap encP)[j]? =some (encP es[j/13]!)[j % 13]!
 | [],j,h=>by simp at h
 | e::es,j,h=>by
   have e3:=encP_len e
   rw [List.flatMap_cons]
   by_cases hj:j<13
   ·rw [List.getElem?_append_left (by omega),Nat.div_eq_of_lt hj,Nat.mod_eq_of_lt hj]
    simp [e3,hj]
   ·rw [List.getElem?_append_right (by omega),e3,flat_at es (j-13) (by simp at h;omega)]
    have h1:j/13=(j-13)/13+1:=by omega
    have h2:j % 13=(j-13) % 13:=by omega
    rw [h1,h2]
    rfl
theorem permIn_list{d d':Array PairE}(h:PermIn 0 d.size d d'):d'.toList.Perm d.toList:=by
 obtain⟨h1,_,h3⟩:=h
 have e1:d'.extract 0 d.size=d':=by rw [←h1];simp
 have e2:d.extract 0 d.size=d:=by simp
 rw [e1,e2]at h3
 exact h3
theorem pairs_sorted(w:World)(base L:Nat)(sk:Value)(ps:List (List UInt8×V×V))(h:RowG 417 13 PR w base sk ps)(hL:w.heap[L]? =some (.cells #[sk] 414 (0,0)))(hLb:L<base)(hn:ps.length≤1000):
 Calls Tryz.prog 215 #[.iface 414 sk,.func (.func 216) #[] #[.pointer (some ⟨L,0,none⟩)]] w fun e w'=>e=.returned (.tuple #[])∧Keep (fun b=>some b≠sk.ownBlock) w w'∧∃ps',ps.Perm ps'∧RowG 417 13 PR w' base sk ps':=by
 by_cases hs1:ps.length≤1
 ·obtain⟨A,c,rfl⟩:=h.shape
  refine(Tryz.sort_pairs_tiny A ps.length c L hs1 w).mono ?_
  rintro e w' ⟨rfl,os,rfl⟩
  have k:New w (grow w os):=⟨rfl,rfl,rfl,by simp [grow],fun i hi _=>heap_grow_old w os hi⟩
  exact⟨rfl,k.keep _,ps,List.Perm.refl _,h.keep k (fun _ _=>trivial)⟩
 ·obtain⟨cells,⟨h1,h2⟩,hdep⟩:=h
  rcases h2 with⟨_,h2⟩ | ⟨g,cap,cur,rfl,hg,hb,hcn,hcap,hsz,ht⟩
  ·omega
  obtain⟨es,hel,rfl⟩:=hdep.here.chunks
  have hlt:=lt_blk hb
  have hLlt:=lt_blk hL
  have hflat:∀j,j<ps.length*13→cur[j]? =some (encP es[j/13]!)[j % 13]! :=fun j hj=>by
   rw [←flat_at es j (by rw [hel];exact hj),←ht,List.getElem?_take_of_lt hj,Array.getElem?_toList]
  have hcsz:ps.length*13≤cur.size:=by
   rcases Nat.lt_or_ge cur.size (ps.length*13)with h | h
   ·have:=hflat cur.size h
    simp at this
   ·exact h
  have hH:HoldsK encP 13 w g 0 es.toArray:=by
   intro j hj
   have hj':j<ps.length*13:=by simpa [hel]using hj
   refine⟨?_,blk_free hb _⟩
   rw [blk_cell hb,Nat.zero_add,hflat j hj',get_flatK _ _ _ _ (by simpa [hel]using hj')]
   simp
  have hsort:=Tryz.sort_pairs g 0 cap L es.toArray (by simp;omega) (by simp;omega) w hH hlt (by rw [(blk_cell hL 0).trans rfl];simp [hel]) hLlt (by omega)
  have e0:es.toArray.size=ps.length:=by simpa using hel
  rw [e0]at hsort
  refine hsort.mono ?_
  rintro e w' ⟨rfl,d',n,os,hp,_,rfl⟩
  have hperm:=permIn_list (d:=es.toArray) (d':=d') (by rw [e0];exact hp)
  have hd':d'.size=ps.length:=by
   have:=hperm.length_eq
   simpa [hel]using this
  have hk:Keep (fun b=>b≠g) w (grow (putRowK encP 13 (Sort.ahead w n) g 0 d') os):=by
   refine⟨rfl,rfl,rfl,by simp [grow,putRowK,putRow,mapBlock,ahead],fun k hk hne=>?_⟩
   rw [heap_grow_old _ _ (by simpa [putRowK,putRow,mapBlock,ahead]using hk)]
   simp [putRowK,putRow,mapBlock,ahead,Array.getElem?_modify,Ne.symm hne]
  have hb':(grow (putRowK encP 13 (Sort.ahead w n) g 0 d') os).heap[g]? =some (.cells (putCells id 0 (flatK encP 13 d') cur) 417 (0,0)):=by
   rw [heap_grow_old _ _ (by simpa [putRowK,putRow,mapBlock,ahead]using hlt)]
   simp [putRowK,putRow,mapBlock,ahead,Array.getElem?_modify,hb,onCells]
  obtain⟨zs,hz1,hz2⟩:=lift_perm (fun z:(List UInt8×V×V)×PairE=>z.2) d'.toList (ps.zip es) (by
   rw [show(ps.zip es).map (fun z=>z.2)=es from List.map_snd_zip (by omega)]
   simpa using hperm)
  have hz3:ps.Perm (zs.map (·.1)):=by
   have:=hz1.map (·.1)
   rwa [show(ps.zip es).map (fun z=>z.1)=ps from List.map_fst_zip (by omega)]at this
  refine⟨rfl,hk.mono fun b _ hb=>by intro e;subst e;exact hb (by simp [Value.ownBlock]),zs.map (·.1),hz3,d'.toList.flatMap encP,⟨?_,.inr ⟨g,cap,_,?_,hg,hb',?_,hcap,?_,?_⟩⟩,?_⟩
  ·have hfl:∀l:List PairE,(l.flatMap encP).length=l.length*13:=by
    intro l
    induction l with
    | nil=>rfl
    | cons e l ih=>rw [List.flatMap_cons,List.length_append,ih,encP_len];simp;omega
   rw [hfl,←hz3.length_eq]
   simp [hd']
  ·rw [←hz3.length_eq]
  ·rw [←hz3.length_eq];exact hcn
  ·simpa [putCells]using hsz
  ·rw [←hz3.length_eq]
   apply List.ext_getElem?
   intro j
   by_cases hj:j<ps.length*13
   ·have hd2:d'.toList.length*13=ps.length*13:=by simp [hd']
    rw [List.getElem?_take_of_lt hj,Array.getElem?_toList,flat_at d'.toList j (by omega)]
    have hjc:j<cur.size:=by omega
    simp only [putCells,Array.getElem?_mapIdx,Array.getElem?_eq_getElem hjc,Option.map_some]
    rw [if_pos ⟨Nat.zero_le _,by simp [hd'];omega⟩,Nat.sub_zero,get_flatK _ _ _ _ (by rw [hd'];exact hj)]
    simp [Array.getElem!_eq_getD,Array.getD_eq_getD_getElem?]
   ·rw [List.getElem?_eq_none (by simp;omega),List.getElem?_eq_none]
    have hfl:∀l:List PairE,(l.flatMap encP).length=l.length*13:=by
     intro l
     induction l with
     | nil=>rfl
     | cons e l ih=>rw [List.flatMap_cons,List.length_append,ih,encP_len];simp;omega
    rw [hfl]
    simp [hd']
    omega
  ·intro w'' hw''
   have:=hdep.keep hk (fun b _ hb=>fun e=>hb.2 (by rw [e];rfl)) w'' hw''
   have h5:=PR.all (w:=w'') (zs:=zs) fun z hz=>this.each hel z (hz1.mem_iff.2 hz)
   rw [hz2]at h5
   exact h5
end Go.Proofs.YtfoegolfadhmjaaGreatDoor
namespace Go.Proofs.YtfoegolfadhmjaaGreatDoor
open Go.RowKit Go.WideShapes
section
variable {w w':World} {f:Nat} {cs:Array Value} {T:TypeId}
theorem SlM.keepN(hf:w.heap[f]? =some (.cells cs T (0,0)))(hT:cs.size<6)(k:Keep (fun b=>b≠f) w w'){s:Value}{n:Nat}{cells:List Value}(h:SlM w s n cells):SlM w' s n cells:=by
 obtain⟨A,c,hs,h1,h2,h3,h4⟩:=h
 refine⟨A,c,hs,h1,h2,h3,fun hn=>?_⟩
 obtain⟨d,i,hA,hc⟩:=h4 hn
 have hdf:d≠f:=by
  rintro rfl
  have h5:5<cells.length:=by omega
  have:=hc 5 cells[5] (by simp [h5])
  rw [blk_cell hf,Array.getElem?_eq_none (by omega)]at this
  cases this
 exact⟨d,i,hA,fun q u hu=>k.cell (hc q u hu) hdf⟩
theorem Mem.keepN(hf:w.heap[f]? =some (.cells cs T (0,0)))(hT:cs.size<6)(k:Keep (fun b=>b≠f) w w'){l:List V}{cells:List Value}(h:Mem w l cells):Mem w' l cells:=by
 induction h with
 | nil=>exact .nil
 | cons hn hk hkm hd hdm hs ih1 ih2 ih3=>exact .cons hn (hk.keepN hf hT k) ih1 (hd.keepN hf hT k) ih2 ih3
theorem LM.keepN(hf:w.heap[f]? =some (.cells cs T (0,0)))(hT:cs.size<6)(k:Keep (fun b=>b≠f) w w'){l:List V}{s:Value}(h:LM w l s):LM w' l s:=by
 obtain⟨cells,h1,h2⟩:=h
 exact⟨cells,h1.keepN hf hT k,h2.keepN hf hT k⟩
theorem VM.keepN(hf:w.heap[f]? =some (.cells cs T (0,0)))(hT:cs.size<6)(k:Keep (fun b=>b≠f) w w'){v:V}{x:Value}(h:VM w v x):VM w' v x:=by
 obtain⟨cells,h1,h2⟩:=h
 exact⟨cells,h1,h2.keepN hf hT k⟩
end
theorem VM.parts'{w:World}{u:V}{y:Value}(h:VM w u y):∃A c o A' c',y=.agg #[.int .i64 u.kind,.int .u64 (u.num:Int),.string ⟨u.text.toArray⟩,.slice A u.kids.length c,.int .i64 o,.slice A' u.desc.length c']∧u.num<18446744073709551616∧o=u.of:=by
 obtain⟨k,n,t,ks,o,ds⟩:=u
 obtain⟨sk,sd,rfl,hn,hk,hd⟩:=h.inv
 obtain⟨A,c,rfl,_⟩:=hk.shape
 obtain⟨A',c',rfl,_⟩:=hd.shape
 exact⟨A,c,o,A',c',rfl,hn,rfl⟩
end Go.Proofs.YtfoegolfadhmjaaGreatDoor
namespace Go.Proofs.YtfoegolfadhmjaaGreatDoor
open Go.RowKit Go.WideShapes Go.Sort
theorem cnts_take(l:List V)(j:Nat)(hj:j<l.length):cnts (l.take (j+1))=cnts (l.take j)+cnt l[j]:=by
 rw [←List.take_append_getElem hj,cnts_append]
 simp [cnts]
theorem few_val(N:Nat):∀(v:V),cnt v≤N→∀(w:World) (x:Value) (p m:Nat),VM w v x→w.heap[p]? =some (.cells #[.int .i64 (m:Int)] 3 (0,0))→m≤1000000→
 Calls Tryz.prog 64 #[x,.pointer (some ⟨p,0,none⟩)] w fun e w'=>∃b,e=.returned (.bool b)∧Keep (fun k=>k≠p) w w'∧∃m':Int,w'.heap[p]? =some (.cells #[.int .i64 m'] 3 (0,0))∧(b=true→m' +cnt v=m∧0≤m'):=by
 induction N with
 | zero=>
   intro v h
   cases v
   simp only [cnt]at h
   omega
 | succ N ih=>
   intro v hN w x p m hx hp hm
   obtain⟨k,n,t,ks,o,ds⟩:=v
   obtain⟨sk,sd,rfl,hn,hks,hds⟩:=hx.inv
   obtain⟨A1,c1,rfl,hl1,hl1'⟩:=hks.shape
   obtain⟨A2,c2,rfl,hl2,hl2'⟩:=hds.shape
   have hml:ks.length≤maxLen:=by omega
   have hmd:ds.length≤maxLen:=by omega
   unfold maxLen at hml hmd
   have hNk:cnts ks≤N∧cnts ds≤N:=by simp only [cnt]at hN;omega
   clear hl1 hl1' hl2 hl2' hx hN
   obtain⟨a,ha⟩:∃a,a=ks.length:=⟨_,rfl⟩
   obtain⟨b,hb⟩:∃b,b=ds.length:=⟨_,rfl⟩
   rw [←ha]at hml hks ⊢
   rw [←hb]at hmd hds ⊢
   have M1:=Lib.hid ha
   have M2:=Lib.hid hb
   have HK:=Lib.hid hks
   have HD:=Lib.hid hds
   have IH:=Lib.hid ih
   have HP:=Lib.hid hp
   clear ha hb hks hds ih
   have hplt:=lt_blk hp
   have c0:=cell_alloc ((blk_cell hp 0).trans rfl) (.cells #[.int .i64 k,.int .u64 (n:Int),.string ⟨t.toArray⟩,.slice A1 a c1,.int .i64 o,.slice A2 b c2] 78)
   have f0:=blk_free (blk_alloc hp (.cells #[.int .i64 k,.int .u64 (n:Int),.string ⟨t.toArray⟩,.slice A1 a c1,.int .i64 o,.slice A2 b c2] 78)) 0
   have hs:=fun u=>blk_set hp 0 u
   have hc1:=fun u=>cell_alloc ((blk_cell (hs u) 0).trans rfl) (.cells #[.int .i64 k,.int .u64 (n:Int),.string ⟨t.toArray⟩,.slice A1 a c1,.int .i64 o,.slice A2 b c2] 78)
   have HP1:=Lib.hid fun u=>blk_alloc (hs u) (.cells #[.int .i64 k,.int .u64 (n:Int),.string ⟨t.toArray⟩,.slice A1 a c1,.int .i64 o,.slice A2 b c2] 78)
   have HB1:=Lib.hid fun u=>blk_new (w.setCell ⟨p,0,none⟩ u) (.cells #[.int .i64 k,.int .u64 (n:Int),.string ⟨t.toArray⟩,.slice A1 a c1,.int .i64 o,.slice A2 b c2] 78)
   have K1:Hid (∀u,Keep (fun k=>k≠p) w ((w.setCell ⟨p,0,none⟩ u).alloc (.cells #[.int .i64 k,.int .u64 (n:Int),.string ⟨t.toArray⟩,.slice A1 a c1,.int .i64 o,.slice A2 b c2] 78))):=Lib.hid fun u=>((Keep.refl _ w).setCell (.inr (by simp)) _).alloc _
   have hc1:∀u,((w.setCell ⟨p,0,none⟩ u).alloc (.cells #[.int .i64 k,.int .u64 (n:Int),.string ⟨t.toArray⟩,.slice A1 a c1,.int .i64 o,.slice A2 b c2] 78)).cell? ⟨p,0,none⟩=some u:=hc1
   clear hp hs
   by_cases hm0:m=0
   ·subst hm0
    go_enter Tryz.func64,Tryz.ntmps64
    go_wp2
    go_ret
    exact⟨false,rfl,K1.out _,-1,by simpa using HP1.out (.int .i64 (-1)),fun h=>by cases h⟩
   have tm:decide ((m:Int)-1<0)=false:=by simp;omega
   go_enter Tryz.func64,Tryz.ntmps64
   go_wp2_with fail
   go_loopg [5] a (fun kk s5 wr=>∃(j mj:Nat),j+kk=a∧s5=.int .i64 (j:Int)∧Keep (fun k=>k≠p) w wr∧wr.heap[w.heap.size]? =some (.cells #[.int .i64 k,.int .u64 (n:Int),.string ⟨t.toArray⟩,.slice A1 a c1,.int .i64 o,.slice A2 b c2] 78 (0,0))∧wr.heap[p]? =some (.cells #[.int .i64 (mj:Int)] 3 (0,0))∧mj+1+cnts (ks.take j)=m)
   case atStart=>
    refine⟨0,m-1,by omega,rfl,K1.out _,by simpa using HB1.out (.int .i64 ((m:Int)-1)),?_,by simp [cnts];omega⟩
    have:=HP1.out (.int .i64 ((m:Int)-1))
    rw [show((m:Int)-1)=((m-1:Nat):Int) by omega]at this ⊢
    simpa using this
   case round=>
    obtain⟨j,mj,hj,rfl,kr,hb,hpr,hmj⟩:=hrel
    rcases gk with _ | kk
    ·obtain rfl:a=j:=by omega
     have hmk:mj+1+cnts ks=m:=by rw [M1.out,List.take_length]at hmj;exact hmj
     clear hmj
     have hbox3:=(blk_cell hb 3).trans rfl
     go_wp2_with fail
     go_loopg [6] b (fun kk s6 wr=>∃(j mj:Nat),j+kk=b∧s6=.int .i64 (j:Int)∧Keep (fun k=>k≠p) w wr∧wr.heap[w.heap.size]? =some (.cells #[.int .i64 k,.int .u64 (n:Int),.string ⟨t.toArray⟩,.slice A1 a c1,.int .i64 o,.slice A2 b c2] 78 (0,0))∧wr.heap[p]? =some (.cells #[.int .i64 (mj:Int)] 3 (0,0))∧mj+1+cnts ks+cnts (ds.take j)=m)
     case atStart=>exact⟨0,mj,by omega,rfl,kr,hb,hpr,by simp [cnts];omega⟩
     case round=>
      clear hmk hbox3 kr hb hpr
      obtain⟨j',mj',hj',rfl,kr,hb,hpr,hmj⟩:=hrel
      rcases gk with _ | kk
      ·obtain rfl:b=j':=by omega
       have hbox5:=(blk_cell hb 5).trans rfl
       go_wp2
       go_ret
       refine⟨true,rfl,kr,mj',hpr,fun _=>?_⟩
       rw [M2.out,List.take_length]at hmj
       simp only [cnt]
       omega
      ·have hjn:j'<b:=by omega
       have tj:decide (j'<b)=true:=by simpa using hjn
       have hj1:j'<ds.length:=by rw [←M2.out];exact hjn
       have hbox5:=(blk_cell hb 5).trans rfl
       obtain⟨d2,i2,hAe,-,-,-,hat⟩:=((HD.out.keepN HP.out (by simp) kr)).at2 (fun h=>by rw [h]at hj1;simp at hj1)
       cases hAe
       obtain⟨e0,e1,e2,e3,e4,e5,hva,g0,g1,g2,g3,g4,g5⟩:=hat j' hj1
       have hcall:=IH.out ds[j'] (Nat.le_trans (cnts_get ds j' hj1) hNk.2) wr _ p mj' hva hpr (by omega)
       have HC:=Lib.hid hcall
       have HB:=Lib.hid hb
       have HMJ:=Lib.hid hmj
       clear hcall hva hat hpr hb hmj
       go_wp2_with fail
       refine HC.out.mono ?_
       rintro e w4 ⟨bb,rfl,k4,m4,hp4,hm4⟩
       have kr4:=kr.trans k4
       have hb4:=k4.blk HB.out (show w.heap.size≠p by omega)
       cases bb
       ·go_wp2
        go_ret
        exact⟨false,rfl,kr4,m4,hp4,fun h=>by cases h⟩
       ·obtain⟨hm5,hm6⟩:=hm4 rfl
        obtain⟨m5,rfl⟩:∃m5:Nat,m4=m5:=⟨m4.toNat,by omega⟩
        go_wp2
        go_roundg kk
        case measure=>omega
        case rel=>
         refine⟨j' +1,m5,by omega,congrArg _ (by omega),kr4,hb4,hp4,?_⟩
         have:=HMJ.out
         rw [cnts_take _ _ hj1]
         omega
    ·have hjn:j<a:=by omega
     have tj:decide (j<a)=true:=by simpa using hjn
     have hj1:j<ks.length:=by rw [←M1.out];exact hjn
     have hbox3:=(blk_cell hb 3).trans rfl
     obtain⟨d2,i2,hAe,-,-,-,hat⟩:=((HK.out.keepN HP.out (by simp) kr)).at2 (fun h=>by rw [h]at hj1;simp at hj1)
     cases hAe
     obtain⟨e0,e1,e2,e3,e4,e5,hva,g0,g1,g2,g3,g4,g5⟩:=hat j hj1
     have hcall:=IH.out ks[j] (Nat.le_trans (cnts_get ks j hj1) hNk.1) wr _ p mj hva hpr (by omega)
     have HC:=Lib.hid hcall
     have HB:=Lib.hid hb
     have HMJ:=Lib.hid hmj
     clear hcall hva hat hpr hb hmj
     go_wp2_with fail
     refine HC.out.mono ?_
     rintro e w4 ⟨bb,rfl,k4,m4,hp4,hm4⟩
     have kr4:=kr.trans k4
     have hb4:=k4.blk HB.out (show w.heap.size≠p by omega)
     cases bb
     ·go_wp2
      go_ret
      exact⟨false,rfl,kr4,m4,hp4,fun h=>by cases h⟩
     ·obtain⟨hm5,hm6⟩:=hm4 rfl
      obtain⟨m5,rfl⟩:∃m5:Nat,m4=m5:=⟨m4.toNat,by omega⟩
      go_wp2
      go_roundg kk
      case measure=>omega
      case rel=>
       refine⟨j+1,m5,by omega,congrArg _ (by omega),kr4,hb4,hp4,?_⟩
       have:=HMJ.out
       rw [cnts_take _ _ hj1]
       omega
end Go.Proofs.YtfoegolfadhmjaaGreatDoor
