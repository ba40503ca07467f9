/- Bytes out of a slice of whatever block; a uuid written to a buffer. Trees in memory beside a block of another type that is turned. Fields of composite values, and pieces, in memory. impl.marshaled at keys, impl.pairs. spec.big, and what is picked. spec.SameValue. spec.SameLoosely. spec.SameLoosely. spec.Usual. Plain laws: what is written in pieces is an encoding; which trees are tidy. spec.big. spec.lengthed: what stands behind its length. -/
import Derived.Test.YtfoegolfadhmjaaGreatDoorU03
import Derived.Test.YtfoegolfadhmjaaGreatDoorU04
import Derived.Test.YtfoegolfadhmjaaGreatDoorU06
import Derived.Lib.QuietBelow
set_option linter.unusedVariables false
set_option linter.unusedSimpArgs false
set_option maxRecDepth 100000
set_option maxHeartbeats 16000000
namespace Go.Proofs.YtfoegolfadhmjaaGreatDoor
open Go.RowKit Go.WideShapes
def SlC(w:World)(v:Value)(l:List UInt8):Prop:=
 ∃A c,v=.slice A l.length c∧l.length≤c∧c≤9223372036854775807∧(l≠[]→∃d i,A=some ⟨d,i,none⟩∧∀j (hj:j<l.length),w.cell? ⟨d,i+j,none⟩=some (.int .u8 (l[j].toNat:Int)))
theorem SlB.toC{w:World}{v:Value}{l:List UInt8}(h:SlB w v l):SlC w v l:=by
 obtain⟨A,c,e,h1,h2,h3⟩:=h
 exact⟨A,c,e,h1,h2,fun hne=>by
  obtain⟨d,i,e,hb⟩:=h3 hne
  exact⟨d,i,e,fun j hj=>hb.cell j hj⟩⟩
theorem SlC.keep{w w':World}{v:Value}{l:List UInt8}(h:SlC w v l)(k:New w w'):SlC w' v l:=by
 obtain⟨A,c,e,h1,h2,h3⟩:=h
 exact⟨A,c,e,h1,h2,fun hne=>by
  obtain⟨d,i,e,hb⟩:=h3 hne
  exact⟨d,i,e,fun j hj=>k.cell (hb j hj) trivial⟩⟩
theorem RowB.appC{w:World}{base:Nat}{sk:Value}{bs:List UInt8}(h:RowB w base sk bs){v:Value}{l:List UInt8}(hv:SlC w v l)(hn:bs.length+l.length≤1099511627776)(hbase:base≤w.heap.size):
 ∃sk' w',(Builtin.append_ #[27,27] 27 #[sk,v]).run Tryz.prog w=.ok sk' w'∧RowB w' base sk' (bs++l)∧Keep (fun k=>some k≠sk.ownBlock) w w'∧(sk'.ownBlock=sk.ownBlock∨sk'.ownBlock=some w.heap.size):=by
 obtain⟨i0,hi,hz,hs,hb⟩:=info_parts info5
 obtain⟨A,c,rfl,hl1,hc,hA⟩:=hv
 cases A with
 | some ad=>
   obtain⟨v',w',hr,h2,h3,_,h5⟩:=run_append_own_at (P:=Tryz.prog) (w:=w) base 27 27 5 i0 _ 1 1 Tryz.underlying27 hi hz hs hb rfl (by omega) sk bs.length _ h ad l.length c (l.map fun x=>Value.int .u8 (x.toNat:Int)) (by simp) (fun j u hj=>by
    have hjl:j<l.length:=by
     rcases Nat.lt_or_ge j l.length with h | h
     ·exact h
     ·simp [List.getElem?_eq_none (show(l.map fun x=>Value.int .u8 (x.toNat:Int)).length≤j by simpa using h)]at hj
    obtain⟨d,i,he,hd⟩:=hA (fun e=>by rw [e]at hjl;simp at hjl)
    injection he with he
    subst he
    have hplain:(⟨d,i,none⟩:Addr).add j=⟨d,i+j,none⟩:=by unfold Addr.add;split<;>simp_all
    rw [hplain,hd j hjl]
    simpa [hjl]using hj) (by intro u hu;obtain⟨x,_,rfl⟩:=List.mem_map.1 hu;rfl) (by unfold maxLen;omega) (by omega) hbase
   exact⟨v',w',hr,by unfold RowB;rw [List.length_append,List.map_append];exact h2,Keep.of_grown h3 (fun k hk=>hk),h5⟩
 | none=>
   have hl0:l=[]:=by
    rcases l with _ | ⟨x,l⟩
    ·rfl
    ·obtain⟨d,i,he,_⟩:=hA (by simp)
     cases he
   subst hl0
   obtain⟨A',c',rfl⟩:=h.shape
   refine⟨_,w,?_,by rw [List.append_nil];exact h,Keep.refl _ _,.inl rfl⟩
   have hle:bs.length≤c':=by
    rcases h.2 with⟨e,h0⟩ | ⟨g,cap,cur,e,hg,hb,hn,_⟩
    ·injection e with _ _ e;omega
    ·injection e with _ _ e;omega
   exact run_append_nothing w 27 27 27 5 i0 Tryz.underlying27 hi A' bs.length c' hle _ (Src.ofNil w Tryz.underlying27 c)
theorem BufW.appC{w:World}{g n:Nat}(h:BufW w g n)(w1:World)(k:New w w1){v:Value}{l:List UInt8}(hv:SlC w1 v l)(hn:n+l.length≤1099511627776):
 ∃sk sk' w',(∃A n c,sk'=.slice A n c)∧w1.heap[g]? =some (.cells #[sk,.int .i64 0] 122)∧w1.frozen? ⟨g,0,none⟩=false∧w1.cell? ⟨g,0,none⟩=some sk∧(Builtin.append_ #[27,27] 27 #[sk,v]).run Tryz.prog w1=.ok sk' w'∧w'.cell? ⟨g,0,none⟩=some sk∧w'.frozen? ⟨g,0,none⟩=false∧BufW (w'.setCell ⟨g,0,none⟩ sk') g (n+l.length)∧Keep (fun b=>b<g) w (w'.setCell ⟨g,0,none⟩ sk')∧Keep (fun b=>b<g∨w.heap.size≤b) w1 (w'.setCell ⟨g,0,none⟩ sk'):=by
 obtain⟨sk,bs,h0,h2,h3⟩:=h
 have hlow:∀b,sk.ownBlock=some b→b<w.heap.size:=fun b hb=>h2.lt hb
 have hg0:=lt_blk h0
 have h1:=k.blk h0 trivial
 replace h2:=h2.keep k (fun _ _=>trivial)
 have hlt:=lt_blk h1
 obtain⟨sk',w',hr,hrow,kp,_⟩:=h2.appC hv (by omega) (by omega)
 have hne:some g≠sk.ownBlock:=h2.far g (by omega)
 have hb:=kp.blk h1 hne
 refine⟨sk,sk',w',(let ⟨A,c,e⟩:=hrow.shape;⟨A,_,c,e⟩),h1,blk_free h1 0,(blk_cell h1 0).trans rfl,hr,(blk_cell hb 0).trans rfl,blk_free hb 0,BufW.set hb hrow (by simp;omega),?_,?_⟩
 ·refine Keep.setCell ?_ (.inr (by simp)) _
  exact(k.keep _).then kp (fun i hi hg=>h2.far i (by omega))
 ·refine Keep.setCell ?_ (.inr (by simp;omega)) _
  exact(Keep.refl _ w1).then kp (fun i hi hg=>by
   rcases hg with hg | hg
   ·exact h2.far i (by omega)
   ·intro e
    have:=hlow i e.symm
    omega)
theorem append_k(w0 w:World)(k0:New w0 w)(g n:Nat)(h:BufW w0 g n)(v:Value)(l:List UInt8)(hv:SlC w v l)(hn:n+l.length≤1099511627776):
 Calls Tryz.prog 261 #[.pointer (some ⟨g,0,none⟩),v] w fun e w'=>e=.returned (.tuple #[])∧BufW w' g (n+l.length)∧Keep (fun b=>b<g) w0 w':=by
 obtain⟨sk,_,w',⟨A',n',c',rfl⟩,h1,f1,c1,hr,c2,f2,hB,hK,hK2⟩:=h.appC _ k0 hv hn
 have HR:=Lib.hid hr
 obtain⟨A,c,hsh,_⟩:=hv
 subst hsh
 clear hr
 go_enter Tryz.func261,Tryz.ntmps261
 go_wp2_with (at_builtin;refine wpList_append_eq rfl _ _ 27 rfl _ _ _ _ rfl rfl HR.out ?_)
 refine bodyPost_end (v:=.tuple #[]) (by simp [results,Tryz.results261]) rfl ⟨rfl,hB,hK⟩
theorem uuidMarshal(w:World)(g:Nat)(h:BufW w g 0)(t:List UInt8)(ht:t.length=16):
 Calls Tryz.prog 369 #[uuidV t,.pointer (some ⟨g,0,none⟩)] w fun e w'=>e=.returned .nilIface∧BufW w' g 200000∧Keep (fun b=>b<g) w w':=by
 obtain⟨b0,b1,b2,b3,b4,b5,b6,b7,b8,b9,b10,b11,b12,b13,b14,b15,rfl⟩:=sixteen_of ht
 simp only [uuidV,List.map_cons,List.map_nil]
 have kA:=(Keep.refl (fun _=>True) w).alloc (.cells #[.int .u8 (b0.toNat:Int),.int .u8 (b1.toNat:Int),.int .u8 (b2.toNat:Int),.int .u8 (b3.toNat:Int),.int .u8 (b4.toNat:Int),.int .u8 (b5.toNat:Int),.int .u8 (b6.toNat:Int),.int .u8 (b7.toNat:Int),.int .u8 (b8.toNat:Int),.int .u8 (b9.toNat:Int),.int .u8 (b10.toNat:Int),.int .u8 (b11.toNat:Int),.int .u8 (b12.toNat:Int),.int .u8 (b13.toNat:Int),.int .u8 (b14.toNat:Int),.int .u8 (b15.toNat:Int)] 309)
 have hgl:=h.lt
 go_enter Tryz.func369,Tryz.ntmps369
 go_wp2_with fail
 refine(appendByte_k w _ g 0 h kA 152 (by decide) (by omega)).mono ?_
 rintro e w1 ⟨rfl,h1,k1⟩
 have hb:=k1.blk (blk_new w (.cells #[.int .u8 (b0.toNat:Int),.int .u8 (b1.toNat:Int),.int .u8 (b2.toNat:Int),.int .u8 (b3.toNat:Int),.int .u8 (b4.toNat:Int),.int .u8 (b5.toNat:Int),.int .u8 (b6.toNat:Int),.int .u8 (b7.toNat:Int),.int .u8 (b8.toNat:Int),.int .u8 (b9.toNat:Int),.int .u8 (b10.toNat:Int),.int .u8 (b11.toNat:Int),.int .u8 (b12.toNat:Int),.int .u8 (b13.toNat:Int),.int .u8 (b14.toNat:Int),.int .u8 (b15.toNat:Int)] 309)) (.inr (Nat.le_refl _))
 have hsl:SlC w1 (.slice (some ⟨w.heap.size,0,none⟩) 16 16) [b0,b1,b2,b3,b4,b5,b6,b7,b8,b9,b10,b11,b12,b13,b14,b15]:=⟨_,16,rfl,Nat.le_refl _,by omega,fun _=>⟨w.heap.size,0,rfl,fun j hj=>by
  rw [blk_cell hb,Nat.zero_add]
  match j,hj with
  | 0,_=>rfl
  | 1,_=>rfl
  | 2,_=>rfl
  | 3,_=>rfl
  | 4,_=>rfl
  | 5,_=>rfl
  | 6,_=>rfl
  | 7,_=>rfl
  | 8,_=>rfl
  | 9,_=>rfl
  | 10,_=>rfl
  | 11,_=>rfl
  | 12,_=>rfl
  | 13,_=>rfl
  | 14,_=>rfl
  | 15,_=>rfl
  | j+16,hj=>exact absurd hj (by simp)⟩⟩
 go_wp2_with fail
 refine(append_k w1 w1 (Keep.refl _ _) g 1 h1 _ _ hsl (by simp)).mono ?_
 rintro e w2 ⟨rfl,h2,k2⟩
 go_wp2
 go_ret
 exact⟨rfl,h2.mono (by simp),((New.keep kA _).then k1 (fun i hi hg=>.inl hg)).trans k2⟩
theorem ti309(w:World)(v:Value):(Instr.typeAssert (.iface 309 v) 20 472 true).run Tryz.prog w=.ok (.tuple #[.iface 309 v,.bool true]) w:=by kernel_rfl
attribute [local go_sem] ti309
theorem marsh_uuid(w:World)(g:Nat)(h:BufW w g 0)(t:List UInt8)(ht:t.length=16):
 Calls Tryz.prog 244 #[.pointer (some ⟨g,0,none⟩),.iface 309 (uuidV t)] w fun e w'=>e=.returned .nilIface∧BufW w' g 200000∧Keep (fun b=>b<g) w w':=by
 have hc:=Lib.hid (uuidMarshal w g h t ht)
 obtain⟨cs,hcs⟩:∃cs,uuidV t=.agg cs:=⟨_,rfl⟩
 rw [hcs]at hc ⊢
 clear hcs
 go_enter Tryz.func244,Tryz.ntmps244
 go_wp2_with fail
 refine hc.out.mono ?_
 rintro e w1 ⟨rfl,h1,k1⟩
 go_wp2
 go_ret
 exact⟨rfl,h1,k1⟩
end Go.Proofs.YtfoegolfadhmjaaGreatDoor
namespace Go.Proofs.YtfoegolfadhmjaaGreatDoor
open Go.RowKit Go.WideShapes
section
variable {w w':World} {f:Nat} {cs:Array Value} {T:TypeId}
theorem SlM.keepN(hf:w.heap[f]? =some (.cells cs T (0,0)))(hT:cs.size<6)(k:Keep (fun b=>b≠f) w w'){s:Value}{n:Nat}{cells:List Value}(h:SlM w s n cells):SlM w' s n cells:=by
 obtain⟨A,c,hs,h1,h2,h3,h4⟩:=h
 refine⟨A,c,hs,h1,h2,h3,fun hn=>?_⟩
 obtain⟨d,i,hA,hc⟩:=h4 hn
 have hdf:d≠f:=by
  rintro rfl
  have h5:5<cells.length:=by omega
  have:=hc 5 cells[5] (by simp [h5])
  rw [blk_cell hf,Array.getElem?_eq_none (by omega)]at this
  cases this
 exact⟨d,i,hA,fun q u hu=>k.cell (hc q u hu) hdf⟩
theorem Mem.keepN(hf:w.heap[f]? =some (.cells cs T (0,0)))(hT:cs.size<6)(k:Keep (fun b=>b≠f) w w'){l:List V}{cells:List Value}(h:Mem w l cells):Mem w' l cells:=by
 induction h with
 | nil=>exact .nil
 | cons hn hk hkm hd hdm hs ih1 ih2 ih3=>exact .cons hn (hk.keepN hf hT k) ih1 (hd.keepN hf hT k) ih2 ih3
theorem LM.keepN(hf:w.heap[f]? =some (.cells cs T (0,0)))(hT:cs.size<6)(k:Keep (fun b=>b≠f) w w'){l:List V}{s:Value}(h:LM w l s):LM w' l s:=by
 obtain⟨cells,h1,h2⟩:=h
 exact⟨cells,h1.keepN hf hT k,h2.keepN hf hT k⟩
theorem VM.keepN(hf:w.heap[f]? =some (.cells cs T (0,0)))(hT:cs.size<6)(k:Keep (fun b=>b≠f) w w'){v:V}{x:Value}(h:VM w v x):VM w' v x:=by
 obtain⟨cells,h1,h2⟩:=h
 exact⟨cells,h1,h2.keepN hf hT k⟩
end
theorem VM.parts'{w:World}{u:V}{y:Value}(h:VM w u y):∃A c o A' c',y=.agg #[.int .i64 u.kind,.int .u64 (u.num:Int),.string ⟨u.text.toArray⟩,.slice A u.kids.length c,.int .i64 o,.slice A' u.desc.length c']∧u.num<18446744073709551616∧o=u.of:=by
 obtain⟨k,n,t,ks,o,ds⟩:=u
 obtain⟨sk,sd,rfl,hn,hk,hd⟩:=h.inv
 obtain⟨A,c,rfl,_⟩:=hk.shape
 obtain⟨A',c',rfl,_⟩:=hd.shape
 exact⟨A,c,o,A',c',rfl,hn,rfl⟩
end Go.Proofs.YtfoegolfadhmjaaGreatDoor
namespace Go.Proofs.YtfoegolfadhmjaaGreatDoor
open Go.RowKit Go.WideShapes
theorem flat2_append(a b:List (V×V)):flat2 (a++b)=flat2 a++flat2 b:=by
 induction a with
 | nil=>rfl
 | cons q a ih=>simp [flat2,ih]
theorem fieldCells:CellsOf 12 (fun w (fs:List (V×V)) cells=>Mem w (flat2 fs) cells) where
 nil _:=.nil
 len h:=by rw [h.len,flat2_len];omega
 one h:=h.one
 app h k:=by rw [flat2_append];exact h.append k
def FM(w:World)(fs:List (V×V))(s:Value):Prop:=∃cells,SlG 81 12 w s fs.length cells∧Mem w (flat2 fs) cells
theorem FM.keep{w w':World}{fs:List (V×V)}{s:Value}(h:FM w fs s)(k:New w w'):FM w' fs s:=by
 obtain⟨cells,h1,h2⟩:=h
 exact⟨cells,h1.keep k,h2.keep k⟩
theorem SlG.keepN{T T':TypeId}{sz:Nat}{w w':World}{f:Nat}{cs:Array Value}(hf:w.heap[f]? =some (.cells cs T (0,0)))(hT:T≠T')(k:Keep (fun b=>b≠f) w w'){s:Value}{n:Nat}{cells:List Value}(h:SlG T' sz w s n cells):SlG T' sz w' s n cells:=by
 obtain⟨A,c,hs,h1,h2,h3,h4⟩:=h
 refine⟨A,c,hs,h1,h2,h3,fun hn=>?_⟩
 obtain⟨d,i,cs',hA,hd,hc⟩:=h4 hn
 refine⟨d,i,cs',hA,k.blk hd ?_,hc⟩
 rintro rfl
 rw [hd]at hf
 injection hf with hf
 injection hf with _ hf
 exact hT hf.symm
theorem FM.keepN{w w':World}{f:Nat}{cs:Array Value}{T:TypeId}(hf:w.heap[f]? =some (.cells cs T (0,0)))(hT:cs.size<6)(hT2:T≠81)(k:Keep (fun b=>b≠f) w w'){fs:List (V×V)}{s:Value}(h:FM w fs s):FM w' fs s:=by
 obtain⟨cells,h1,h2⟩:=h
 exact⟨cells,h1.keepN hf hT2 k,h2.keepN hf hT k⟩
theorem FM.shape{w:World}{fs:List (V×V)}{s:Value}(h:FM w fs s):∃A c,s=.slice A fs.length c∧fs.length≤c∧c≤maxLen:=by
 obtain⟨cells,h1,_⟩:=h
 exact h1.shape
theorem FM.at{w:World}{fs:List (V×V)}{A:Option Addr}{n c:Nat}(h:FM w fs (.slice A n c))(hne:fs≠[]):∃d i,A=some ⟨d,i,none⟩∧n=fs.length∧n≤c∧c≤maxLen∧∀j (hj:j<fs.length),∃a0 a1 a2 a3 a4 a5 b0 b1 b2 b3 b4 b5,
 VM w fs[j].1 (.agg #[a0,a1,a2,a3,a4,a5])∧VM w fs[j].2 (.agg #[b0,b1,b2,b3,b4,b5])∧
 w.cell? ⟨d,i+j*12,none⟩=some a0∧w.cell? ⟨d,i+j*12+1,none⟩=some a1∧w.cell? ⟨d,i+j*12+2,none⟩=some a2∧w.cell? ⟨d,i+j*12+3,none⟩=some a3∧w.cell? ⟨d,i+j*12+4,none⟩=some a4∧w.cell? ⟨d,i+j*12+5,none⟩=some a5∧
 w.cell? ⟨d,i+j*12+6,none⟩=some b0∧w.cell? ⟨d,i+j*12+7,none⟩=some b1∧w.cell? ⟨d,i+j*12+8,none⟩=some b2∧w.cell? ⟨d,i+j*12+9,none⟩=some b3∧w.cell? ⟨d,i+j*12+10,none⟩=some b4∧w.cell? ⟨d,i+j*12+11,none⟩=some b5:=by
 obtain⟨cells,h1,h2⟩:=h
 have hn0:fs.length≠0:=by simpa using hne
 obtain⟨d,i,hA,hm,hc1,hc2,hat⟩:=h1.at hn0
 refine⟨d,i,hA,hm,by omega,hc2,fun j hj=>?_⟩
 obtain⟨l1,l2,q1,q2⟩:=flat2_get fs j hj
 obtain⟨a0,a1,a2,a3,a4,a5,v1,e0,e1,e2,e3,e4,e5⟩:=h2.at (2*j) l1
 obtain⟨b0,b1,b2,b3,b4,b5,v2,g0,g1,g2,g3,g4,g5⟩:=h2.at (2*j+1) l2
 rw [q1]at v1
 rw [q2]at v2
 have get:∀q a,cells[q]? =some a→j*12≤q→q<j*12+12→w.cell? ⟨d,i+j*12+(q-j*12),none⟩=some a:=fun q a ha h3 h4=>by
  rw [show i+j*12+(q-j*12)=i+q by omega]
  exact hat q a (by omega) ha
 have z:∀q,2*j*6+q-j*12=q:=by intro q;omega
 have z':∀q,(2*j+1)*6+q-j*12=6+q:=by intro q;omega
 refine⟨a0,a1,a2,a3,a4,a5,b0,b1,b2,b3,b4,b5,v1,v2,?_,?_,?_,?_,?_,?_,?_,?_,?_,?_,?_,?_⟩
 ·have:=get _ _ e0 (by omega) (by omega);rwa [show 2*j*6-j*12=0 by omega]at this
 ·have:=get _ _ e1 (by omega) (by omega);rwa [z]at this
 ·have:=get _ _ e2 (by omega) (by omega);rwa [z]at this
 ·have:=get _ _ e3 (by omega) (by omega);rwa [z]at this
 ·have:=get _ _ e4 (by omega) (by omega);rwa [z]at this
 ·have:=get _ _ e5 (by omega) (by omega);rwa [z]at this
 ·have:=get _ _ g0 (by omega) (by omega);rwa [show(2*j+1)*6-j*12=6 by omega]at this
 ·have:=get _ _ g1 (by omega) (by omega);rwa [z']at this
 ·have:=get _ _ g2 (by omega) (by omega);rwa [z']at this
 ·have:=get _ _ g3 (by omega) (by omega);rwa [z']at this
 ·have:=get _ _ g4 (by omega) (by omega);rwa [z']at this
 ·have:=get _ _ g5 (by omega) (by omega);rwa [z']at this
inductive Pcs(w:World):List (UInt8×List UInt8)→List Value→Prop where
 | nil:Pcs w [] []
 | cons {c:UInt8} {d:List UInt8} {s:Value} {ps:List (UInt8×List UInt8)} {cells:List Value} (hd:SlC w s d) (hs:Pcs w ps cells):Pcs w ((c,d)::ps) (.int .i64 (c.toNat:Int)::s::cells)
theorem Pcs.len{w:World}{ps:List (UInt8×List UInt8)}{cells:List Value}(h:Pcs w ps cells):cells.length=ps.length*2:=by
 induction h with
 | nil=>rfl
 | cons _ _ ih=>simp only [List.length_cons,ih];omega
theorem pieceCells:CellsOf 2 Pcs where
 nil _:=.nil
 len h:=h.len
 one h:=by
  induction h with
  | nil=>intro u hu;simp at hu
  | cons hd hs ih=>
    obtain⟨A,c,rfl,_⟩:=hd
    intro u hu
    rcases List.mem_cons.1 hu with rfl | hu
    ·rfl
    ·rcases List.mem_cons.1 hu with rfl | hu
     ·rfl
     ·exact ih u hu
 app h k:=by
  induction h with
  | nil=>exact k
  | cons hd hs ih=>exact .cons hd ih
theorem Pcs.at{w:World}{ps:List (UInt8×List UInt8)}{cells:List Value}(h:Pcs w ps cells):∀j (hj:j<ps.length),∃s,cells[j*2]? =some (.int .i64 (ps[j].1.toNat:Int))∧cells[j*2+1]? =some s∧SlC w s ps[j].2:=by
 induction h with
 | nil=>intro j hj;simp at hj
 | cons hd hs ih=>
   intro j hj
   cases j with
   | zero=>exact⟨_,rfl,rfl,hd⟩
   | succ j=>
     obtain⟨s,h1,h2,h3⟩:=ih j (by simpa using hj)
     refine⟨s,?_,?_,h3⟩
     ·rw [show(j+1)*2=j*2+2 by omega];simpa using h1
     ·rw [show(j+1)*2+1=j*2+1+2 by omega];simpa using h2
end Go.Proofs.YtfoegolfadhmjaaGreatDoor
namespace Go.Proofs.YtfoegolfadhmjaaGreatDoor
open Go.RowKit Go.WideShapes Go.Sort
theorem marsh_key{w:World}{v:V}{x:Value}(hg:GLeaf w v x)(hok:LeafOk v)(hk:KeyK v.kind)(w1:World)(VC:Vld w1)(g:Nat)(h:BufW w1 g 0):
 Calls Tryz.prog 244 #[.pointer (some ⟨g,0,none⟩),x] w1 fun e w'=>e=.returned .nilIface∧BufW w' g 200000∧Keep (fun b=>b<g) w1 w':=by
 unfold KeyK at hk
 cases hg with
 | null o=>simp [V.kind]at hk
 | bool n o hn=>exact marsh_bool w1 g h _
 | u8 n o hn=>exact marsh_u8 w1 g h n hn
 | u16 n o hn=>exact marsh_u16 w1 g h n ⟨by omega,by omega⟩
 | u32 n o hn=>exact marsh_u32 w1 g h n hn
 | u64 n o hn=>exact marsh_u64 w1 g h n hn
 | i8 n o hn=>exact marsh_i8 w1 g h _
 | i16 n o hn=>exact marsh_i16 w1 g h _
 | i32 n o hn=>exact marsh_i32 w1 g h _ ⟨by have:=hn.2.1;simpa using this,by have:=hn.2.2;simpa using this⟩
 | i64 n o hn=>exact marsh_i64 w1 g h _ ⟨by have:=hn.2.1;simpa using this,by have:=hn.2.2;simpa using this⟩
 | f32 n o hn=>simp [V.kind]at hk
 | f64 n o hn=>simp [V.kind]at hk
 | time n o hn=>exact marsh_time w1 g h _ (by have:=hn.2.1;simpa using this) (by have:=hn.2.2;simp at this;omega)
 | uuid t o ht=>exact marsh_uuid w1 g h t ht
 | bin t o s hs=>simp [V.kind]at hk
 | str t o ht=>cases hok with | str _ _ h1 h2=>exact marsh_str w1 g h VC t h2 h1
 | sym t o ht=>cases hok with | sym _ _ h1 h2=>exact marsh_str w1 g h VC t h2 h1
theorem GLeaf.iface{w:World}{v:V}{x:Value}(hg:GLeaf w v x):x=.nilIface∨∃u y,x=.iface u y:=by
 cases hg<;>first | exact .inl rfl | exact .inr ⟨_,_,rfl⟩
theorem marshaled_is{w0:World}{v:V}{x:Value}(hg:GLeaf w0 v x)(hok:LeafOk v)(hk:KeyK v.kind)(w:World)(VC:Vld w):
 Calls Tryz.prog 214 #[x] w fun e w'=>∃s l,e=.returned (.tuple #[s,.bool true])∧New w w'∧SlB w' s l:=by
 have kA:=(Keep.refl (fun _=>True) w).alloc (.cells #[.slice none 0 0,.int .i64 0] 122)
 have hB:BufW (w.alloc (.cells #[.slice none 0 0,.int .i64 0] 122)) w.heap.size 0:=⟨.slice none 0 0,[],blk_new w _,RowB.nil,Nat.le_refl _⟩
 have hm:=Lib.hid (marsh_key hg hok hk _ (VC.new kA) _ hB)
 clear hg hok hk hB
 go_enter Tryz.func214,Tryz.ntmps214
 go_wp2_with fail
 refine hm.out.mono ?_
 rintro e w1 ⟨rfl,h1,k1⟩
 go_wp2_with fail
 refine(bytes_is w1 _ 200000 h1 (by omega)).mono ?_
 rintro e w2 ⟨v2,l2,rfl,k2,hs2,hl2⟩
 go_wp2_with fail
 refine(copied_is w2 v2 l2 hs2 (by omega)).mono ?_
 rintro e w3 ⟨v3,rfl,k3,hd3,⟨A,c,rfl⟩,-⟩
 go_wp2
 go_ret2
 exact⟨_,l2,rfl,((kA.then k1 (fun i hi _=>by omega)).trans k2).trans k3,hd3.here⟩
theorem conv_slb{w:World}{v:Value}{l:List UInt8}(h:SlB w v l):(convert 27 9 v).run Tryz.prog w=.ok (.string ⟨l.toArray⟩) w:=by
 obtain⟨A,c,rfl,h1,h2,h3⟩:=h
 cases A with
 | none=>
   have:l=[]:=by
    rcases l with _ | ⟨x,l⟩
    ·rfl
    ·obtain⟨d,i,e,_⟩:=h3 (by simp)
     cases e
   subst this
   rfl
 | some a=>
   rcases l with _ | ⟨x,l⟩
   ·rfl
   ·obtain⟨d,i,e,hb⟩:=h3 (by simp)
    injection e with e
    subst e
    exact conv_cells w d i c _ fun j hj=>hb.cell j hj
theorem info417:(Tryz.prog.info? 417).map (fun i=>(i.zero,i.size,i.bytes))=some (some (.agg #[.string .empty,.int .i64 0,.int .u64 0,.string .empty,.slice none 0 0,.int .i64 0,.slice none 0 0,.int .i64 0,.int .u64 0,.string .empty,.slice none 0 0,.int .i64 0,.slice none 0 0]),13,192):=by kernel_rfl
def PRel(es:Array MapEntry)(qs:List (V×V))(e:MapEntry)(p:List UInt8×V×V):Prop:=∃(j:Nat) (hj:j<qs.length) (he:j<es.size),es[j]=e∧Sims [qs[j].1] [p.2.1]∧Sims [qs[j].2] [p.2.2]
theorem prel_perm{es:Array MapEntry}{qs:List (V×V)}(hlen:es.size=qs.length)(hb:(es.toList.map (·.born)).Nodup){picked:List MapEntry}{ps:List (List UInt8×V×V)}(hl:picked.length=ps.length)(hr:∀z∈picked.zip ps,PRel es qs z.1 z.2)(hp:es.toList.Perm picked):
 ∃qs',qs.Perm qs'∧qs'.length=ps.length∧∀j (h1:j<qs'.length) (h2:j<ps.length),Sims [qs'[j].1] [ps[j].2.1]∧Sims [qs'[j].2] [ps[j].2.2]:=by
 have hm:(es.toList.zip qs).map (fun z=>z.1)=es.toList:=List.map_fst_zip (by simp;omega)
 obtain⟨zs,hz1,hz2⟩:=lift_perm (fun z:MapEntry×(V×V)=>z.1) picked (es.toList.zip qs) (by rw [hm];exact hp.symm)
 have hq:qs.Perm (zs.map (·.2)):=by
  have:=hz1.map (·.2)
  rwa [show(es.toList.zip qs).map (·.2)=qs from List.map_snd_zip (by simp;omega)]at this
 have hzl:zs.length=picked.length:=by rw [←hz2,List.length_map]
 refine⟨zs.map (·.2),hq,by rw [List.length_map];omega,fun j h1 h2=>?_⟩
 have hjz:j<zs.length:=by simpa using h1
 have hjp:j<picked.length:=by omega
 have hmem:=hz1.mem_iff.2 (List.getElem_mem hjz)
 obtain⟨i,hi,hie⟩:=List.mem_iff_getElem.1 hmem
 have hi1:i<es.size:=by simp at hi;omega
 have hi2:i<qs.length:=by simp at hi;omega
 have e1:zs[j]=(es[i],qs[i]):=by rw [←hie];simp
 have e2:picked[j]=es[i]:=by
  have:picked[j]=(zs.map (fun z=>z.1))[j]'(by simpa using hjz):=by simp [hz2]
  rw [this]
  simp [e1]
 obtain⟨j',a1,a2,a3,a4,a5⟩:=hr (picked[j],ps[j]) (by
  rw [List.mem_iff_getElem]
  exact⟨j,by simp;omega,by simp⟩)
 have e3:es[j']=es[i]:=by rw [a3];exact e2
 have e4:j'=i:=by
  have h3:=hb
  rw [List.nodup_iff_pairwise_ne,List.pairwise_iff_getElem]at h3
  rcases Nat.lt_trichotomy j' i with h | h | h
  ·have h4:=h3 j' i (by simpa using a2) (by simpa using hi1) h
   exact absurd (by simp [e3]) h4
  ·exact h
  ·have h4:=h3 i j' (by simpa using hi1) (by simpa using a2) h
   exact absurd (by simp [e3]) h4
 subst e4
 simp only [List.getElem_map,e1]
 exact⟨a4,a5⟩
theorem Sims.pairs:∀{qs:List (V×V)} {ps:List (List UInt8×V×V)},qs.length=ps.length→(∀j (h1:j<qs.length) (h2:j<ps.length),Sims [qs[j].1] [ps[j].2.1]∧Sims [qs[j].2] [ps[j].2.2])→Sims (flat2 qs) (flat2 (ps.map (·.2)))
 | [],[],_,_=>.nil
 | [],_::_,h,_=>absurd h (by simp)
 | _::_,[],h,_=>absurd h (by simp)
 | q::qs,p::ps,h,hr=>by
   have h0:=hr 0 (by simp) (by simp)
   have h1:=Sims.pairs (qs:=qs) (ps:=ps) (by simpa using h) fun j a b=>hr (j+1) (by simpa using a) (by simpa using b)
   exact(h0.1.app h0.2).app h1
theorem PR.inv1{w:World}{t:List UInt8}{k v:V}{e:PairE}(h:PR w [(t,k,v)] (encP e)):e.1.1=t∧Mem w [k,v] e.1.2:=by
 obtain⟨x,hx⟩:∃x,x=encP e:=⟨_,rfl⟩
 rw [←hx]at h
 cases h with
 | cons hk hv hs=>
   cases hs
   simp only [List.append_nil,encP,List.cons.injEq,Value.string.injEq]at hx
   obtain⟨h1,h2⟩:=hx
   refine⟨?_,by rw [←h2];exact hk.append hv⟩
   injection h1 with h1
   simpa using h1.symm
theorem Mem.two{w:World}{k v:V}{cs:List Value}(h:Mem w [k,v] cs):∃yk yn yt A1 l1 c1 yo A2 l2 c2 zk zn zt A3 l3 c3 zo A4 l4 c4,cs=[.int .i64 yk,.int .u64 yn,.string yt,.slice A1 l1 c1,.int .i64 yo,.slice A2 l2 c2,.int .i64 zk,.int .u64 zn,.string zt,.slice A3 l3 c3,.int .i64 zo,.slice A4 l4 c4]:=by
 cases h with
 | cons hn hk hkm hd hdm hs=>
   cases hs with
   | cons hn' hk' hkm' hd' hdm' hs'=>
     cases hs'
     obtain⟨A1,c1,rfl,_⟩:=hk
     obtain⟨A2,c2,rfl,_⟩:=hd
     obtain⟨A3,c3,rfl,_⟩:=hk'
     obtain⟨A4,c4,rfl,_⟩:=hd'
     exact⟨_,_,_,A1,_,c1,_,A2,_,c2,_,_,_,A3,_,c3,_,A4,_,c4,rfl⟩
theorem rel_perm{qs:List (V×V)}{ps ps':List (List UInt8×V×V)}(hl:qs.length=ps.length)(hr:∀j (h1:j<qs.length) (h2:j<ps.length),Sims [qs[j].1] [ps[j].2.1]∧Sims [qs[j].2] [ps[j].2.2])(hp:ps.Perm ps'):
 ∃qs',qs.Perm qs'∧qs'.length=ps'.length∧∀j (h1:j<qs'.length) (h2:j<ps'.length),Sims [qs'[j].1] [ps'[j].2.1]∧Sims [qs'[j].2] [ps'[j].2.2]:=by
 have hm:(qs.zip ps).map (fun z=>z.2)=ps:=List.map_snd_zip (by omega)
 obtain⟨zs,hz1,hz2⟩:=lift_perm (fun z:(V×V)×(List UInt8×V×V)=>z.2) ps' (qs.zip ps) (by rw [hm];exact hp.symm)
 have hq:qs.Perm (zs.map (·.1)):=by
  have:=hz1.map (·.1)
  rwa [show(qs.zip ps).map (·.1)=qs from List.map_fst_zip (by omega)]at this
 have hzl:zs.length=ps'.length:=by rw [←hz2,List.length_map]
 refine⟨zs.map (·.1),hq,by rw [List.length_map];omega,fun j h1 h2=>?_⟩
 have hjz:j<zs.length:=by simpa using h1
 have hmem:=hz1.mem_iff.2 (List.getElem_mem hjz)
 obtain⟨i,hi,hie⟩:=List.mem_iff_getElem.1 hmem
 have e1:zs[j]=(qs[i]'(by simp at hi;omega),ps[i]'(by simp at hi;omega)):=by rw [←hie];simp
 have e2:ps'[j]=ps[i]'(by simp at hi;omega):=by
  have:ps'[j]=(zs.map (fun z=>z.2))[j]'(by simpa using hjz):=by simp [hz2]
  rw [this]
  simp [e1]
 rw [e2]
 simp only [List.getElem_map,e1]
 exact hr i _ _
theorem memCells:CellsOf 6 Mem where
 nil _:=.nil
 len h:=h.len
 one h:=h.one
 app h k:=h.append k
theorem pairs_is(w:World)(VC:Vld w)(m:Nat)(es:Array MapEntry)(clock:Nat)(qs:List (V×V))(hm:w.heap[m]? =some (.map es clock))(hb:Born es clock)(hlen:es.size=qs.length)(hmax:qs.length≤500)(hok:MapOk qs)
 (hv:∀j (hj:j<qs.length) (he:j<es.size),GLeaf w qs[j].1 es[j].key∧LeafOk qs[j].1∧ValOK w qs[j].2 es[j].val):PairsOK w m qs:=by
 intro w0 k0
 have hm0:=k0.blk hm trivial
 have hrg:=fun w' (h:w'.heap[m]? =some (.map es clock))=>range_map w' 277 20 20 m es clock Tryz.underlying277 h
 have hrg0:=hrg (w0.alloc (.cells #[.slice none 0 0] 414)) (blk_alloc hm0 _)
 have HM:=Lib.hid hm0
 have HB:=Lib.hid hb
 have HL:=Lib.hid hlen
 have HMX:=Lib.hid hmax
 have HV:=Lib.hid hv
 have HOK:=Lib.hid hok
 have K0:=Lib.hid k0
 have VC0:=Lib.hid (VC.new k0)
 have hlt:=lt_blk hm0
 clear hm hb hlen hmax hok hv hrg k0 hm0
 go_enter Tryz.func152,Tryz.ntmps152
 go_wp2_with fail
 go_loopg [] es.size (fun kk wr=>New w0 wr∧∃(seen:Array Nat) (c:Nat) (picked:List MapEntry) (ps:List (List UInt8×V×V)) (sk:Value),wr.heap[w0.heap.size]? =some (.cells #[sk] 414 (0,0))∧wr.heap[w0.heap.size+1]? =some (.mapIter (some m) clock seen c)∧clock≤c∧(leftOf es seen).size≤kk∧es.toList.Perm (picked++(leftOf es seen).toList)∧picked.length=ps.length∧(∀z∈picked.zip ps,PRel es qs z.1 z.2)∧RowG 417 13 PR wr (w0.heap.size+2) sk ps)
 case atStart=>
  refine⟨((Keep.refl _ w0).alloc _).alloc _,#[],clock,[],[],.slice none 0 0,blk_alloc (blk_new w0 _) _,by have:=blk_new (w0.alloc (.cells #[.slice none 0 0] 414)) (.mapIter (some m) clock #[] clock);simpa using this,Nat.le_refl _,?_,?_,rfl,by intro z hz;simp at hz,RowG.nil pairCells⟩
  ·unfold leftOf
   exact Array.size_filter_le ..
  ·have:leftOf es #[]=es:=by
    unfold leftOf
    exact Array.filter_eq_self.2 (by simp)
   rw [this]
   exact List.Perm.refl _
 case round=>
  obtain⟨kr,seen,c,picked,ps,sk,hL,hit,hcl,hleft,hpk,hpl,hpr,hrow⟩:=hrel
  have hbr:=kr.blk HM.out trivial
  have LF:=Lib.hid hleft
  have PK:=Lib.hid hpk
  have PR':=Lib.hid hpr
  have hesl:ps.length≤500:=by
   have h2:=hpk.length_eq
   simp at h2
   have:=HL.out
   have:=HMX.out
   omega
  have hlenL:=Lib.hid hpl
  clear hleft hpk hpr hpl
  have cL:=(blk_cell hL 0).trans rfl
  have hits:=lt_blk hit
  rcases next_map wr (w0.heap.size+1) m clock c seen es clock hit hbr HB.out.2 hcl with⟨h0,hnx⟩ | ⟨e,he,w1,hnx,hit1,k1⟩
  ·have hperm:es.toList.Perm picked:=by
    have h1:=PK.out
    rwa [List.eq_nil_of_length_eq_zero (l:=(leftOf es seen).toList) (by simpa using h0),List.append_nil]at h1
   obtain⟨qs',hq1,hq2,hq3⟩:=prel_perm HL.out HB.out.1 hlenL.out PR'.out hperm
   have hsort:=Lib.hid (pairs_sorted wr (w0.heap.size+2) w0.heap.size sk ps hrow hL (by omega) (by omega))
   obtain⟨A0,c0,hsk⟩:=hrow.shape
   subst hsk
   have hfar:=Lib.hid hrow.far
   have LL:=Lib.hid hL
   have Q1:=Lib.hid hq1
   have Q2:=Lib.hid hq2
   have Q3:=Lib.hid hq3
   clear hperm hq1 hq2 hq3 h0 hrg0 hit hrow hL
   go_wp2_with fail
   refine hsort.out.mono ?_
   rintro e w2 ⟨rfl,k2,ps',hp',hrow2⟩
   have hL2:=k2.blk LL.out (hfar.out _ (by omega))
   have cL2:=(blk_cell hL2 0).trans rfl
   obtain⟨qs3,hq4,hq5,hq6⟩:=rel_perm Q2.out Q3.out hp'
   have hfin:=Sims.pairs hq5 hq6
   have hqp:=Q1.out.trans hq4
   have hpl':=hp'.length_eq
   obtain⟨cells,hown,hdep⟩:=hrow2
   obtain⟨es',he1,rfl⟩:=hdep.here.chunks
   have hsl:=slG_own hown
   have hold:∀g,Value.ownBlock (.slice A0 ps.length c0)=some g→g<w2.heap.size:=fun g hg=>RowG.ownLt ⟨_,hown,hdep⟩ hg
   obtain⟨n,hn⟩:∃n,n=ps.length:=⟨_,rfl⟩
   rw [←hn]at hsl hesl cL2 hpl' ⊢
   have HSL:=Lib.hid hsl
   have HDEP:=Lib.hid hdep
   have HQP:=Lib.hid hqp
   have HFIN:=Lib.hid hfin
   have HE1:=Lib.hid he1
   have N:=Lib.hid hpl'
   have K2:=Lib.hid (kr.then k2 (fun i hi _=>hfar.out i (by omega)))
   have HSZ:=Lib.hid k2.size
   have HOLD:=Lib.hid hold
   clear hq4 hq5 hq6 hqp hfin hown hdep he1 hpl' hsl hp' hold hn hL2 k2
   go_wp2_with fail
   go_loopg [13,62] n (fun kk s13 s62 wq=>∃j:Nat,j+kk=n∧s62=.int .i64 (j:Int)∧New w2 wq∧RowG 78 6 Mem wq w0.heap.size s13 (flat2 ((ps'.take j).map (·.2)))∧∀g,s13.ownBlock=some g→w2.heap.size≤g)
   case atStart=>exact⟨0,by omega,rfl,Keep.refl _ _,RowG.nil memCells,fun g hg=>by cases hg⟩
   case round=>
    obtain⟨j,hj,rfl,kq,hrowr,hownq⟩:=hrel
    obtain⟨A9,c9,hsk9⟩:=hrowr.shape
    have hfl:(flat2 ((ps'.take j).map (·.2))).length=2*j:=by
     rw [flat2_len,List.length_map,List.length_take]
     have:=N.out
     omega
    rw [hfl]at hsk9
    subst hsk9
    have HFL:=Lib.hid hfl
    clear hfl
    rcases gk with _ | kk
    ·obtain rfl:n=j:=by omega
     have HO:=Lib.hid hrowr
     clear hrowr
     go_wp2
     go_ret2
     refine⟨_,flat2 (ps'.map (·.2)),rfl,K2.out.trans kq,⟨qs3,HQP.out,HFIN.out⟩,?_⟩
     have:=RowV.out (w:=wr) (base:=w0.heap.size) (us:=flat2 ((ps'.take n).map (fun x:List UInt8×V×V=>x.2))) HO.out
     rwa [List.take_of_length_le (by have:=N.out;omega)]at this
    ·have hjn:j<n:=by omega
     have tj:decide (j<n)=true:=by simpa using hjn
     have hjp:j<ps'.length:=by rw [←N.out];exact hjn
     have hje:j<es'.length:=by rw [HE1.out];exact hjp
     have hsl2:=HSL.out.keep kq
     rw [show ps'.length=n from N.out.symm]at hsl2
     obtain⟨d2,i2,rfl,-,-,-,hat⟩:=hsl2.at (by omega)
     obtain⟨e,hee⟩:∃e,e=es'[j]:=⟨_,rfl⟩
     have hzip:(ps'[j],e)∈ps'.zip es':=by
      rw [List.mem_iff_getElem]
      exact⟨j,by simp;omega,by simp [hee]⟩
     have hdj:Dep (fun b=>w0.heap.size+2≤b∧some b≠(Value.slice (some ⟨d2,i2,none⟩) n c0).ownBlock) w2 (fun w=>e.1.1=ps'[j].1∧Mem w [ps'[j].2.1,ps'[j].2.2] e.1.2):=fun w' hw'=>(PR.each (HDEP.out w' hw') HE1.out _ hzip).inv1
     obtain⟨yk,yn,yt,A1,l1,c1,yo,A2,l2,c2,zk,zn,zt,A3,l3,c3,zo,A4,l4,c4,hcs⟩:=hdj.here.2.two
     have hcell:∀q u,(encP e)[q]? =some u→q<13→wr.cell? ⟨d2,i2+j*13+q,none⟩=some u:=fun q u hu hq=>by
      rw [Nat.add_assoc]
      refine hat (j*13+q) u (by omega) ?_
      rw [flat_at es' _ (by omega),show(j*13+q)/13=j by omega,show(j*13+q) % 13=q by omega]
      rw [show es'[j]! =e by rw [hee];simp [hje]]
      obtain⟨h,rfl⟩:=List.getElem?_eq_some_iff.1 hu
      simp [h]
     unfold encP at hcell
     rw [hcs]at hcell hdj
     rw [hdj.here.1]at hcell
     have g0:=hcell 0 _ rfl (by omega)
     have g1:=hcell 1 _ rfl (by omega)
     have g2:=hcell 2 _ rfl (by omega)
     have g3:=hcell 3 _ rfl (by omega)
     have g4:=hcell 4 _ rfl (by omega)
     have g5:=hcell 5 _ rfl (by omega)
     have g6:=hcell 6 _ rfl (by omega)
     have g7:=hcell 7 _ rfl (by omega)
     have g8:=hcell 8 _ rfl (by omega)
     have g9:=hcell 9 _ rfl (by omega)
     have g10:=hcell 10 _ rfl (by omega)
     have g11:=hcell 11 _ rfl (by omega)
     have g12:=hcell 12 _ rfl (by omega)
     rw [Nat.add_zero]at g0
     obtain⟨tx,htx⟩:∃tx,tx=ps'[j].1:=⟨_,rfl⟩
     rw [←htx]at g0
     have kA:=((Keep.refl (fun _=>True) wr).alloc (.cells #[.string ⟨tx.toArray⟩,.int .i64 yk,.int .u64 yn,.string yt,.slice A1 l1 c1,.int .i64 yo,.slice A2 l2 c2,.int .i64 zk,.int .u64 zn,.string zt,.slice A3 l3 c3,.int .i64 zo,.slice A4 l4 c4] 417)).alloc (.cells #[.int .i64 yk,.int .u64 yn,.string yt,.slice A1 l1 c1,.int .i64 yo,.slice A2 l2 c2,.int .i64 zk,.int .u64 zn,.string zt,.slice A3 l3 c3,.int .i64 zo,.slice A4 l4 c4] 78)
     have hsz:=kq.size
     have hsz2:=HSZ.out
     have hst:=(hrowr.keep kA (fun _ _=>trivial)).step memCells (vs:=[ps'[j].2.1,ps'[j].2.2]) Tryz.underlying43 info78 rfl (by omega) (by omega) (wr.heap.size+1) 0 2 [.int .i64 yk,.int .u64 yn,.string yt,.slice A1 l1 c1,.int .i64 yo,.slice A2 l2 c2,.int .i64 zk,.int .u64 zn,.string zt,.slice A3 l3 c3,.int .i64 zo,.slice A4 l4 c4]
      (fun q z hq=>by
       have hb:=blk_new (wr.alloc (.cells #[.string ⟨tx.toArray⟩,.int .i64 yk,.int .u64 yn,.string yt,.slice A1 l1 c1,.int .i64 yo,.slice A2 l2 c2,.int .i64 zk,.int .u64 zn,.string zt,.slice A3 l3 c3,.int .i64 zo,.slice A4 l4 c4] 417)) (.cells #[.int .i64 yk,.int .u64 yn,.string yt,.slice A1 l1 c1,.int .i64 yo,.slice A2 l2 c2,.int .i64 zk,.int .u64 zn,.string zt,.slice A3 l3 c3,.int .i64 zo,.slice A4 l4 c4] 78)
       simp only [World.size_alloc]at hb
       rw [blk_cell hb,Nat.zero_add]
       simpa using hq)
      ((hdj.imp fun _ h=>h.2).step (Nat.le_trans hsz kA.size) (fun i hi _=>(kA.block i (by omega) trivial).trans (kq.block i hi trivial)) (fun b hb hok=>⟨by omega,fun e=>by have:=hownq b e.symm;omega⟩)) (by simp) (by rw [HFL.out];simp;omega) (by simp;omega)
     obtain⟨g9,cap9,w9,hap,hrow9,k9,hg9⟩:=hst
     rw [HFL.out]at hap hrow9
     have HAP:=Lib.hid hap
     have HG9:=Lib.hid hg9
     have HTX:=Lib.hid htx
     have hfar9:=hrowr.far
     have HF9:=Lib.hid hfar9
     clear hap hcell hat hdj hcs hzip hee htx hrowr hg9 hfar9 hsl2
     go_wp2_with (at_builtin;refine wpList_append_eq rfl _ _ 43 rfl _ _ _ _ rfl rfl HAP.out ?_)
     go_roundg kk
     case measure=>omega
     case rel=>
      refine⟨j+1,by omega,congrArg _ (by omega),((kq.trans kA).then k9 (fun i hi _=>fun e=>by have:=hownq i e.symm;omega)),?_,fun g hg=>?_⟩
      ·rw [←List.take_append_getElem hjp,List.map_append,flat2_append]
       exact hrow9
      ·have e1:g9=g:=by simpa [Value.ownBlock]using hg
       rcases HG9.out with h | h
       ·rw [←e1];exact hownq g9 h
       ·simp at h;omega
  ·have hem:=mem_left he
   have hsh:=left_shrinks es seen e he
   have hen:=entry_map w1 (w0.heap.size+1) m clock seen es clock e hit1 (k1.blk hbr (show m≠w0.heap.size+1 by omega)) hem.1 HB.out.1
   obtain⟨j,hjl,hje⟩:=List.mem_iff_getElem.1 hem.1
   have hjs:j<es.size:=by simpa using hjl
   have hjq:j<qs.length:=by rw [←HL.out];exact hjs
   have hje':es[j]=e:=by simpa using hje
   obtain⟨hgl,hlo,hvo⟩:=HV.out j hjq hjs
   rw [hje']at hgl hvo
   have hkk:=HOK.out.kinds qs[j] (List.getElem_mem hjq)
   have HE:=Lib.hid he
   have hk01:=kr.then k1 (fun i hi _=>by show i≠w0.heap.size+1;omega)
   have K01:=Lib.hid hk01
   have kall1:=K0.out.trans hk01
   have hcall1:=Lib.hid (valOK_leaf hgl hlo w1 kall1)
   have hs1:=k1.size
   have hs0:=kr.size
   have hL1:=k1.blk hL (show w0.heap.size≠w0.heap.size+1 by omega)
   have hrow1:=hrow.keep k1 (fun b hb=>by show b≠w0.heap.size+1;omega)
   have HREL:=Lib.hid hje'
   obtain⟨ke,hke⟩:∃ke,ke=e.key:=⟨_,rfl⟩
   obtain⟨ve,hve⟩:∃ve,ve=e.val:=⟨_,rfl⟩
   rw [←hke]at hnx hen hgl hcall1
   rw [←hve]at hnx hen hvo
   have HGL:=Lib.hid hgl
   have HLO:=Lib.hid hlo
   have HVO:=Lib.hid hvo
   have HKK:=Lib.hid hkk
   have KALL1:=Lib.hid kall1
   obtain⟨A0,c0,hsk⟩:=hrow.shape
   subst hsk
   have HF:=Lib.hid hrow.far
   have hown0:∀g,Value.ownBlock (.slice A0 ps.length c0)=some g→g<wr.heap.size:=fun g hg=>hrow.ownLt hg
   have HOWN:=Lib.hid hown0
   clear hje hje' hgl hlo hvo hkk he hk01 kall1 hke hve hrow hrg0 hown0 hem
   go_wp2_with fail
   refine hcall1.out.mono ?_
   rintro e' w2 ⟨y,uk,rfl,k2,hs2,hv2⟩
   obtain⟨yk,yn,yt,A1,l1,c1,yo,A2,l2,c2,rfl⟩:=hv2.here.parts
   have k2a:=k2.trans ((Keep.refl (fun _=>True) w2).alloc (.cells #[.int .i64 yk,.int .u64 yn,.string yt,.slice A1 l1 c1,.int .i64 yo,.slice A2 l2 c2] 78))
   have hcall2:=Lib.hid (HVO.out _ (KALL1.out.trans k2a))
   have HS2:=Lib.hid hs2
   have HV2:=Lib.hid hv2
   have K2A:=Lib.hid k2a
   have hsz2:=k2.size
   have hb7:=blk_new w2 (.cells #[.int .i64 yk,.int .u64 yn,.string yt,.slice A1 l1 c1,.int .i64 yo,.slice A2 l2 c2] 78)
   clear hs2 hv2 hcall1 k2a
   go_wp2_with fail
   refine hcall2.out.mono ?_
   rintro e' w3 ⟨z,uv,rfl,k3,hs3,hv3⟩
   obtain⟨zk,zn,zt,A3,l3,c3,zo,A4,l4,c4,rfl⟩:=hv3.here.parts
   have k3a:=k3.trans ((Keep.refl (fun _=>True) w3).alloc (.cells #[.int .i64 zk,.int .u64 zn,.string zt,.slice A3 l3 c3,.int .i64 zo,.slice A4 l4 c4] 78))
   have HS3:=Lib.hid hs3
   have HV3:=Lib.hid hv3
   have K3A:=Lib.hid k3a
   have hsz3:=k3.size
   simp only [World.size_alloc]at hsz3
   have hb9:=blk_new w3 (.cells #[.int .i64 zk,.int .u64 zn,.string zt,.slice A3 l3 c3,.int .i64 zo,.slice A4 l4 c4] 78)
   have hcall3:=Lib.hid (marshaled_is HGL.out HLO.out HKK.out _ (VC0.out.new ((K01.out.trans K2A.out).trans k3a)))
   clear hs3 hv3 hcall2 k3a
   go_wp2_with fail
   refine hcall3.out.mono ?_
   rintro e' w4 ⟨s4,tx,rfl,k4,hs4⟩
   have hsz4:=k4.size
   simp only [World.size_alloc]at hsz4
   have hb74:=k4.blk (K3A.out.blk hb7 trivial) trivial
   have hb94:=k4.blk hb9 trivial
   have kk4:=(K2A.out.trans K3A.out).trans k4
   have hL4:=kk4.blk hL1 trivial
   have cL4:=(blk_cell hL4 0).trans rfl
   have hconv:=conv_slb hs4
   have p0:=(blk_cell hb74 0).trans rfl
   have r0:=(blk_cell hb94 0).trans rfl
   have p1:=(blk_cell hb74 1).trans rfl
   have r1:=(blk_cell hb94 1).trans rfl
   have p2:=(blk_cell hb74 2).trans rfl
   have r2:=(blk_cell hb94 2).trans rfl
   have p3:=(blk_cell hb74 3).trans rfl
   have r3:=(blk_cell hb94 3).trans rfl
   have p4:=(blk_cell hb74 4).trans rfl
   have r4:=(blk_cell hb94 4).trans rfl
   have p5:=(blk_cell hb74 5).trans rfl
   have r5:=(blk_cell hb94 5).trans rfl
   have kN:=(Keep.refl (fun _=>True) w4).alloc (.cells #[.string ⟨tx.toArray⟩,.int .i64 yk,.int .u64 yn,.string yt,.slice A1 l1 c1,.int .i64 yo,.slice A2 l2 c2,.int .i64 zk,.int .u64 zn,.string zt,.slice A3 l3 c3,.int .i64 zo,.slice A4 l4 c4] 417)
   have hstep:=((hrow1.keep kk4 (fun _ _=>trivial)).keep kN (fun _ _=>trivial)).step pairCells (vs:=[(tx,uk,uv)]) Tryz.underlying414 info417 rfl (by omega) (by omega) w4.heap.size 0 1 [.string ⟨tx.toArray⟩,.int .i64 yk,.int .u64 yn,.string yt,.slice A1 l1 c1,.int .i64 yo,.slice A2 l2 c2,.int .i64 zk,.int .u64 zn,.string zt,.slice A3 l3 c3,.int .i64 zo,.slice A4 l4 c4]
    (fun q z hq=>by
     rw [blk_cell (blk_new w4 (.cells #[.string ⟨tx.toArray⟩,.int .i64 yk,.int .u64 yn,.string yt,.slice A1 l1 c1,.int .i64 yo,.slice A2 l2 c2,.int .i64 zk,.int .u64 zn,.string zt,.slice A3 l3 c3,.int .i64 zo,.slice A4 l4 c4] 417)),Nat.zero_add]
     simpa using hq)
    (by
     have d2:=HV2.out.step (w1:=w4.alloc (.cells #[.string ⟨tx.toArray⟩,.int .i64 yk,.int .u64 yn,.string yt,.slice A1 l1 c1,.int .i64 yo,.slice A2 l2 c2,.int .i64 zk,.int .u64 zn,.string zt,.slice A3 l3 c3,.int .i64 zo,.slice A4 l4 c4] 417)) (ok':=fun b=>w0.heap.size+2≤b∧some b≠(Value.slice A0 ps.length c0).ownBlock) (by simp;omega) (fun i hi _=>(kN.block i (by omega) trivial).trans ((k4.block i (by simp;omega) trivial).trans ((K3A.out.block i (by simp;omega) trivial).trans (((Keep.refl (fun _=>True) w2).alloc (.cells #[.int .i64 yk,.int .u64 yn,.string yt,.slice A1 l1 c1,.int .i64 yo,.slice A2 l2 c2] 78)).block i hi trivial)))) (fun b hb hok=>⟨by omega,fun e=>by have:=HOWN.out b e.symm;omega⟩)
     have d3:=HV3.out.step (w1:=w4.alloc (.cells #[.string ⟨tx.toArray⟩,.int .i64 yk,.int .u64 yn,.string yt,.slice A1 l1 c1,.int .i64 yo,.slice A2 l2 c2,.int .i64 zk,.int .u64 zn,.string zt,.slice A3 l3 c3,.int .i64 zo,.slice A4 l4 c4] 417)) (ok':=fun b=>w0.heap.size+2≤b∧some b≠(Value.slice A0 ps.length c0).ownBlock) (by simp;omega) (fun i hi _=>(kN.block i (by omega) trivial).trans ((k4.block i (by simp;omega) trivial).trans (((Keep.refl (fun _=>True) w3).alloc (.cells #[.int .i64 zk,.int .u64 zn,.string zt,.slice A3 l3 c3,.int .i64 zo,.slice A4 l4 c4] 78)).block i hi trivial))) (fun b hb hok=>⟨by simp at hok;omega,fun e=>by have:=HOWN.out b e.symm;simp at hok;omega⟩)
     exact(d2.and d3).imp fun w' h=>PR.cons (t:=tx) h.1.mem h.2.mem .nil) (by simp) (by simp;omega) (by simp;omega)
   obtain⟨g5,cap5,w5,hap,hrow5,k5,_⟩:=hstep
   simp only [List.length_singleton]at hap hrow5
   have hL5:=k5.blk (kN.blk hL4 trivial) (HF.out _ (by omega))
   have cL5:=(blk_cell hL5 0).trans rfl
   have fL5:=blk_free hL5 0
   have hit5:=k5.blk (kN.blk (kk4.blk hit1 trivial) trivial) (HF.out _ (by omega))
   have hap':(Builtin.append_ #[414,414] 414 #[.slice A0 ps.length c0,.slice (some ⟨w4.heap.size,0,none⟩) 1 1]).run Tryz.prog (w4.alloc (.cells #[.string ⟨tx.toArray⟩,.int .i64 yk,.int .u64 yn,.string yt,.slice A1 l1 c1,.int .i64 yo,.slice A2 l2 c2,.int .i64 zk,.int .u64 zn,.string zt,.slice A3 l3 c3,.int .i64 zo,.slice A4 l4 c4] 417))=.ok (.slice (some ⟨g5,0,none⟩) (ps.length+1) cap5) w5:=hap
   have HAP:=Lib.hid hap'
   obtain⟨A8,l8,c8,hs8⟩:∃A8 l8 c8,s4=.slice A8 l8 c8:=by
    obtain⟨A,c,e,_⟩:=hs4
    exact⟨A,_,c,e⟩
   subst hs8
   have HR5:=Lib.hid hrow5
   have K5:=Lib.hid k5
   have KK4:=Lib.hid kk4
   have KN:=Lib.hid kN
   clear hap hap' hcall3 hs4 hb7 hb9 hrow5 k5 kk4 kN
   go_wp2_with (at_builtin;refine wpList_append_eq rfl _ _ 414 rfl _ _ _ _ rfl rfl HAP.out ?_)
   go_roundg (leftOf es (seen.push e.born)).size
   case measure=>have:=LF.out;omega
   case rel=>
    have kset:New w5 w5:=Keep.refl _ _
    refine⟨?_,seen.push e.born,clock,picked++[e],ps++[(tx,uk,uv)],.slice (some ⟨g5,0,none⟩) (ps.length+1) cap5,?_,?_,Nat.le_refl _,Nat.le_refl _,?_,?_,?_,?_⟩
    ·refine Keep.setCell ?_ (.inl (by simp)) _
     exact((K01.out.trans KK4.out).trans KN.out).then K5.out (fun i hi _=>HF.out i (by omega))
    ·simpa using blk_set hL5 0 (.slice (some ⟨g5,0,none⟩) (ps.length+1) cap5)
    ·exact blk_far hit5 (p:=⟨w0.heap.size,0,none⟩) (show w0.heap.size+1≠w0.heap.size by omega) _
    ·rw [List.append_assoc]
     exact PK.out.trans ((left_perm es seen e HB.out.1 HE.out).append_left picked)
    ·simp [hlenL.out]
    ·intro z hz
     rw [List.zip_append hlenL.out]at hz
     rcases List.mem_append.1 hz with hz | hz
     ·exact PR'.out z hz
     ·simp at hz
      subst hz
      exact⟨j,hjq,hjs,HREL.out,HS2.out,HS3.out⟩
    ·exact HR5.out.keep ((Keep.refl (fun b=>b≠w0.heap.size) w5).setCell (p:=⟨w0.heap.size,0,none⟩) (.inr (by simp)) _) (fun b hb=>by show b≠w0.heap.size;omega)
end Go.Proofs.YtfoegolfadhmjaaGreatDoor
namespace Go.Proofs.YtfoegolfadhmjaaGreatDoor
open Go.RowKit Go.WideShapes
def FormsAt(w:World)(f:Nat)(short:Bool):Prop:=∃st:Nat,w.heap[f]? =some (.cells #[.int .u64 (st:Int),.bool short] 38 (0,0))
theorem pick_bound(X:Int)(h0:0≤X)(h1:X<18446744073709551616)(n:Nat)(hn:1≤n):∃j:Nat,(wrap64 (X/8589934592)).tmod (n:Int)=(j:Int)∧j<n:=by
 have e:wrap64 (X/8589934592)=X/8589934592:=by unfold wrap64;omega
 rw [e,Int.tmod_eq_emod_of_nonneg (by omega)]
 have a:=Int.emod_nonneg (X/8589934592) (show(n:Int)≠0 by omega)
 have b:=Int.emod_lt_of_pos (X/8589934592) (show(0:Int)<n by omega)
 exact⟨((X/8589934592) % (n:Int)).toNat,by omega,by omega⟩
theorem pick_is(f n:Nat)(hn:1≤n)(hn2:n≤1000000)(short:Bool)(w:World)(h:FormsAt w f short):
 Calls Tryz.prog 33 #[.pointer (some ⟨f,0,none⟩),.int .i64 (n:Int)] w fun e w'=>∃j:Nat,e=.returned (.int .i64 (j:Int))∧j<n∧Keep (fun b=>b≠f) w w'∧FormsAt w' f short:=by
 obtain⟨st,hf⟩:=h
 have c0:=(blk_cell hf 0).trans rfl
 have c1:=(blk_cell hf 1).trans rfl
 have f0:=blk_free hf 0
 by_cases hc:short=true∨n≤1
 ·have HF:=Lib.hid hf
  clear hf
  go_enter Tryz.func33,Tryz.ntmps33
  rcases hc with rfl | hc
  ·go_wp2
   go_ret
   exact⟨0,rfl,by omega,Keep.refl _ _,st,HF.out⟩
  ·have tn:decide ((n:Int)≤1)=true:=by simp;omega
   cases short
   all_goals
    go_wp2
    go_ret
    exact⟨0,rfl,by omega,Keep.refl _ _,st,HF.out⟩
 ·have hs:short=false:=by cases short<;>simp at hc ⊢
  subst hs
  have tn:decide ((n:Int)≤1)=false:=by simp at hc ⊢;omega
  have HF:=Lib.hid hf
  clear hf
  go_enter Tryz.func33,Tryz.ntmps33
  go_wp2
  go_ret
  obtain⟨X,hX⟩:∃X,X=IntKind.u64.wrap (IntKind.u64.wrap ((st:Int)*6364136223846793005)+1442695040888963407):=⟨_,rfl⟩
  have hX0:0≤X∧X<18446744073709551616:=by rw [hX,IntKind.wrap_u64];omega
  rw [←hX]
  obtain⟨j,hj,hjn⟩:=pick_bound X hX0.1 hX0.2 n hn
  refine⟨j,by simp [hj],hjn,(Keep.refl _ w).setCell (p:=⟨f,0,none⟩) (.inr (by simp)) _,X.toNat,?_⟩
  have:=blk_set HF.out 0 (.int .u64 X)
  rw [this]
  have e:((X.toNat:Nat):Int)=X:=by omega
  simp [e]
end Go.Proofs.YtfoegolfadhmjaaGreatDoor
namespace Go.Proofs.YtfoegolfadhmjaaGreatDoor
open Go.RowKit Go.WideShapes Go.Sort
theorem sameVs_step{a b:List V}(j:Nat)(ha:j<a.length)(hb:j<b.length):sameVs (a.drop j) (b.drop j)=(sameV a[j] b[j]&&sameVs (a.drop (j+1)) (b.drop (j+1))):=by
 rw [List.drop_eq_getElem_cons ha,List.drop_eq_getElem_cons hb]
 simp [sameVs]
theorem cnts_get:∀(l:List V) (j:Nat) (hj:j<l.length),cnt l[j]≤cnts l
 | a::l,0,_=>by simp [cnts]
 | a::l,j+1,hj=>by
   have:=cnts_get l j (by simpa using hj)
   simp only [cnts,List.getElem_cons_succ]
   omega
theorem LM.at2{w:World}{l:List V}{A:Option Addr}{n c:Nat}(h:LM w l (.slice A n c))(hne:l≠[]):∃d i,A=some ⟨d,i,none⟩∧n=l.length∧n≤c∧c≤maxLen∧∀j (hj:j<l.length),∃a0 a1 a2 a3 a4 a5,VM w l[j] (.agg #[a0,a1,a2,a3,a4,a5])∧w.cell? ⟨d,i+j*6,none⟩=some a0∧w.cell? ⟨d,i+j*6+1,none⟩=some a1∧w.cell? ⟨d,i+j*6+2,none⟩=some a2∧w.cell? ⟨d,i+j*6+3,none⟩=some a3∧w.cell? ⟨d,i+j*6+4,none⟩=some a4∧w.cell? ⟨d,i+j*6+5,none⟩=some a5:=by
 obtain⟨d,i,c',he,h1,h2,h3⟩:=h.at hne
 injection he with e1 e2 e3
 subst e1;subst e2;subst e3
 exact⟨d,i,rfl,rfl,h1,h2,h3⟩
theorem regrown_new{f:FuncId}{args:Array Value}{w:World}{d:Nat}{os:Array Obj}{v:Value}(h:Calls Tryz.prog f args (grow (redrawn w d) os) fun e w'=>e=.returned v∧New (grow (redrawn w d) os) w'):
 Calls Tryz.prog f args (grow (redrawn w d) os) fun e w''=>e=.returned v∧∃p:Regrown,w''=grow (redrawn w p.d) p.os:=Calls.regrown_of (h.mono fun _ _ ⟨a,b⟩=>⟨a,b.below⟩)
theorem new_regrown(w:World)(d:Nat)(os:Array Obj):New w (grow (redrawn w d) os):=Keep.of_below (below_regrown w d os)
theorem same_val(N:Nat):∀(a b:V),cnt a≤N→∀(w:World) (x y:Value),VM w a x→VM w b y→Calls Tryz.prog 32 #[x,y] w fun e w'=>e=.returned (.bool (sameV a b))∧New w w':=by
 induction N with
 | zero=>
   intro a b h
   cases a
   simp only [cnt]at h
   omega
 | succ N ih=>
   intro a b hN w x y hx hy
   obtain⟨k,n,t,ks,o,ds⟩:=a
   obtain⟨k',n',t',ks',o',ds'⟩:=b
   obtain⟨sk,sd,rfl,hn,hks,hds⟩:=hx.inv
   obtain⟨sk',sd',rfl,hn',hks',hds'⟩:=hy.inv
   obtain⟨A1,c1,rfl,_,_⟩:=hks.shape
   obtain⟨A2,c2,rfl,_,_⟩:=hds.shape
   obtain⟨A3,c3,rfl,_,_⟩:=hks'.shape
   obtain⟨A4,c4,rfl,_,_⟩:=hds'.shape
   have hmb:ks.length≤maxLen:=by omega
   unfold maxLen at hmb
   have HK:=Lib.hid hks
   have HD:=Lib.hid hds
   have HK':=Lib.hid hks'
   have HD':=Lib.hid hds'
   have IH:=Lib.hid ih
   have hNk:cnts ks≤N∧cnts ds≤N:=by simp only [cnt]at hN;omega
   clear hx hy hks hds hks' hds' ih hN
   by_cases h1:k=k'
   case neg=>
    go_enter Tryz.func32,Tryz.ntmps32
    go_wp2
    go_ret
    exact⟨by simp [sameV,h1],((Keep.refl _ _).alloc _).alloc _⟩
   subst h1
   by_cases h2:n=n'
   case neg=>
    go_enter Tryz.func32,Tryz.ntmps32
    go_wp2
    go_ret
    exact⟨by simp [sameV,h2],((Keep.refl _ _).alloc _).alloc _⟩
   subst h2
   by_cases h3:t=t'
   case neg=>
    go_enter Tryz.func32,Tryz.ntmps32
    go_wp2
    go_ret
    exact⟨by simp [sameV,h3],((Keep.refl _ _).alloc _).alloc _⟩
   subst h3
   by_cases h4:ks.length=ks'.length
   case neg=>
    go_enter Tryz.func32,Tryz.ntmps32
    go_wp2
    go_ret
    exact⟨by simp [sameV,h4],((Keep.refl _ _).alloc _).alloc _⟩
   by_cases h5:ds.length=ds'.length
   case neg=>
    go_enter Tryz.func32,Tryz.ntmps32
    go_wp2
    go_ret
    exact⟨by simp [sameV,h5],((Keep.refl _ _).alloc _).alloc _⟩
   have hfin:sameV (.mk k n t ks o ds) (.mk k n t ks' o' ds')=(sameVs ks ks'&&sameD ds ds'):=by simp [sameV,h4,h5]
   have HF:=Lib.hid hfin
   clear hfin
   rw [←h4]at HK' ⊢
   rw [←h5]at HD' ⊢
   obtain⟨m,hm⟩:∃m,m=ks.length:=⟨_,rfl⟩
   obtain⟨md,hmd⟩:∃md,md=ds.length:=⟨_,rfl⟩
   rw [←hm]at HK HK' hmb ⊢
   rw [←hmd]at HD HD' ⊢
   have M1:=Lib.hid hm
   have M2:=Lib.hid hmd
   have M3:=Lib.hid (hm.trans h4)
   have M4:=Lib.hid (hmd.trans h5)
   clear hm hmd h4 h5
   go_enter Tryz.func32,Tryz.ntmps32
   go_wp2_with fail
   go_loopg [46] m (fun kk s46 wr=>∃j:Nat,j+kk=m∧s46=.int .i64 (j:Int)∧New w wr∧wr.heap[w.heap.size]? =some (.cells #[.int .i64 k,.int .u64 (n:Int),.string ⟨t.toArray⟩,.slice A1 m c1,.int .i64 o,.slice A2 md c2] 78 (0,0))∧wr.heap[w.heap.size+1]? =some (.cells #[.int .i64 k,.int .u64 (n:Int),.string ⟨t.toArray⟩,.slice A3 m c3,.int .i64 o',.slice A4 md c4] 78 (0,0))∧sameVs ks ks'=sameVs (ks.drop j) (ks'.drop j))
   case atStart=>
    refine⟨0,by omega,rfl,((Keep.refl _ _).alloc _).alloc _,blk_alloc (blk_new w _) _,?_,rfl⟩
    simpa using blk_new (w.alloc (.cells #[.int .i64 k,.int .u64 (n:Int),.string ⟨t.toArray⟩,.slice A1 m c1,.int .i64 o,.slice A2 md c2] 78)) (.cells #[.int .i64 k,.int .u64 (n:Int),.string ⟨t.toArray⟩,.slice A3 m c3,.int .i64 o',.slice A4 md c4] 78)
   case round=>
    obtain⟨j,hj,rfl,kr,hb1,hb2,hsm⟩:=hrel
    have SM:=Lib.hid hsm
    clear hsm
    rcases gk with _ | kk
    ·obtain rfl:j=m:=by omega
     have hv:sameVs ks ks'=true:=by
      rw [SM.out,M1.out,List.drop_length]
      rfl
     have HV:=Lib.hid hv
     clear hv
     have d5:=(blk_cell hb1 5).trans rfl
     have e5:=(blk_cell hb2 5).trans rfl
     by_cases hd0:md=0
     ·subst hd0
      have d5':=fun q os=>cell_regrown d5 q os
      have e5':=fun q os=>cell_regrown e5 q os
      go_wp2_with fail
      refine wp_region_quiet_below (by kernel_rfl) (by kernel_rfl) ?_
      repeat (go_big_quiet_step (fail))
      refine wpQuiet_nil ?_
      intro _ hw'
      obtain⟨⟨dq,osq⟩,hw''⟩:=hw'
      subst hw''
      go_wp2
      go_ret
      refine⟨?_,kr.trans (new_regrown wr dq osq)⟩
      have:ds=[]:=List.eq_nil_of_length_eq_zero M2.out.symm
      rw [HF.out,HV.out,this]
      rfl
     ·have hne:ds≠[]:=fun h=>hd0 (by rw [M2.out,h];rfl)
      have hne':ds'≠[]:=fun h=>hd0 (by rw [M4.out,h];rfl)
      obtain⟨d,i,rfl,-,-,-,hat⟩:=(HD.out.keep kr).at2 hne
      obtain⟨d',i',rfl,-,-,-,hat'⟩:=(HD'.out.keep kr).at2 hne'
      obtain⟨a0,a1,a2,a3,a4,a5,hva,g0,g1,g2,g3,g4,g5⟩:=hat 0 (List.length_pos_iff.2 hne)
      obtain⟨b0,b1,b2,b3,b4,b5,hvb,f0,f1,f2,f3,f4,f5⟩:=hat' 0 (List.length_pos_iff.2 hne')
      simp only [Nat.zero_mul,Nat.add_zero]at g0 g1 g2 g3 g4 g5 f0 f1 f2 f3 f4 f5
      have t0:((md:Int)==0)=false:=by simpa using hd0
      have hpos:0<md:=by omega
      have HVA:=Lib.hid hva
      have HVB:=Lib.hid hvb
      clear hva hvb hat hat'
      have hcall:=fun w' (k':New wr w')=>IH.out ds[0] ds'[0] (Nat.le_trans (cnts_get ds 0 (List.length_pos_iff.2 hne)) hNk.2) w' _ _ (HVA.out.keep k') (HVB.out.keep k')
      have HC:=Lib.hid hcall
      clear hcall
      have d5':=fun q os=>cell_regrown d5 q os
      have e5':=fun q os=>cell_regrown e5 q os
      have g0':=fun q os=>cell_regrown g0 q os
      have g1':=fun q os=>cell_regrown g1 q os
      have g2':=fun q os=>cell_regrown g2 q os
      have g3':=fun q os=>cell_regrown g3 q os
      have g4':=fun q os=>cell_regrown g4 q os
      have g5':=fun q os=>cell_regrown g5 q os
      have f0':=fun q os=>cell_regrown f0 q os
      have f1':=fun q os=>cell_regrown f1 q os
      have f2':=fun q os=>cell_regrown f2 q os
      have f3':=fun q os=>cell_regrown f3 q os
      have f4':=fun q os=>cell_regrown f4 q os
      have f5':=fun q os=>cell_regrown f5 q os
      have cQ:=fun q os=>regrown_new (HC.out _ (new_regrown wr q os))
      go_wp2_with fail
      refine wp_region_quiet_below (by kernel_rfl) (by kernel_rfl) ?_
      repeat (go_big_quiet_step (first | exact cQ _ _))
      refine wpQuiet_nil ?_
      intro _ hw'
      obtain⟨⟨dq,osq⟩,hw''⟩:=hw'
      subst hw''
      go_wp2
      go_ret
      refine⟨?_,kr.trans (new_regrown wr dq osq)⟩
      rw [HF.out,HV.out]
      match ds,ds',hne,hne' with
      | a::r,b::r',_,_=>rfl
    ·have hjn:j<m:=by omega
     have tj:decide (j<m)=true:=by simpa using hjn
     have hj1:j<ks.length:=by rw [←M1.out];exact hjn
     have hj2:j<ks'.length:=by rw [←M3.out];exact hjn
     have d3:=(blk_cell hb1 3).trans rfl
     have e3:=(blk_cell hb2 3).trans rfl
     obtain⟨d,i,rfl,-,-,-,hat⟩:=(HK.out.keep kr).at2 (fun h=>by rw [h]at hj1;simp at hj1)
     obtain⟨d',i',rfl,-,-,-,hat'⟩:=(HK'.out.keep kr).at2 (fun h=>by rw [h]at hj2;simp at hj2)
     obtain⟨a0,a1,a2,a3,a4,a5,hva,g0,g1,g2,g3,g4,g5⟩:=hat j hj1
     obtain⟨b0,b1,b2,b3,b4,b5,hvb,f0,f1,f2,f3,f4,f5⟩:=hat' j hj2
     have hle:cnt ks[j]≤N:=Nat.le_trans (cnts_get ks j hj1) hNk.1
     have hcall:=fun w' (k':New wr w')=>IH.out ks[j] ks'[j] hle w' _ _ (hva.keep k') (hvb.keep k')
     have HC:=Lib.hid hcall
     clear hva hvb hat hat' hcall
     have hst:=sameVs_step j hj1 hj2
     obtain⟨bb,hbb⟩:∃bb,bb=sameV ks[j] ks'[j]:=⟨_,rfl⟩
     rw [←hbb]at hst
     have HBB:=Lib.hid hbb
     have HST:=Lib.hid hst
     clear hbb hst
     have d3':=fun q os=>cell_regrown d3 q os
     have e3':=fun q os=>cell_regrown e3 q os
     have g0':=fun q os=>cell_regrown g0 q os
     have g1':=fun q os=>cell_regrown g1 q os
     have g2':=fun q os=>cell_regrown g2 q os
     have g3':=fun q os=>cell_regrown g3 q os
     have g4':=fun q os=>cell_regrown g4 q os
     have g5':=fun q os=>cell_regrown g5 q os
     have f0':=fun q os=>cell_regrown f0 q os
     have f1':=fun q os=>cell_regrown f1 q os
     have f2':=fun q os=>cell_regrown f2 q os
     have f3':=fun q os=>cell_regrown f3 q os
     have f4':=fun q os=>cell_regrown f4 q os
     have f5':=fun q os=>cell_regrown f5 q os
     have cQ:=fun q os=>regrown_new (v:=.bool bb) ((HC.out _ (new_regrown wr q os)).mono fun e w' h=>⟨by rw [HBB.out];exact h.1,h.2⟩)
     go_wp2_with fail
     refine wp_region_quiet_below (by kernel_rfl) (by kernel_rfl) ?_
     repeat (go_big_quiet_step (first | exact cQ _ _))
     refine wpQuiet_nil ?_
     intro _ hw'
     obtain⟨⟨dq,osq⟩,hw''⟩:=hw'
     subst hw''
     have kr4:=new_regrown wr dq osq
     have hb14:=kr4.blk hb1 trivial
     have hb24:=kr4.blk hb2 trivial
     have kr5:=kr.trans kr4
     cases bb
     ·go_wp2
      go_ret
      refine⟨?_,kr5⟩
      rw [HF.out,SM.out,HST.out]
      rfl
     ·go_wp2
      go_roundg kk
      case measure=>omega
      case rel=>
       refine⟨j+1,by omega,congrArg _ (by omega),kr5,hb14,hb24,?_⟩
       rw [SM.out,HST.out,Bool.true_and]
end Go.Proofs.YtfoegolfadhmjaaGreatDoor
namespace Go.Proofs.YtfoegolfadhmjaaGreatDoor
open Go.RowKit Go.WideShapes Go.Sort
theorem len_cnts:∀(l:List V),l.length≤cnts l
 | []=>by simp
 | a::l=>by
   have:=len_cnts l
   cases a
   simp only [cnts,cnt,List.length_cons]
   omega
theorem sameLs_step{a b:List V}(j:Nat)(ha:j<a.length)(hb:j<b.length):sameLs (a.drop j) (b.drop j)=(sameL a[j] b[j]&&sameLs (a.drop (j+1)) (b.drop (j+1))):=by
 rw [List.drop_eq_getElem_cons ha,List.drop_eq_getElem_cons hb]
 simp [sameLs]
theorem sameAt_step{f:V→Bool}{k:V}{l:List V}(j:Nat)(h1:j+1<l.length):sameAt f k (l.drop j)=((sameV k l[j]&&f l[j+1]) || sameAt f k (l.drop (j+2))):=by
 rw [List.drop_eq_getElem_cons (by omega:j<l.length),List.drop_eq_getElem_cons h1]
 rfl
theorem sameAt_end{f:V→Bool}{k:V}{l:List V}(j:Nat)(h1:¬j+1<l.length):sameAt f k (l.drop j)=false:=by
 have:(l.drop j).length≤1:=by simp;omega
 match h:l.drop j,this with
 | [],_=>rfl
 | [x],_=>rfl
theorem sameM_step{l bs:List V}(i:Nat)(h1:i+1<l.length):sameM (l.drop i) bs=(sameAt (sameL l[i+1]) l[i] bs&&sameM (l.drop (i+2)) bs):=by
 rw [List.drop_eq_getElem_cons (by omega:i<l.length),List.drop_eq_getElem_cons h1]
 simp [sameM]
theorem sameM_end{l bs:List V}(i:Nat)(h1:¬i+1<l.length):sameM (l.drop i) bs=true:=by
 have:(l.drop i).length≤1:=by simp;omega
 match h:l.drop i,this with
 | [],_=>simp [sameM]
 | [x],_=>simp [sameM]
theorem NoD.inv{v:V}(h:NoD [v]):∃k n t ks o,v=.mk k n t ks o []∧NoD ks:=by
 cases h with
 | cons hk _=>exact⟨_,_,_,_,_,rfl,hk⟩
theorem NoD.get{l:List V}(h:NoD l):∀(j:Nat) (hj:j<l.length),NoD [l[j]]:=by
 induction h with
 | nil=>intro j hj;simp at hj
 | cons hk hs _ ih=>
   intro j hj
   cases j with
   | zero=>exact .cons hk .nil
   | succ j=>exact ih j (by simpa using hj)
theorem loose_map(N:Nat)(IH:Hid (∀(a b:V),cnt a≤N→NoD [a]→NoD [b]→∀(w:World) (x y:Value),VM w a x→VM w b y→Calls Tryz.prog 137 #[x,y] w fun e w'=>e=.returned (.bool (sameL a b))∧New w w'))
 (n n':Nat) (t t':List UInt8) (ks ks':List V) (o o':Int) (m:Nat) (A1 A2 A3 A4:Option Addr) (c1 c2 c3 c4:Nat) (w:World) (hn:n<18446744073709551616) (hn':n'<18446744073709551616) (HK:Hid (LM w ks (.slice A1 m c1))) (HK':Hid (LM w ks' (.slice A3 m c3))) (NA:Hid (NoD ks)) (NB:Hid (NoD ks')) (hNk:cnts ks≤N) (hmb:m≤1099511627776)
 (M1:Hid (m=ks.length)) (M3:Hid (m=ks'.length)) (hfin2:sameL (.mk 22 n t ks o []) (.mk 22 n' t' ks' o' [])=sameM ks ks'):
 Calls Tryz.prog 137 #[.agg #[.int .i64 22,.int .u64 (n:Int),.string ⟨t.toArray⟩,.slice A1 m c1,.int .i64 o,.slice A2 0 c2],.agg #[.int .i64 22,.int .u64 (n':Int),.string ⟨t'.toArray⟩,.slice A3 m c3,.int .i64 o',.slice A4 0 c4]] w fun e w'=>e=.returned (.bool (sameL (.mk 22 n t ks o []) (.mk 22 n' t' ks' o' [])))∧New w w':=by
 have HF:=Lib.hid hfin2
 clear hfin2
 go_enter Tryz.func137,Tryz.ntmps137
 go_wp2_with fail
 obtain⟨w1,hw1⟩:∃w1,w1=(w.alloc (.cells #[.int .i64 22,.int .u64 (n:Int),.string ⟨t.toArray⟩,.slice A1 m c1,.int .i64 o,.slice A2 0 c2] 78)).alloc (.cells #[.int .i64 22,.int .u64 (n':Int),.string ⟨t'.toArray⟩,.slice A3 m c3,.int .i64 o',.slice A4 0 c4] 78):=⟨_,rfl⟩
 have kw1:New w w1:=by rw [hw1];exact((Keep.refl _ _).alloc _).alloc _
 have B1:w1.heap[w.heap.size]? =some (.cells #[.int .i64 22,.int .u64 (n:Int),.string ⟨t.toArray⟩,.slice A1 m c1,.int .i64 o,.slice A2 0 c2] 78 (0,0)):=by rw [hw1];exact blk_alloc (blk_new w _) _
 have B2:w1.heap[w.heap.size+1]? =some (.cells #[.int .i64 22,.int .u64 (n':Int),.string ⟨t'.toArray⟩,.slice A3 m c3,.int .i64 o',.slice A4 0 c4] 78 (0,0)):=by rw [hw1];simpa using blk_new (w.alloc (.cells #[.int .i64 22,.int .u64 (n:Int),.string ⟨t.toArray⟩,.slice A1 m c1,.int .i64 o,.slice A2 0 c2] 78)) (.cells #[.int .i64 22,.int .u64 (n':Int),.string ⟨t'.toArray⟩,.slice A3 m c3,.int .i64 o',.slice A4 0 c4] 78)
 rw [←hw1]
 clear hw1
 have x0:=(blk_cell B1 0).trans rfl
 have x3:=(blk_cell B1 3).trans rfl
 have x5:=(blk_cell B1 5).trans rfl
 have y0:=(blk_cell B2 0).trans rfl
 have y3:=(blk_cell B2 3).trans rfl
 have y5:=(blk_cell B2 5).trans rfl
 have x0':=fun q os=>cell_regrown x0 q os
 have x3':=fun q os=>cell_regrown x3 q os
 have x5':=fun q os=>cell_regrown x5 q os
 have y0':=fun q os=>cell_regrown y0 q os
 have y3':=fun q os=>cell_regrown y3 q os
 have y5':=fun q os=>cell_regrown y5 q os
 refine wp_region_quiet_below (by kernel_rfl) (by kernel_rfl) ?_
 repeat (go_big_quiet_step (fail))
 refine wpQuiet_nil ?_
 intro _ hw'
 obtain⟨⟨dq,osq⟩,hw''⟩:=hw'
 have kq:=new_regrown w1 dq osq
 rw [←hw'']at kq
 have kw2:=kw1.trans kq
 have C1:=kq.blk B1 trivial
 have C2:=kq.blk B2 trivial
 clear x0 x3 x5 y0 y3 y5 x0' x3' x5' y0' y3' y5' B1 B2 hw'' kw1 kq
 rename_i w2
 have x0:=(blk_cell C1 0).trans rfl
 have x3:=(blk_cell C1 3).trans rfl
 go_wp2_with fail
 go_loopg [6] m (fun kk s6 wr=>∃i:Nat,i+kk=m∧s6=.int .i64 (i:Int)∧New w wr∧wr.heap[w.heap.size]? =some (.cells #[.int .i64 22,.int .u64 (n:Int),.string ⟨t.toArray⟩,.slice A1 m c1,.int .i64 o,.slice A2 0 c2] 78 (0,0))∧wr.heap[w.heap.size+1]? =some (.cells #[.int .i64 22,.int .u64 (n':Int),.string ⟨t'.toArray⟩,.slice A3 m c3,.int .i64 o',.slice A4 0 c4] 78 (0,0))∧sameM ks ks'=sameM (ks.drop i) ks')
 case atStart=>exact⟨0,by omega,rfl,kw2,C1,C2,rfl⟩
 case round=>
  obtain⟨i,hi,rfl,kr,hb1,hb2,hsm⟩:=hrel
  have SM:=Lib.hid hsm
  clear hsm x0 x3 C1 C2
  have d3:=(blk_cell hb1 3).trans rfl
  by_cases hb:i+1<m
  case neg=>
   have ti:decide ((i:Int)+1<(m:Int))=false:=by simp;omega
   have hv:sameM ks ks'=true:=by rw [SM.out];exact sameM_end i (by rw [←M1.out];exact hb)
   have HV:=Lib.hid hv
   clear hv
   go_wp2
   go_ret
   exact⟨by rw [HF.out,HV.out];rfl,kr⟩
  have ti:decide ((i:Int)+1<(m:Int))=true:=by simp;omega
  have hi1:i+1<ks.length:=by rw [←M1.out];exact hb
  have hstep:=sameM_step (bs:=ks') i hi1
  have HST:=Lib.hid hstep
  clear hstep
  obtain⟨wo,hwo⟩:∃wo:World,wo=wr:=⟨_,rfl⟩
  go_wp2_with fail
  go_loopg [7,8] m (fun kk s7 s8 wr=>∃(j:Nat) (fb:Bool),j+kk=m∧s7=.bool fb∧s8=.int .i64 (j:Int)∧New w wr∧wr.heap[w.heap.size]? =some (.cells #[.int .i64 22,.int .u64 (n:Int),.string ⟨t.toArray⟩,.slice A1 m c1,.int .i64 o,.slice A2 0 c2] 78 (0,0))∧wr.heap[w.heap.size+1]? =some (.cells #[.int .i64 22,.int .u64 (n':Int),.string ⟨t'.toArray⟩,.slice A3 m c3,.int .i64 o',.slice A4 0 c4] 78 (0,0))∧sameAt (sameL ks[i+1]) ks[i] ks'=(fb || sameAt (sameL ks[i+1]) ks[i] (ks'.drop j)))
  case atStart=>exact⟨0,false,by omega,rfl,rfl,kr,hb1,hb2,by rw [Bool.false_or];rfl⟩
  case round=>
   clear hb1 hb2 kr d3
   obtain⟨j,fb,hj,rfl,rfl,kr,hb1,hb2,hsa⟩:=hrel
   have SA:=Lib.hid hsa
   clear hsa
   have d3:=(blk_cell hb1 3).trans rfl
   have e3:=(blk_cell hb2 3).trans rfl
   by_cases hc:j+1<m
   case neg=>
    have tj:decide ((j:Int)+1<(m:Int))=false:=by simp;omega
    have hend:sameAt (sameL ks[i+1]) ks[i] ks'=fb:=by
     rw [SA.out,sameAt_end j (by rw [←M3.out];exact hc),Bool.or_false]
    have HE:=Lib.hid hend
    clear hend
    cases fb
    ·go_wp2
     go_ret
     refine⟨?_,kr⟩
     rw [HF.out,SM.out,HST.out,HE.out]
     rfl
    ·go_wp2
     go_roundg (m-(i+2))
     case measure=>omega
     case rel=>
      refine⟨i+2,by omega,congrArg _ (by omega),kr,hb1,hb2,?_⟩
      rw [SM.out,HST.out,HE.out,Bool.true_and]
   have tj:decide ((j:Int)+1<(m:Int))=true:=by simp;omega
   have hj1:j+1<ks'.length:=by rw [←M3.out];exact hc
   have hj0:j<ks'.length:=by omega
   have hi0:i<ks.length:=by omega
   obtain⟨d,p,rfl,-,-,-,hat⟩:=(HK.out.keep kr).at2 (fun h=>by rw [h]at hi0;simp at hi0)
   obtain⟨d',p',rfl,-,-,-,hat'⟩:=(HK'.out.keep kr).at2 (fun h=>by rw [h]at hj0;simp at hj0)
   obtain⟨a0,a1,a2,a3,a4,a5,hva,g0,g1,g2,g3,g4,g5⟩:=hat i hi0
   obtain⟨b0,b1,b2,b3,b4,b5,hvb,f0,f1,f2,f3,f4,f5⟩:=hat' j hj0
   obtain⟨x0,x1,x2,x3,x4,x5,hvx,q0,q1,q2,q3,q4,q5⟩:=hat (i+1) hi1
   obtain⟨y0,y1,y2,y3,y4,y5,hvy,r0,r1,r2,r3,r4,r5⟩:=hat' (j+1) hj1
   obtain⟨sv,hsv⟩:∃sv,sv=sameV ks[i] ks'[j]:=⟨_,rfl⟩
   obtain⟨lv,hlv⟩:∃lv,lv=sameL ks[i+1] ks'[j+1]:=⟨_,rfl⟩
   have hst:=sameAt_step (f:=sameL ks[i+1]) (k:=ks[i]) (l:=ks') j hj1
   rw [←hsv,←hlv]at hst
   have HSA:=Lib.hid hst
   have cS:=fun q os=>regrown_new (v:=.bool sv) ((same_val N ks[i] ks'[j] (Nat.le_trans (cnts_get ks i hi0) hNk) _ _ _ (hva.keep (new_regrown wr q os)) (hvb.keep (new_regrown wr q os))).mono fun e w' h=>⟨by rw [hsv];exact h.1,h.2⟩)
   have cL:=fun q os=>regrown_new (v:=.bool lv) ((IH.out ks[i+1] ks'[j+1] (Nat.le_trans (cnts_get ks (i+1) hi1) hNk) (NA.out.get (i+1) hi1) (NB.out.get (j+1) hj1) _ _ _ (hvx.keep (new_regrown wr q os)) (hvy.keep (new_regrown wr q os))).mono fun e w' h=>⟨by rw [hlv];exact h.1,h.2⟩)
   clear hva hvb hvx hvy hat hat' hsv hlv hst
   have d3':=fun q os=>cell_regrown d3 q os
   have e3':=fun q os=>cell_regrown e3 q os
   have g0':=fun q os=>cell_regrown g0 q os
   have g1':=fun q os=>cell_regrown g1 q os
   have g2':=fun q os=>cell_regrown g2 q os
   have g3':=fun q os=>cell_regrown g3 q os
   have g4':=fun q os=>cell_regrown g4 q os
   have g5':=fun q os=>cell_regrown g5 q os
   have f0':=fun q os=>cell_regrown f0 q os
   have f1':=fun q os=>cell_regrown f1 q os
   have f2':=fun q os=>cell_regrown f2 q os
   have f3':=fun q os=>cell_regrown f3 q os
   have f4':=fun q os=>cell_regrown f4 q os
   have f5':=fun q os=>cell_regrown f5 q os
   have q0':=fun q os=>cell_regrown q0 q os
   have q1':=fun q os=>cell_regrown q1 q os
   have q2':=fun q os=>cell_regrown q2 q os
   have q3':=fun q os=>cell_regrown q3 q os
   have q4':=fun q os=>cell_regrown q4 q os
   have q5':=fun q os=>cell_regrown q5 q os
   have r0':=fun q os=>cell_regrown r0 q os
   have r1':=fun q os=>cell_regrown r1 q os
   have r2':=fun q os=>cell_regrown r2 q os
   have r3':=fun q os=>cell_regrown r3 q os
   have r4':=fun q os=>cell_regrown r4 q os
   have r5':=fun q os=>cell_regrown r5 q os
   cases fb
   ·cases sv
    ·go_wp2_with fail
     refine wp_region_quiet_below (by kernel_rfl) (by kernel_rfl) ?_
     repeat (go_big_quiet_step (first | exact cS _ _ | exact cL _ _))
     refine wpQuiet_nil ?_
     intro _ hw'
     obtain⟨⟨dq,osq⟩,hw''⟩:=hw'
     subst hw''
     go_wp2
     have kr4:=new_regrown wr dq osq
     go_roundg (m-(j+2))
     case measure=>omega
     case rel=>
      refine⟨j+2,false,by omega,rfl,congrArg _ (by omega),kr.trans kr4,kr4.blk hb1 trivial,kr4.blk hb2 trivial,?_⟩
      rw [SA.out,HSA.out]
      simp
    ·go_wp2_with fail
     refine wp_region_quiet_below (by kernel_rfl) (by kernel_rfl) ?_
     repeat (go_big_quiet_step (first | exact cS _ _ | exact cL _ _))
     refine wpQuiet_nil ?_
     intro _ hw'
     obtain⟨⟨dq,osq⟩,hw''⟩:=hw'
     subst hw''
     go_wp2
     have kr4:=new_regrown wr dq osq
     go_roundg (m-(j+2))
     case measure=>omega
     case rel=>
      refine⟨j+2,lv,by omega,rfl,congrArg _ (by omega),kr.trans kr4,kr4.blk hb1 trivial,kr4.blk hb2 trivial,?_⟩
      rw [SA.out,HSA.out]
      simp
   ·go_wp2_with fail
    refine wp_region_quiet_below (by kernel_rfl) (by kernel_rfl) ?_
    repeat (go_big_quiet_step (first | exact cS _ _ | exact cL _ _))
    refine wpQuiet_nil ?_
    intro _ hw'
    obtain⟨⟨dq,osq⟩,hw''⟩:=hw'
    subst hw''
    go_wp2
    have kr4:=new_regrown wr dq osq
    go_roundg (m-(j+2))
    case measure=>omega
    case rel=>
     refine⟨j+2,true,by omega,rfl,congrArg _ (by omega),kr.trans kr4,kr4.blk hb1 trivial,kr4.blk hb2 trivial,?_⟩
     rw [SA.out,HSA.out]
     simp
end Go.Proofs.YtfoegolfadhmjaaGreatDoor
namespace Go.Proofs.YtfoegolfadhmjaaGreatDoor
open Go.RowKit Go.WideShapes Go.Sort
theorem loose_val(N:Nat):N≤1099511627776→∀(a b:V),cnt a≤N→NoD [a]→NoD [b]→∀(w:World) (x y:Value),VM w a x→VM w b y→Calls Tryz.prog 137 #[x,y] w fun e w'=>e=.returned (.bool (sameL a b))∧New w w':=by
 induction N with
 | zero=>
   intro _ a b h
   cases a
   simp only [cnt]at h
   omega
 | succ N ih=>
   intro hmx a b hN na nb w x y hx hy
   obtain⟨k,n,t,ks,o,rfl,nka⟩:=na.inv
   obtain⟨k',n',t',ks',o',rfl,nkb⟩:=nb.inv
   clear na nb
   by_cases hk:¬k=21∧¬k=22
   ·have hS:=same_val (N+1) (.mk k n t ks o []) (.mk k' n' t' ks' o' []) hN
    have HX:=Lib.hid hx
    have HY:=Lib.hid hy
    obtain⟨sk,sd,rfl,hn,hks,hds⟩:=hx.inv
    obtain⟨sk',sd',rfl,hn',hks',hds'⟩:=hy.inv
    obtain⟨A1,c1,rfl,-,-⟩:=hks.shape
    obtain⟨A2,c2,rfl,-,-⟩:=hds.shape
    obtain⟨A3,c3,rfl,-,-⟩:=hks'.shape
    obtain⟨A4,c4,rfl,-,-⟩:=hds'.shape
    have HS:=Lib.hid hS
    have h21:=hk.1
    have h22:=hk.2
    have t21:(k !=21)=true:=by simpa using h21
    have t22:(k !=22)=true:=by simpa using h22
    have hfin:sameL (.mk k n t ks o []) (.mk k' n' t' ks' o' [])=sameV (.mk k n t ks o []) (.mk k' n' t' ks' o' []):=sameL_leaf h21 h22
    have HF:=Lib.hid hfin
    clear hfin hS hks hds hks' hds' hx hy hk ih hN
    go_enter Tryz.func137,Tryz.ntmps137
    go_wp2_with fail
    refine(HS.out _ _ _ (HX.out.keep (((Keep.refl _ w).alloc _).alloc _)) (HY.out.keep (((Keep.refl _ w).alloc _).alloc _))).mono ?_
    rintro e w2 ⟨rfl,k2⟩
    rw [←HF.out]
    go_wp2
    go_ret
    exact⟨rfl,(((Keep.refl _ w).alloc _).alloc _).trans k2⟩
   ·obtain⟨sk,sd,rfl,hn,hks,hds⟩:=hx.inv
    obtain⟨sk',sd',rfl,hn',hks',hds'⟩:=hy.inv
    obtain⟨A1,c1,rfl,-,-⟩:=hks.shape
    obtain⟨A2,c2,rfl,-,-⟩:=hds.shape
    obtain⟨A3,c3,rfl,-,-⟩:=hks'.shape
    obtain⟨A4,c4,rfl,-,-⟩:=hds'.shape
    have HK:=Lib.hid hks
    have HK':=Lib.hid hks'
    have IH:=Lib.hid (ih (by omega))
    have NA:=Lib.hid nka
    have NB:=Lib.hid nkb
    have hNk:cnts ks≤N:=by simp only [cnt]at hN;omega
    have hmb:ks.length≤1099511627776:=by have:=len_cnts ks;omega
    clear hx hy hks hds hks' hds' ih hN nka nkb
    simp only [List.length_nil]
    by_cases h1:k=k'
    case neg=>
     have hres:sameL (.mk k n t ks o []) (.mk k' n' t' ks' o' [])=false:=by
      have h1':¬k=k':=h1
      have:k=21∨k=22:=by omega
      rcases this with rfl | rfl<;>simp [sameL,V.kind,h1']
     have HR:=Lib.hid hres
     clear hres
     have hkk:k=21∨k=22:=by omega
     rcases hkk with rfl | rfl
     ·have u1:((21:Int) !=k')=true:=by simpa using h1
      go_enter Tryz.func137,Tryz.ntmps137
      go_wp2_with fail
      obtain⟨w1,hw1⟩:∃w1,w1=(w.alloc (.cells #[.int .i64 21,.int .u64 (n:Int),.string ⟨t.toArray⟩,.slice A1 ks.length c1,.int .i64 o,.slice A2 0 c2] 78)).alloc (.cells #[.int .i64 k',.int .u64 (n':Int),.string ⟨t'.toArray⟩,.slice A3 ks'.length c3,.int .i64 o',.slice A4 0 c4] 78):=⟨_,rfl⟩
      have kw1:New w w1:=by rw [hw1];exact((Keep.refl _ _).alloc _).alloc _
      have D1:w1.heap[w.heap.size]? =some (.cells #[.int .i64 21,.int .u64 (n:Int),.string ⟨t.toArray⟩,.slice A1 ks.length c1,.int .i64 o,.slice A2 0 c2] 78 (0,0)):=by rw [hw1];exact blk_alloc (blk_new w _) _
      have D2:w1.heap[w.heap.size+1]? =some (.cells #[.int .i64 k',.int .u64 (n':Int),.string ⟨t'.toArray⟩,.slice A3 ks'.length c3,.int .i64 o',.slice A4 0 c4] 78 (0,0)):=by rw [hw1];simpa using blk_new (w.alloc (.cells #[.int .i64 21,.int .u64 (n:Int),.string ⟨t.toArray⟩,.slice A1 ks.length c1,.int .i64 o,.slice A2 0 c2] 78)) (.cells #[.int .i64 k',.int .u64 (n':Int),.string ⟨t'.toArray⟩,.slice A3 ks'.length c3,.int .i64 o',.slice A4 0 c4] 78)
      rw [←hw1]
      clear hw1
      have x0:=(blk_cell D1 0).trans rfl
      have x3:=(blk_cell D1 3).trans rfl
      have y0:=(blk_cell D2 0).trans rfl
      have y3:=(blk_cell D2 3).trans rfl
      have x0':=fun q os=>cell_regrown x0 q os
      have x3':=fun q os=>cell_regrown x3 q os
      have y0':=fun q os=>cell_regrown y0 q os
      have y3':=fun q os=>cell_regrown y3 q os
      refine wp_region_quiet_below (by kernel_rfl) (by kernel_rfl) ?_
      repeat (go_big_quiet_step (fail))
      refine wpQuiet_nil ?_
      intro _ hw'
      obtain⟨⟨dq,osq⟩,hw''⟩:=hw'
      subst hw''
      go_wp2
      go_ret
      exact⟨by rw [HR.out];rfl,kw1.trans (new_regrown w1 dq osq)⟩
     ·have u1:((22:Int) !=k')=true:=by simpa using h1
      go_enter Tryz.func137,Tryz.ntmps137
      go_wp2_with fail
      obtain⟨w1,hw1⟩:∃w1,w1=(w.alloc (.cells #[.int .i64 22,.int .u64 (n:Int),.string ⟨t.toArray⟩,.slice A1 ks.length c1,.int .i64 o,.slice A2 0 c2] 78)).alloc (.cells #[.int .i64 k',.int .u64 (n':Int),.string ⟨t'.toArray⟩,.slice A3 ks'.length c3,.int .i64 o',.slice A4 0 c4] 78):=⟨_,rfl⟩
      have kw1:New w w1:=by rw [hw1];exact((Keep.refl _ _).alloc _).alloc _
      have D1:w1.heap[w.heap.size]? =some (.cells #[.int .i64 22,.int .u64 (n:Int),.string ⟨t.toArray⟩,.slice A1 ks.length c1,.int .i64 o,.slice A2 0 c2] 78 (0,0)):=by rw [hw1];exact blk_alloc (blk_new w _) _
      have D2:w1.heap[w.heap.size+1]? =some (.cells #[.int .i64 k',.int .u64 (n':Int),.string ⟨t'.toArray⟩,.slice A3 ks'.length c3,.int .i64 o',.slice A4 0 c4] 78 (0,0)):=by rw [hw1];simpa using blk_new (w.alloc (.cells #[.int .i64 22,.int .u64 (n:Int),.string ⟨t.toArray⟩,.slice A1 ks.length c1,.int .i64 o,.slice A2 0 c2] 78)) (.cells #[.int .i64 k',.int .u64 (n':Int),.string ⟨t'.toArray⟩,.slice A3 ks'.length c3,.int .i64 o',.slice A4 0 c4] 78)
      rw [←hw1]
      clear hw1
      have x0:=(blk_cell D1 0).trans rfl
      have x3:=(blk_cell D1 3).trans rfl
      have y0:=(blk_cell D2 0).trans rfl
      have y3:=(blk_cell D2 3).trans rfl
      have x0':=fun q os=>cell_regrown x0 q os
      have x3':=fun q os=>cell_regrown x3 q os
      have y0':=fun q os=>cell_regrown y0 q os
      have y3':=fun q os=>cell_regrown y3 q os
      refine wp_region_quiet_below (by kernel_rfl) (by kernel_rfl) ?_
      repeat (go_big_quiet_step (fail))
      refine wpQuiet_nil ?_
      intro _ hw'
      obtain⟨⟨dq,osq⟩,hw''⟩:=hw'
      subst hw''
      go_wp2
      go_ret
      exact⟨by rw [HR.out];rfl,kw1.trans (new_regrown w1 dq osq)⟩
    subst h1
    by_cases h4:ks.length=ks'.length
    case neg=>
     have hkk:k=21∨k=22:=by omega
     have hres:sameL (.mk k n t ks o []) (.mk k n' t' ks' o' [])=false:=by
      rcases hkk with rfl | rfl<;>simp [sameL,V.kind,V.kids,h4]
     have HR:=Lib.hid hres
     clear hres
     rcases hkk with rfl | rfl
     ·have u1:((ks.length:Int) !=ks'.length)=true:=by simp;omega
      go_enter Tryz.func137,Tryz.ntmps137
      go_wp2_with fail
      obtain⟨w1,hw1⟩:∃w1,w1=(w.alloc (.cells #[.int .i64 21,.int .u64 (n:Int),.string ⟨t.toArray⟩,.slice A1 ks.length c1,.int .i64 o,.slice A2 0 c2] 78)).alloc (.cells #[.int .i64 21,.int .u64 (n':Int),.string ⟨t'.toArray⟩,.slice A3 ks'.length c3,.int .i64 o',.slice A4 0 c4] 78):=⟨_,rfl⟩
      have kw1:New w w1:=by rw [hw1];exact((Keep.refl _ _).alloc _).alloc _
      have D1:w1.heap[w.heap.size]? =some (.cells #[.int .i64 21,.int .u64 (n:Int),.string ⟨t.toArray⟩,.slice A1 ks.length c1,.int .i64 o,.slice A2 0 c2] 78 (0,0)):=by rw [hw1];exact blk_alloc (blk_new w _) _
      have D2:w1.heap[w.heap.size+1]? =some (.cells #[.int .i64 21,.int .u64 (n':Int),.string ⟨t'.toArray⟩,.slice A3 ks'.length c3,.int .i64 o',.slice A4 0 c4] 78 (0,0)):=by rw [hw1];simpa using blk_new (w.alloc (.cells #[.int .i64 21,.int .u64 (n:Int),.string ⟨t.toArray⟩,.slice A1 ks.length c1,.int .i64 o,.slice A2 0 c2] 78)) (.cells #[.int .i64 21,.int .u64 (n':Int),.string ⟨t'.toArray⟩,.slice A3 ks'.length c3,.int .i64 o',.slice A4 0 c4] 78)
      rw [←hw1]
      clear hw1
      have x0:=(blk_cell D1 0).trans rfl
      have x3:=(blk_cell D1 3).trans rfl
      have y0:=(blk_cell D2 0).trans rfl
      have y3:=(blk_cell D2 3).trans rfl
      have x0':=fun q os=>cell_regrown x0 q os
      have x3':=fun q os=>cell_regrown x3 q os
      have y0':=fun q os=>cell_regrown y0 q os
      have y3':=fun q os=>cell_regrown y3 q os
      refine wp_region_quiet_below (by kernel_rfl) (by kernel_rfl) ?_
      repeat (go_big_quiet_step (fail))
      refine wpQuiet_nil ?_
      intro _ hw'
      obtain⟨⟨dq,osq⟩,hw''⟩:=hw'
      subst hw''
      go_wp2
      go_ret
      exact⟨by rw [HR.out];rfl,kw1.trans (new_regrown w1 dq osq)⟩
     ·have u1:((ks.length:Int) !=ks'.length)=true:=by simp;omega
      go_enter Tryz.func137,Tryz.ntmps137
      go_wp2_with fail
      obtain⟨w1,hw1⟩:∃w1,w1=(w.alloc (.cells #[.int .i64 22,.int .u64 (n:Int),.string ⟨t.toArray⟩,.slice A1 ks.length c1,.int .i64 o,.slice A2 0 c2] 78)).alloc (.cells #[.int .i64 22,.int .u64 (n':Int),.string ⟨t'.toArray⟩,.slice A3 ks'.length c3,.int .i64 o',.slice A4 0 c4] 78):=⟨_,rfl⟩
      have kw1:New w w1:=by rw [hw1];exact((Keep.refl _ _).alloc _).alloc _
      have D1:w1.heap[w.heap.size]? =some (.cells #[.int .i64 22,.int .u64 (n:Int),.string ⟨t.toArray⟩,.slice A1 ks.length c1,.int .i64 o,.slice A2 0 c2] 78 (0,0)):=by rw [hw1];exact blk_alloc (blk_new w _) _
      have D2:w1.heap[w.heap.size+1]? =some (.cells #[.int .i64 22,.int .u64 (n':Int),.string ⟨t'.toArray⟩,.slice A3 ks'.length c3,.int .i64 o',.slice A4 0 c4] 78 (0,0)):=by rw [hw1];simpa using blk_new (w.alloc (.cells #[.int .i64 22,.int .u64 (n:Int),.string ⟨t.toArray⟩,.slice A1 ks.length c1,.int .i64 o,.slice A2 0 c2] 78)) (.cells #[.int .i64 22,.int .u64 (n':Int),.string ⟨t'.toArray⟩,.slice A3 ks'.length c3,.int .i64 o',.slice A4 0 c4] 78)
      rw [←hw1]
      clear hw1
      have x0:=(blk_cell D1 0).trans rfl
      have x3:=(blk_cell D1 3).trans rfl
      have y0:=(blk_cell D2 0).trans rfl
      have y3:=(blk_cell D2 3).trans rfl
      have x0':=fun q os=>cell_regrown x0 q os
      have x3':=fun q os=>cell_regrown x3 q os
      have y0':=fun q os=>cell_regrown y0 q os
      have y3':=fun q os=>cell_regrown y3 q os
      refine wp_region_quiet_below (by kernel_rfl) (by kernel_rfl) ?_
      repeat (go_big_quiet_step (fail))
      refine wpQuiet_nil ?_
      intro _ hw'
      obtain⟨⟨dq,osq⟩,hw''⟩:=hw'
      subst hw''
      go_wp2
      go_ret
      exact⟨by rw [HR.out];rfl,kw1.trans (new_regrown w1 dq osq)⟩
    obtain⟨m,hm⟩:∃m,m=ks.length:=⟨_,rfl⟩
    rw [←h4]at HK' ⊢
    rw [←hm]at HK HK' hmb ⊢
    have M1:=Lib.hid hm
    have M3:=Lib.hid (hm.trans h4)
    have hk2:k=21∨k=22:=by omega
    have hfin1:k=21→sameL (.mk k n t ks o []) (.mk k n' t' ks' o' [])=sameLs ks ks':=by
     rintro rfl
     simp [sameL,V.kind,V.kids,V.desc,h4]
    have hfin2:k=22→sameL (.mk k n t ks o []) (.mk k n' t' ks' o' [])=sameM ks ks':=by
     rintro rfl
     simp [sameL,V.kind,V.kids,V.desc,h4]
    clear hm h4 hk
    rcases hk2 with rfl | rfl
    ·have HF:=Lib.hid (hfin1 rfl)
     clear hfin1 hfin2
     go_enter Tryz.func137,Tryz.ntmps137
     go_wp2_with fail
     obtain⟨w1,hw1⟩:∃w1,w1=(w.alloc (.cells #[.int .i64 21,.int .u64 (n:Int),.string ⟨t.toArray⟩,.slice A1 m c1,.int .i64 o,.slice A2 0 c2] 78)).alloc (.cells #[.int .i64 21,.int .u64 (n':Int),.string ⟨t'.toArray⟩,.slice A3 m c3,.int .i64 o',.slice A4 0 c4] 78):=⟨_,rfl⟩
     have kw1:New w w1:=by rw [hw1];exact((Keep.refl _ _).alloc _).alloc _
     have B1:w1.heap[w.heap.size]? =some (.cells #[.int .i64 21,.int .u64 (n:Int),.string ⟨t.toArray⟩,.slice A1 m c1,.int .i64 o,.slice A2 0 c2] 78 (0,0)):=by rw [hw1];exact blk_alloc (blk_new w _) _
     have B2:w1.heap[w.heap.size+1]? =some (.cells #[.int .i64 21,.int .u64 (n':Int),.string ⟨t'.toArray⟩,.slice A3 m c3,.int .i64 o',.slice A4 0 c4] 78 (0,0)):=by rw [hw1];simpa using blk_new (w.alloc (.cells #[.int .i64 21,.int .u64 (n:Int),.string ⟨t.toArray⟩,.slice A1 m c1,.int .i64 o,.slice A2 0 c2] 78)) (.cells #[.int .i64 21,.int .u64 (n':Int),.string ⟨t'.toArray⟩,.slice A3 m c3,.int .i64 o',.slice A4 0 c4] 78)
     rw [←hw1]
     clear hw1
     have x0:=(blk_cell B1 0).trans rfl
     have x3:=(blk_cell B1 3).trans rfl
     have x5:=(blk_cell B1 5).trans rfl
     have y0:=(blk_cell B2 0).trans rfl
     have y3:=(blk_cell B2 3).trans rfl
     have y5:=(blk_cell B2 5).trans rfl
     have x0':=fun q os=>cell_regrown x0 q os
     have x3':=fun q os=>cell_regrown x3 q os
     have x5':=fun q os=>cell_regrown x5 q os
     have y0':=fun q os=>cell_regrown y0 q os
     have y3':=fun q os=>cell_regrown y3 q os
     have y5':=fun q os=>cell_regrown y5 q os
     refine wp_region_quiet_below (by kernel_rfl) (by kernel_rfl) ?_
     repeat (go_big_quiet_step (fail))
     refine wpQuiet_nil ?_
     intro _ hw'
     obtain⟨⟨dq,osq⟩,hw''⟩:=hw'
     have kq:=new_regrown w1 dq osq
     rw [←hw'']at kq
     have kw2:=kw1.trans kq
     have C1:=kq.blk B1 trivial
     have C2:=kq.blk B2 trivial
     clear x0 x3 x5 y0 y3 y5 x0' x3' x5' y0' y3' y5' B1 B2 hw'' kw1 kq
     rename_i w2
     have x0:=(blk_cell C1 0).trans rfl
     have x3:=(blk_cell C1 3).trans rfl
     go_wp2_with fail
     go_loopg [67] m (fun kk s67 wr=>∃j:Nat,j+kk=m∧s67=.int .i64 (j:Int)∧New w wr∧wr.heap[w.heap.size]? =some (.cells #[.int .i64 21,.int .u64 (n:Int),.string ⟨t.toArray⟩,.slice A1 m c1,.int .i64 o,.slice A2 0 c2] 78 (0,0))∧wr.heap[w.heap.size+1]? =some (.cells #[.int .i64 21,.int .u64 (n':Int),.string ⟨t'.toArray⟩,.slice A3 m c3,.int .i64 o',.slice A4 0 c4] 78 (0,0))∧sameLs ks ks'=sameLs (ks.drop j) (ks'.drop j))
     case atStart=>exact⟨0,by omega,rfl,kw2,C1,C2,rfl⟩
     case round=>
      obtain⟨j,hj,rfl,kr,hb1,hb2,hsm⟩:=hrel
      have SM:=Lib.hid hsm
      clear hsm
      rcases gk with _ | kk
      ·obtain rfl:j=m:=by omega
       have hv:sameLs ks ks'=true:=by
        rw [SM.out,M1.out,List.drop_length]
        rfl
       have HV:=Lib.hid hv
       clear hv
       go_wp2
       go_ret
       exact⟨by rw [HF.out,HV.out];rfl,kr⟩
      ·have hjn:j<m:=by omega
       have tj:decide (j<m)=true:=by simpa using hjn
       have hj1:j<ks.length:=by rw [←M1.out];exact hjn
       have hj2:j<ks'.length:=by rw [←M3.out];exact hjn
       have d3:=(blk_cell hb1 3).trans rfl
       have e3:=(blk_cell hb2 3).trans rfl
       obtain⟨d,i,rfl,-,-,-,hat⟩:=(HK.out.keep kr).at2 (fun h=>by rw [h]at hj1;simp at hj1)
       obtain⟨d',i',rfl,-,-,-,hat'⟩:=(HK'.out.keep kr).at2 (fun h=>by rw [h]at hj2;simp at hj2)
       obtain⟨a0,a1,a2,a3,a4,a5,hva,g0,g1,g2,g3,g4,g5⟩:=hat j hj1
       obtain⟨b0,b1,b2,b3,b4,b5,hvb,f0,f1,f2,f3,f4,f5⟩:=hat' j hj2
       have hle:cnt ks[j]≤N:=Nat.le_trans (cnts_get ks j hj1) hNk
       have hcall:=fun w' (k':New wr w')=>IH.out ks[j] ks'[j] hle (NA.out.get j hj1) (NB.out.get j hj2) w' _ _ (hva.keep k') (hvb.keep k')
       have HC:=Lib.hid hcall
       clear hva hvb hat hat' hcall
       have hst:=sameLs_step j hj1 hj2
       obtain⟨bb,hbb⟩:∃bb,bb=sameL ks[j] ks'[j]:=⟨_,rfl⟩
       rw [←hbb]at hst
       have HBB:=Lib.hid hbb
       have HST:=Lib.hid hst
       clear hbb hst
       have d3':=fun q os=>cell_regrown d3 q os
       have e3':=fun q os=>cell_regrown e3 q os
       have g0':=fun q os=>cell_regrown g0 q os
       have g1':=fun q os=>cell_regrown g1 q os
       have g2':=fun q os=>cell_regrown g2 q os
       have g3':=fun q os=>cell_regrown g3 q os
       have g4':=fun q os=>cell_regrown g4 q os
       have g5':=fun q os=>cell_regrown g5 q os
       have f0':=fun q os=>cell_regrown f0 q os
       have f1':=fun q os=>cell_regrown f1 q os
       have f2':=fun q os=>cell_regrown f2 q os
       have f3':=fun q os=>cell_regrown f3 q os
       have f4':=fun q os=>cell_regrown f4 q os
       have f5':=fun q os=>cell_regrown f5 q os
       have cQ:=fun q os=>regrown_new (v:=.bool bb) ((HC.out _ (new_regrown wr q os)).mono fun e w' h=>⟨by rw [HBB.out];exact h.1,h.2⟩)
       go_wp2_with fail
       refine wp_region_quiet_below (by kernel_rfl) (by kernel_rfl) ?_
       repeat (go_big_quiet_step (first | exact cQ _ _))
       refine wpQuiet_nil ?_
       intro _ hw'
       obtain⟨⟨dq,osq⟩,hw''⟩:=hw'
       subst hw''
       have kr4:=new_regrown wr dq osq
       have hb14:=kr4.blk hb1 trivial
       have hb24:=kr4.blk hb2 trivial
       have kr5:=kr.trans kr4
       cases bb
       ·go_wp2
        go_ret
        refine⟨?_,kr5⟩
        rw [HF.out,SM.out,HST.out]
        rfl
       ·go_wp2
        go_roundg kk
        case measure=>omega
        case rel=>
         refine⟨j+1,by omega,congrArg _ (by omega),kr5,hb14,hb24,?_⟩
         rw [SM.out,HST.out,Bool.true_and]
    ·exact loose_map N IH n n' t t' ks ks' o o' m A1 A2 A3 A4 c1 c2 c3 c4 w hn hn' HK HK' NA NB hNk hmb M1 M3 (hfin2 rfl)
end Go.Proofs.YtfoegolfadhmjaaGreatDoor
namespace Go.Proofs.YtfoegolfadhmjaaGreatDoor
open Go.RowKit Go.WideShapes Go.Sort
inductive Tidy:List V→Prop where
 | nil:Tidy []
 | cons {k:Int} {n:Nat} {t:List UInt8} {ks vs:List V} {o:Int} (h1:k<21→ks=[]) (hk:Tidy ks) (hs:Tidy vs):Tidy (.mk k n t ks o []::vs)
theorem Tidy.inv{v:V}(h:Tidy [v]):∃k n t ks o,v=.mk k n t ks o []∧(k<21→ks=[])∧Tidy ks:=by
 cases h with
 | cons h1 hk _=>exact⟨_,_,_,_,_,rfl,h1,hk⟩
theorem Tidy.get{l:List V}(h:Tidy l):∀(j:Nat) (hj:j<l.length),Tidy [l[j]]:=by
 induction h with
 | nil=>intro j hj;simp at hj
 | cons h1 hk hs _ ih=>
   intro j hj
   cases j with
   | zero=>exact .cons h1 hk .nil
   | succ j=>exact ih j (by simpa using hj)
theorem usual_tidy{k:Int}{n:Nat}{t:List UInt8}{ks:List V}{o:Int}(h2:k=23→∀v,ks=[v]→v.kind≠20)(hk:k≠20):usualV (.mk k n t ks o [])=.mk k n t (usualVs ks) o []:=by
 by_cases h23:k=23
 ·subst h23
  match ks,h2 with
  | [],_=>simp [usualV,usualVs]
  | [.mk k' n' t' ks' o' ds'],h2=>
    have:=h2 rfl _ rfl
    have h':¬k'=20:=this
    simp [usualV,h']
  | a::b::r,_=>simp [usualV]
 ·have:(k==23)=false:=by simpa using h23
  simp only [usualV,this]
  rw [if_neg hk,if_neg (by simp)]
theorem usualVs_take_succ(l:List V)(j:Nat)(hj:j<l.length):usualVs (l.take (j+1))=usualVs (l.take j)++[usualV l[j]]:=by
 rw [usualVs_map,usualVs_map,List.map_take,List.map_take,←List.take_append_getElem (by simpa using hj)]
 simp
theorem LM.empty{w w':World}{s:Value}(h:LM w [] s):LM w' [] s:=by
 obtain⟨cells,⟨A,c,hs,h1,h2,h3,_⟩,_⟩:=h
 exact⟨[],⟨A,c,hs,h1,h2,rfl,fun h=>absurd rfl h⟩,.nil⟩
theorem usual_sym(n:Nat)(t:List UInt8)(o:Int)(w:World)(x:Value)(hx:VM w (.mk 20 n t [] o []) x):
 Calls Tryz.prog 138 #[x] w fun e w'=>∃y,e=.returned y∧New w w'∧Dep (fun b=>w.heap.size≤b) w' (fun w=>VM w (usualV (.mk 20 n t [] o [])) y):=by
 obtain⟨sk,sd,rfl,hn,hks,hds⟩:=hx.inv
 have HDS:=Lib.hid hds
 obtain⟨A1,c1,rfl,-,-⟩:=hks.shape
 obtain⟨A2,c2,rfl,-,-⟩:=hds.shape
 clear hks hds hx
 simp only [List.length_nil]at HDS ⊢
 go_enter Tryz.func138,Tryz.ntmps138
 go_wp2_with fail
 go_loopg [42] 0 (fun m s42 wr=>s42=.int .i64 0∧New w wr∧wr.heap[w.heap.size]? =some (.cells #[.int .i64 20,.int .u64 (n:Int),.string ⟨t.toArray⟩,.slice A1 0 c1,.int .i64 o,.slice A2 0 c2] 78 (0,0))∧
  wr.heap[w.heap.size+1]? =some (.cells #[.int .i64 0,.int .u64 0,.string ⟨#[]⟩,.slice none 0 0,.int .i64 0,.slice none 0 0] 78 (0,0))∧wr.heap[w.heap.size+2]? =some (.cells #[.int .i64 19,.int .u64 0,.string ⟨t.toArray⟩,.slice none 0 0,.int .i64 0,.slice A2 0 c2] 78 (0,0)))
 case atStart=>
  refine⟨rfl,((((Keep.refl _ w).alloc _).alloc _).alloc _),blk_alloc (blk_alloc (blk_new w _) _) _,?_,?_⟩
  ·exact blk_alloc (by simpa using blk_new (w.alloc (.cells #[.int .i64 20,.int .u64 (n:Int),.string ⟨t.toArray⟩,.slice A1 0 c1,.int .i64 o,.slice A2 0 c2] 78)) (.cells #[.int .i64 0,.int .u64 0,.string ⟨#[]⟩,.slice none 0 0,.int .i64 0,.slice none 0 0] 78)) _
  ·simpa using blk_new ((w.alloc (.cells #[.int .i64 20,.int .u64 (n:Int),.string ⟨t.toArray⟩,.slice A1 0 c1,.int .i64 o,.slice A2 0 c2] 78)).alloc (.cells #[.int .i64 0,.int .u64 0,.string ⟨#[]⟩,.slice none 0 0,.int .i64 0,.slice none 0 0] 78)) (.cells #[.int .i64 19,.int .u64 0,.string ⟨t.toArray⟩,.slice none 0 0,.int .i64 0,.slice A2 0 c2] 78)
 case round=>
  obtain⟨rfl,kr,h0,h1,h2⟩:=hrel
  have a0:=(blk_cell h0 0).trans rfl
  have a5:=(blk_cell h0 5).trans rfl
  have x0:=(blk_cell h1 0).trans rfl
  have x1:=(blk_cell h1 1).trans rfl
  have x2:=(blk_cell h1 2).trans rfl
  have x3:=(blk_cell h1 3).trans rfl
  have x4:=(blk_cell h1 4).trans rfl
  have x5:=(blk_cell h1 5).trans rfl
  have f0:=blk_free h1 0
  have f1:=blk_free h1 1
  have f2:=blk_free h1 2
  have f3:=blk_free h1 3
  have f4:=blk_free h1 4
  have f5:=blk_free h1 5
  have y0:=(blk_cell h2 0).trans rfl
  have y1:=(blk_cell h2 1).trans rfl
  have y2:=(blk_cell h2 2).trans rfl
  have y3:=(blk_cell h2 3).trans rfl
  have y4:=(blk_cell h2 4).trans rfl
  have y5:=(blk_cell h2 5).trans rfl
  clear h0 h1 h2
  go_wp2
  refine bodyPost_ret (v:=.agg #[.int .i64 19,.int .u64 0,.string ⟨t.toArray⟩,.slice none 0 0,.int .i64 0,.slice A2 0 c2]) (by simp [results,Tryz.results138,go_sem,x0,x1,x2,x3,x4,x5]) rfl ⟨_,rfl,?_,?_⟩
  ·repeat (refine Keep.setCell ?_ (Or.inl (b:=¬True) (Nat.le_succ _)) _)
   exact kr
  ·intro w2 _
   exact VM.mk (t:=t) (by omega) LM.nil HDS.out.empty
theorem usual_one(n n':Nat)(t t':List UInt8)(ks' ds':List V)(o o':Int)(w:World)(x:Value)(hx:VM w (.mk 23 n t [.mk 20 n' t' ks' o' ds'] o []) x):
 Calls Tryz.prog 138 #[x] w fun e w'=>∃y,e=.returned y∧New w w'∧Dep (fun b=>w.heap.size≤b) w' (fun w=>VM w (usualV (.mk 23 n t [.mk 20 n' t' ks' o' ds'] o [])) y):=by
 obtain⟨sk,sd,rfl,hn,hks,hds⟩:=hx.inv
 obtain⟨A1,c1,rfl,-,-⟩:=hks.shape
 obtain⟨A2,c2,rfl,-,-⟩:=hds.shape
 obtain⟨d,i,rfl,-,-,-,hat⟩:=hks.at2 (by simp)
 obtain⟨a0,a1,a2,a3,a4,a5,hva,g0,g1,g2,g3,g4,g5⟩:=hat 0 (by simp)
 obtain⟨sk',sd',he,-,-,-⟩:=VM.inv hva
 simp only [Value.agg.injEq,Array.mk.injEq,List.cons.injEq,and_true]at he
 obtain⟨rfl,rfl,rfl,rfl,rfl,rfl⟩:=he
 simp only [Nat.zero_mul,Nat.add_zero]at g0 g2
 have g0A:=fun o1 o2 o3=>cell_alloc (cell_alloc (cell_alloc g0 o1) o2) o3
 have g2A:=fun o1 o2 o3=>cell_alloc (cell_alloc (cell_alloc g2 o1) o2) o3
 have g2B:=fun o1 o2 o3 o4=>cell_alloc (cell_alloc (cell_alloc (cell_alloc g2 o1) o2) o3) o4
 clear hks hds hx hat hva g0 g1 g2 g3 g4 g5
 go_enter Tryz.func138,Tryz.ntmps138
 go_wp2
 refine bodyPost_ret (v:=.agg #[.int .i64 19,.int .u64 0,.string ⟨t'.toArray⟩,.slice none 0 0,.int .i64 0,.slice none 0 0]) (by simp [results,Tryz.results138,go_sem]) rfl ⟨_,rfl,?_,?_⟩
 ·exact(((Keep.refl _ w).alloc _).alloc _).alloc _
 ·have e:usualV (.mk 23 n t [.mk 20 n' t' ks' o' ds'] o [])=.mk 19 0 t' [] 0 []:=by simp [usualV]
  rw [e]
  exact fun w2 _=>VM.mk (by omega) LM.nil LM.nil
end Go.Proofs.YtfoegolfadhmjaaGreatDoor
namespace Go.Proofs.YtfoegolfadhmjaaGreatDoor
open Go.RowKit Go.WideShapes
theorem EncW.toV{l:List V}{b:List UInt8}(h:EncW l b):(∀v∈l,v.desc=[])→EncV l b:=by
 induction h with
 | nil=>intro _;exact .nil
 | plain h hs ih=>intro hd;exact h.append (ih fun v hv=>hd v (List.mem_cons_of_mem _ hv))
 | comp0 hd' hs ih=>intro hd;exact absurd (hd _ (List.mem_cons_self ..)) (by simp [V.desc])
 | comp hd' hk hh hm hs _ ih=>intro hd;exact absurd (hd _ (List.mem_cons_self ..)) (by simp [V.desc])
theorem AbleL.noDesc{l:List V}(h:AbleL l):∀v∈l,v.desc=[]:=by
 induction h with
 | nil=>intro v hv;simp at hv
 | leaf h hs ih=>
   intro v hv
   rcases List.mem_cons.1 hv with rfl | hv
   ·cases h<;>rfl
   ·exact ih v hv
 | list hk hm hs _ ih=>exact fun v hv=>(List.mem_cons.1 hv).elim (fun e=>e▸rfl) (ih v)
 | map hk hm ok hs _ ih=>exact fun v hv=>(List.mem_cons.1 hv).elim (fun e=>e▸rfl) (ih v)
 | arr hk hm hne hs ih=>exact fun v hv=>(List.mem_cons.1 hv).elim (fun e=>e▸rfl) (ih v)
theorem AbleL.toW{l:List V}(h:AbleL l):AbleW l:=by
 have:=AbleL.mem.1 h
 clear h
 induction l with
 | nil=>exact .nil
 | cons v l ih=>exact .plain (this v (List.mem_cons_self ..)) (ih fun u hu=>this u (List.mem_cons_of_mem _ hu))
def listP(kids:List V)(body:List UInt8):List (UInt8×List UInt8):=(if kids=[]then [(69,[])]else [])++lngc 192 208 body kids.length
theorem listP_enc{kids:List V}{body:List UInt8}{o:Int}(hk:EncV kids body)(hm:kids.length≤1000)(hl:body.length+4<4294967296):∀p∈listP kids body,EncV [.mk 21 0 [] kids o []] (p.1::p.2):=by
 intro p hp
 have hp':=List.mem_append.1 hp
 clear hp
 rcases hp' with hp | hp
 ·split at hp
  ·rename_i e
   subst e
   obtain rfl:=List.mem_singleton.1 hp
   exact .list0 .nil
  ·simp at hp
 ·obtain⟨h,e,hh⟩:=lngc_hd _ _ _ _ hl (by omega) p hp
  have:=EncV.list (o:=o) hk hh hm .nil
  rw [List.append_nil,←e]at this
  exact this
theorem mapP_enc{ps:List (V×V)}{body:List UInt8}{o:Int}(hk:EncV (flat2 ps) body)(hm:2*ps.length≤1000)(ok:MapOk ps)(hl:body.length+4<4294967296):∀p∈lngc 193 209 body (flat2 ps).length,EncV [.mk 22 0 [] (flat2 ps) o []] (p.1::p.2):=by
 intro p hp
 rw [flat2_len]at hp
 obtain⟨h,e,hh⟩:=lngc_hd _ _ _ _ hl (by omega) p hp
 have:=EncV.map (o:=o) hk hh hm ok .nil
 rw [List.append_nil,←e]at this
 exact this
theorem arrP_enc{ks:List V}{code:UInt8}{data:List UInt8}{o:Int}(hk:EncA ks code data)(hm:ks.length≤1000)(hne:ks≠[])(hl:data.length+5<4294967296):∀p∈lngc 224 240 (code::data) ks.length,EncV [.mk 23 0 [] ks o []] (p.1::p.2):=by
 intro p hp
 obtain⟨h,e,hh⟩:=lngc_hd _ _ _ _ (by simp;omega) (by omega) p hp
 have:=EncV.arr (o:=o) hk hh hm hne .nil
 rw [List.append_nil,←e]at this
 exact this
theorem compP_enc{kids:List V}{body d:List UInt8}{o od:Int}{c:Nat}(hd:Leaf (.mk 5 c [] [] od []) d)(hk:EncW kids body)(hm:kids.length≤1000)(hl:body.length+4<4294967296):∀p∈listP kids body,EncW [.mk 21 0 [] kids o [.mk 5 c [] [] od []]] (0::(d++(p.1::p.2))):=by
 intro p hp
 have hp':=List.mem_append.1 hp
 clear hp
 rcases hp' with hp | hp
 ·split at hp
  ·rename_i e
   subst e
   obtain rfl:=List.mem_singleton.1 hp
   have:=EncW.comp0 (o:=o) hd .nil
   rw [List.append_nil]at this
   exact this
  ·simp at hp
 ·obtain⟨h,e,hh⟩:=lngc_hd _ _ _ _ hl (by omega) p hp
  have:=EncW.comp (o:=o) hd hk hh hm .nil
  rw [List.append_nil,←e]at this
  exact this
theorem Tidy.of_leafs:∀{l:List V},(∀v∈l,LeafOk v)→Tidy l
 | [],_=>.nil
 | v::l,h=>by
   have h1:=h v (List.mem_cons_self ..)
   have h2:=Tidy.of_leafs fun u hu=>h u (List.mem_cons_of_mem _ hu)
   cases h1<;>exact .cons (fun _=>rfl) .nil h2
theorem AbleL.tidy{l:List V}(h:AbleL l):Tidy l:=by
 induction h with
 | nil=>exact .nil
 | leaf h hs ih=>cases h<;>exact .cons (fun _=>rfl) .nil ih
 | list hk hm hs ih1 ih2=>exact .cons (fun h=>absurd h (by omega)) ih1 ih2
 | map hk hm ok hs ih1 ih2=>exact .cons (fun h=>absurd h (by omega)) ih1 ih2
 | arr hk hm hne hs ih=>exact .cons (fun h=>absurd h (by omega)) (Tidy.of_leafs fun v hv=>(hk.all v hv).2.1) ih
theorem Sims.tidy{l m:List V}(h:Sims l m):Tidy m:=by
 induction h with
 | nil=>exact .nil
 | leaf hk hk' h0 hs ih=>exact .cons (fun _=>rfl) .nil ih
 | list hk hs ih1 ih2=>exact .cons (fun h=>absurd h (by omega)) ih1 ih2
 | map hp h1 hk hs ih1 ih2=>exact .cons (fun h=>absurd h (by omega)) ih1 ih2
 | arr hk h1 hsk hs ih1 ih2=>exact .cons (fun h=>absurd h (by omega)) ih1 ih2
theorem Tidy.noD{l:List V}(h:Tidy l):NoD l:=by
 induction h with
 | nil=>exact .nil
 | cons h1 hk hs ih1 ih2=>exact .cons ih1 ih2
theorem NoD.mem{l:List V}:(∀v∈l,NoD [v])→NoD l:=by
 induction l with
 | nil=>intro _;exact .nil
 | cons v l ih=>
   intro h
   have h1:=h v (List.mem_cons_self ..)
   cases h1 with
   | cons hk _=>exact .cons hk (ih fun u hu=>h u (List.mem_cons_of_mem _ hu))
theorem NoD.usual(N:Nat):∀v,cnt v≤N→NoD [v]→NoD [usualV v]:=by
 induction N with
 | zero=>intro v h;obtain⟨k,n,t,ks,o,ds⟩:=v;simp [cnt]at h
 | succ N ih=>
   intro v hN h
   obtain⟨k,n,t,ks,o,rfl,hk⟩:=h.inv
   ·have hall:∀u∈ks,NoD [u]:=by
     intro u hu
     obtain⟨j,hj,rfl⟩:=List.mem_iff_getElem.1 hu
     exact hk.get j hj
    have hU:NoD (usualVs ks):=by
     rw [usualVs_map]
     refine NoD.mem fun u hu=>?_
     obtain⟨u0,h0,rfl⟩:=List.mem_map.1 hu
     obtain⟨j,hj,rfl⟩:=List.mem_iff_getElem.1 h0
     have:=cnts_get ks j hj
     simp only [cnt]at hN
     exact ih _ (by omega) (hall _ (List.getElem_mem hj))
    unfold usualV
    split
    ·split
     ·exact .cons .nil .nil
     ·exact .cons hU .nil
    ·split
     ·exact .cons hU .nil
     ·rw [if_neg (by simp)]
      exact .cons hU .nil
theorem cnt_usual(N:Nat):∀v,cnt v≤N→cnt (usualV v)≤cnt v:=by
 have trim:∀l:List V,cnts (trimR l)≤cnts l:=by
  intro l
  induction l with
  | nil=>simp [trimR]
  | cons a l ih=>
    unfold trimR
    split
    ·rename_i h
     split
     ·simp [cnts]
     ·rename_i h2
      simp only [cnts]
      omega
    ·rename_i u s h
     rw [h]at ih
     simp only [cnts]at ih ⊢
     omega
 induction N with
 | zero=>intro v h;obtain⟨k,n,t,ks,o,ds⟩:=v;simp [cnt]at h
 | succ N ih=>
   intro v hN
   obtain⟨k,n,t,ks,o,ds⟩:=v
   have hU:∀l:List V,cnts l≤N→cnts (usualVs l)≤cnts l:=by
    intro l
    induction l with
    | nil=>simp [usualVs]
    | cons a l ihl=>
      intro hl
      simp only [cnts,usualVs]at hl ⊢
      have:=ih a (by omega)
      have:=ihl (by omega)
      omega
   simp only [cnt]at hN
   have hk:=hU ks (by omega)
   have ht:=trim (usualVs ks)
   unfold usualV
   split
   ·rename_i k' n' t' ks' o' ds' us _ h
    split
    ·simp only [cnt,cnts];omega
    ·simp only [cnt]at hk ⊢;omega
   ·rename_i us h1 h2
    split
    ·simp only [cnt]at hk ⊢;omega
    ·split
     ·simp only [cnt]at hk ⊢;omega
     ·simp only [cnt]at hk ⊢;omega
end Go.Proofs.YtfoegolfadhmjaaGreatDoor
namespace Go.Proofs.YtfoegolfadhmjaaGreatDoor
open Go.RowKit Go.WideShapes
theorem beB_get:∀(s u j:Nat) (hj:j<(beB s u).length),(beB s u)[j]=UInt8.ofNat (u/256 ^ (s-1-j) % 256)
 | 0,u,j,hj=>by simp [beB]at hj
 | s+1,u,0,hj=>by simp [beB]
 | s+1,u,j+1,hj=>by
   have h:j<(beB s u).length:=by simpa [beB]using hj
   simp only [beB,List.getElem_cons_succ]
   rw [beB_get s u j h]
   congr 4
   omega
theorem byte_of(u k:Nat):((UInt8.ofNat (u/256 ^ k % 256)).toNat:Int)=(u:Int)/2 ^ (8*k) % 256:=by
 obtain⟨p,hp⟩:∃p:Nat,p=2 ^ (8*k):=⟨_,rfl⟩
 have e:(256:Nat) ^ k=p:=by rw [hp,show(256:Nat)=2 ^ 8 by rfl,←Nat.pow_mul]
 have h:(UInt8.ofNat (u/256 ^ k % 256)).toNat=u/256 ^ k % 256:=by
  have:=Nat.mod_lt (u/256 ^ k) (show 0<256 by omega)
  generalize u/256 ^ k % 256=x at this
  show(UInt8.ofNat x).toNat=x
  rw [UInt8.toNat_ofNat']
  exact Nat.mod_eq_of_lt this
 have e2:(2:Int) ^ (8*k)=(p:Int):=by rw [hp,Int.natCast_pow];rfl
 rw [h,e,e2,Int.natCast_emod,Int.natCast_ediv]
 rfl
theorem take_succ_get{l:List UInt8}(j:Nat)(hj:j<l.length):l.take (j+1)=l.take j++[l[j]]:=by
 rw [List.take_append_getElem hj]
theorem one_byte(w:World)(x:UInt8):SlB (w.alloc (.cells #[.int .u8 (x.toNat:Int)] 5)) (.slice (some ⟨w.heap.size,0,none⟩) 1 1) [x]:=
 ⟨_,1,rfl,Nat.le_refl _,by omega,fun _=>⟨w.heap.size,0,rfl,_,blk_new _ _,fun j hj=>by
   obtain rfl:j=0:=by simpa using hj
   rfl⟩⟩
theorem big_is(u s:Nat)(hu:u<18446744073709551616)(hs:s≤8)(w:World):
 Calls Tryz.prog 133 #[.int .u64 (u:Int),.int .i64 (s:Int)] w fun e w'=>∃v,e=.returned v∧New w w'∧RowB w' w.heap.size v (beB s u):=by
 go_enter Tryz.func133,Tryz.ntmps133
 go_wp2_with fail
 go_loopg [5,6] s (fun kk s5 s6 wr=>∃j:Nat,j+kk=s∧s6=.int .i64 ((s:Int)-1-j)∧New w wr∧RowB wr w.heap.size s5 ((beB s u).take j))
 case atStart=>exact⟨0,by omega,by simp,Keep.refl _ _,RowB.nil⟩
 case round=>
  obtain⟨j,hj,rfl,kr,hrow⟩:=hrel
  obtain⟨A,c,rfl⟩:=hrow.shape
  have hl:((beB s u).take j).length=j:=by rw [List.length_take,beB_len];omega
  rw [hl]at hrow ⊢
  have HR:=Lib.hid hrow
  have HL:=Lib.hid hl
  clear hrow hl
  rcases gk with _ | kk
  ·obtain rfl:j=s:=by omega
   go_wp2
   go_ret
   refine⟨_,rfl,kr,?_⟩
   have:=HR.out
   rwa [List.take_of_length_le (by rw [beB_len];omega)]at this
  ·have hjs:j<s:=by omega
   have tj:decide ((j:Int)≤(s:Int)-1)=true:=by simp;omega
   have hjl:j<(beB s u).length:=by rw [beB_len];exact hjs
   have hx:=beB_get s u j hjl
   have hb:=byte_of u (s-1-j)
   rw [←hx]at hb
   have kA:=(Keep.refl (fun _=>True) wr).alloc (.cells #[.int .u8 (((beB s u)[j]).toNat:Int)] 5)
   have hsz:=kr.size
   obtain⟨sk',w5,hap,hrow5,k5,_⟩:=(HR.out.keep kA (fun _ _=>trivial)).app (one_byte wr (beB s u)[j]) (by rw [HL.out];simp;omega) (by simp;omega)
   rw [hb]at hap kA k5
   have hfar:=HR.out.far
   have HAP:=Lib.hid hap
   have KA:=Lib.hid kA
   clear hap hx hb kA
   go_wp2_with (at_builtin;refine wpList_append_eq rfl _ _ 27 rfl _ _ _ _ rfl rfl HAP.out ?_)
   go_roundg kk
   case measure=>omega
   case rel=>
    refine⟨j+1,by omega,?_,(kr.trans KA.out).then k5 (fun i hi _=>hfar i hi),?_⟩
    ·congr 1
     omega
    ·rw [take_succ_get j hjl]
     exact hrow5
end Go.Proofs.YtfoegolfadhmjaaGreatDoor
namespace Go.Proofs.YtfoegolfadhmjaaGreatDoor
open Go.RowKit Go.WideShapes
theorem info143:(Tryz.prog.info? 143).map (fun i=>(i.zero,i.size,i.bytes))=some (some (.agg #[.int .i64 0,.slice none 0 0]),2,32):=by kernel_rfl
theorem piece_made(w:World)(N s:Nat)(hN:N<18446744073709551616)(hs:s≤8)(head l:List UInt8)(vh vl:Value)(hh:SlC w vh head)(hl:SlC w vl l)(hlen:head.length+l.length≤1073741824):
 Calls Tryz.prog 133 #[.int .u64 (N:Int),.int .i64 (s:Int)] w fun e w4=>∃v4 v5 w5 v6 w6,e=.returned v4∧New w w4∧
  (Builtin.append_ #[27,27] 27 #[v4,vh]).run Tryz.prog w4=.ok v5 w5∧New w w5∧(Builtin.append_ #[27,27] 27 #[v5,vl]).run Tryz.prog w5=.ok v6 w6∧New w w6∧RowB w6 w.heap.size v6 (beB s N++head++l):=by
 refine(big_is N s hN hs w).mono ?_
 rintro e w4 ⟨v4,rfl,k4,hrow4⟩
 have h4:=hrow4
 obtain⟨v5,w5,hr5,hrow5,k5,_⟩:=hrow4.appC (hh.keep k4) (by rw [beB_len];omega) k4.size
 have k05:=k4.then k5 (fun i hi _=>h4.far i hi)
 have h5:=hrow5
 obtain⟨v6,w6,hr6,hrow6,k6,_⟩:=hrow5.appC (hl.keep k05) (by simp [beB_len];omega) k05.size
 exact⟨v4,v5,w5,v6,w6,rfl,k4,hr5,k05,hr6,k05.then k6 (fun i hi _=>h5.far i hi),hrow6⟩
theorem lengthed_t(c8 c32:UInt8)(v:Value)(l:List UInt8)(w:World)(hv:SlC w v l)(hl:l.length≤1000000000):
 Calls Tryz.prog 83 #[.int .i64 (c8.toNat:Int),.int .i64 (c32.toNat:Int),v,(.int .i64 (-1))] w fun e w'=>∃sl,e=.returned sl∧New w w'∧RowG 143 2 Pcs w' w.heap.size sl (lng c8 c32 l):=by
 have HV:=Lib.hid hv
 obtain⟨A,c,rfl,-⟩:=hv
 obtain⟨N,hN⟩:∃N,N=l.length:=⟨_,rfl⟩
 have HN:=Lib.hid hN
 rw [←hN]at HV hl ⊢
 clear hN
 go_enter Tryz.func83,Tryz.ntmps83
 go_wp2_with fail
 go_loopg [9,20] 2 (fun kk s9 s20 wr=>New w wr∧wr.heap[w.heap.size]? =some (.cells #[.int .i64 (c8.toNat:Int),.int .i64 1,.int .i64 (c32.toNat:Int),.int .i64 4] 296 (0,0))∧((kk=2∧s20=.int .i64 0∧RowG 143 2 Pcs wr (w.heap.size+1) s9 [])∨(kk=1∧s20=.int .i64 1∧RowG 143 2 Pcs wr (w.heap.size+1) s9 (if l.length≤255 then [(c8,beB 1 l.length++l)]else []))∨(kk=0∧s20=.int .i64 2∧RowG 143 2 Pcs wr (w.heap.size+1) s9 (lng c8 c32 l))))
 case atStart=>exact⟨(Keep.refl _ w).alloc _,blk_new w _,.inl ⟨rfl,rfl,RowG.nil pieceCells⟩⟩
 case round=>
  obtain⟨kr,hfm,hst⟩:=hrel
  rcases hst with⟨rfl,rfl,hrow⟩ | ⟨rfl,rfl,hrow⟩ | ⟨rfl,rfl,hrow⟩
  ·obtain⟨A9,c9,hs9⟩:=hrow.shape
   subst hs9
   obtain⟨us,hus⟩:∃us,us=([]:List (UInt8×List UInt8)):=⟨_,rfl⟩
   rw [←hus]at hrow ⊢
   have HUS:=Lib.hid hus
   have hul:us.length≤1:=by rw [hus];simp
   clear hus
   have g0:=(blk_cell hfm 0).trans rfl
   have g1:=(blk_cell hfm 1).trans rfl
   have HROW:=Lib.hid hrow
   have HFM:=Lib.hid hfm
   have hsz:=kr.size
   have hszw:=lt_blk hfm
   have hownlt:=Lib.hid (fun g (hg:Value.ownBlock (.slice A9 us.length c9)=some g)=>hrow.ownLt hg)
   clear hrow hfm
   have kA:=((Keep.refl (fun _=>True) wr).alloc (.cells #[.int .i64 (c8.toNat:Int),.int .i64 1] 296)).alloc (.cells #[] 5)
   have hF:=blk_alloc (blk_new wr (.cells #[.int .i64 (c8.toNat:Int),.int .i64 1] 296)) (.cells #[] 5)
   have hE:=blk_new (wr.alloc (.cells #[.int .i64 (c8.toNat:Int),.int .i64 1] 296)) (.cells #[] 5)
   rw [World.size_alloc]at hE
   have x0:=(blk_cell hF 0).trans rfl
   have x1:=(blk_cell hF 1).trans rfl
   have HEmp:Hid (SlC ((wr.alloc (.cells #[.int .i64 (c8.toNat:Int),.int .i64 1] 296)).alloc (.cells #[] 5)) (.slice (some ⟨wr.heap.size+1,0,none⟩) 0 0) []):=Lib.hid ⟨_,0,rfl,Nat.le_refl _,by omega,fun h=>absurd rfl h⟩
   by_cases hc:N≤255
   case neg=>
    have t1:decide ((255:Int)<(N:Int))=true:=by simp;omega
    go_wp2
    go_roundg 1
    case measure=>omega
    case rel=>
     refine⟨kr.trans kA,kA.blk HFM.out trivial,.inr (.inl ⟨rfl,rfl,?_⟩)⟩
     rw [if_neg (by rw [←HN.out];omega)]
     have:=HROW.out.keep kA (fun _ _=>trivial)
     exact Eq.mp (congrArg (fun z=>RowG 143 2 Pcs _ (w.heap.size+1) (.slice A9 us.length c9) z) HUS.out) this
   have t1:decide ((255:Int)<(N:Int))=false:=by simp;omega
   have hu:=u64n (n:=N) (by omega)
   have hpm:=piece_made ((wr.alloc (.cells #[.int .i64 (c8.toNat:Int),.int .i64 1] 296)).alloc (.cells #[] 5)).drew N 1 (by omega) (by omega) [] l _ _ (HEmp.out.keep ((Keep.refl _ _).drew)) (((HV.out.keep (kr.trans kA)).keep ((Keep.refl _ _).drew))) (by have:=HN.out;simp;omega)
   have kW:=kA.drew
   have HPM:=Lib.hid hpm
   have KW:=Lib.hid kW
   clear hpm kW
   go_wp2_with fail
   go_region_law (first
    | (go_simp;go_at_call 133;refine HPM.out.mono ?_;rintro e w4 ⟨v4,v5,w5,v6,w6,rfl,k4,hr5,k5,hr6,k6,hrow6⟩;have y4:=k4.cell (show(((wr.alloc (.cells #[.int .i64 (c8.toNat:Int),.int .i64 1] 296)).alloc (.cells #[] 5)).drew).cell? _=_ from x0) trivial;have y5:=k5.cell (show(((wr.alloc (.cells #[.int .i64 (c8.toNat:Int),.int .i64 1] 296)).alloc (.cells #[] 5)).drew).cell? _=_ from x0) trivial;have y6:=k6.cell (show(((wr.alloc (.cells #[.int .i64 (c8.toNat:Int),.int .i64 1] 296)).alloc (.cells #[] 5)).drew).cell? _=_ from x0) trivial;obtain⟨A6,n6,c6,hs6⟩:∃A n c,v6=.slice A n c:=(let ⟨A,c,e⟩:=hrow6.shape;⟨A,_,c,e⟩);subst hs6;have y7:=cell_alloc y6 (.cells #[.int .i64 (c8.toNat:Int),(.slice A6 n6 c6)] 143);have kN:=(Keep.refl (fun _=>True) w6).alloc (.cells #[.int .i64 (c8.toNat:Int),(.slice A6 n6 c6)] 143);obtain⟨g7,cap7,w7,hap7,hrow7,k7,_⟩:=((HROW.out.keep (KW.out.trans k6) (fun _ _=>trivial)).keep kN (fun _ _=>trivial)).step pieceCells (vs:=[(c8,beB 1 (N)++[]++l)]) Tryz.underlying140 info143 rfl (by omega) (by omega) w6.heap.size 0 1 [.int .i64 (c8.toNat:Int),(.slice A6 n6 c6)] (fun q z hq=>by rw [blk_cell (blk_new w6 (.cells #[.int .i64 (c8.toNat:Int),(.slice A6 n6 c6)] 143)),Nat.zero_add];simpa using hq) ((hrow6.out.step kN.size (fun i hi _=>kN.block i hi trivial) (fun b hb hok=>⟨Nat.le_trans (Nat.le_trans hszw (KW.out.size)) hok,fun e=>Nat.lt_irrefl _ (Nat.lt_of_lt_of_le (hownlt.out b e.symm) (Nat.le_trans KW.out.size hok))⟩)).imp fun w h=>Pcs.cons h.toC .nil) (by simp) (by simp;omega) (Nat.le_trans (Nat.le_trans (Nat.le_trans hszw KW.out.size) k6.size) kN.size);simp only [List.length_singleton]at hap7 hrow7)
    | (refine at_dst 61 (by rfl) ?_;refine step_append_eq hr5 (by rfl) _ _ (by rfl) (by rfl) (by rfl) ?_)
    | (refine at_dst 63 (by rfl) ?_;refine step_append_eq hr6 (by rfl) _ _ (by rfl) (by rfl) (by rfl) ?_)
    | (refine at_dst 66 (by rfl) ?_;refine step_append_eq hap7 (by rfl) _ _ (by rfl) (by rfl) (by rfl) ?_))
   all_goals
    go_wp2
    go_roundg 1
    case measure=>omega
    case rel=>
     have kall:=(KW.out.trans k6).trans kN
     have hfar:=HROW.out.far
     have hE:us++[(c8,beB 1 (N)++[]++l)]=((if l.length≤255 then [(c8,beB 1 l.length++l)]else []):List (UInt8×List UInt8)):=by
      rw [HUS.out,HN.out,if_pos (by rw [←HN.out];omega)];simp
     refine⟨(kr.trans kall).then k7 (fun i hi _=>hfar i (by omega)),k7.blk (kall.blk HFM.out trivial) (hfar _ (by omega)),.inr (.inl ⟨rfl,rfl,?_⟩)⟩
     exact Eq.mp (congrArg (fun z=>RowG 143 2 Pcs w7 (w.heap.size+1) (.slice (some ⟨g7,0,none⟩) (us.length+1) cap7) z) hE) hrow7
  ·obtain⟨A9,c9,hs9⟩:=hrow.shape
   subst hs9
   obtain⟨us,hus⟩:∃us,us=((if l.length≤255 then [(c8,beB 1 l.length++l)]else []):List (UInt8×List UInt8)):=⟨_,rfl⟩
   rw [←hus]at hrow ⊢
   have HUS:=Lib.hid hus
   have hul:us.length≤1:=by rw [hus];split<;>simp
   clear hus
   have g0:=(blk_cell hfm 2).trans rfl
   have g1:=(blk_cell hfm 3).trans rfl
   have HROW:=Lib.hid hrow
   have HFM:=Lib.hid hfm
   have hsz:=kr.size
   have hszw:=lt_blk hfm
   have hownlt:=Lib.hid (fun g (hg:Value.ownBlock (.slice A9 us.length c9)=some g)=>hrow.ownLt hg)
   clear hrow hfm
   have kA:=((Keep.refl (fun _=>True) wr).alloc (.cells #[.int .i64 (c32.toNat:Int),.int .i64 4] 296)).alloc (.cells #[] 5)
   have hF:=blk_alloc (blk_new wr (.cells #[.int .i64 (c32.toNat:Int),.int .i64 4] 296)) (.cells #[] 5)
   have hE:=blk_new (wr.alloc (.cells #[.int .i64 (c32.toNat:Int),.int .i64 4] 296)) (.cells #[] 5)
   rw [World.size_alloc]at hE
   have x0:=(blk_cell hF 0).trans rfl
   have x1:=(blk_cell hF 1).trans rfl
   have HEmp:Hid (SlC ((wr.alloc (.cells #[.int .i64 (c32.toNat:Int),.int .i64 4] 296)).alloc (.cells #[] 5)) (.slice (some ⟨wr.heap.size+1,0,none⟩) 0 0) []):=Lib.hid ⟨_,0,rfl,Nat.le_refl _,by omega,fun h=>absurd rfl h⟩
   have hu:=u64n (n:=N) (by omega)
   have hpm:=piece_made ((wr.alloc (.cells #[.int .i64 (c32.toNat:Int),.int .i64 4] 296)).alloc (.cells #[] 5)).drew N 4 (by omega) (by omega) [] l _ _ (HEmp.out.keep ((Keep.refl _ _).drew)) (((HV.out.keep (kr.trans kA)).keep ((Keep.refl _ _).drew))) (by have:=HN.out;simp;omega)
   have kW:=kA.drew
   have HPM:=Lib.hid hpm
   have KW:=Lib.hid kW
   clear hpm kW
   go_wp2_with fail
   go_region_law (first
    | (go_simp;go_at_call 133;refine HPM.out.mono ?_;rintro e w4 ⟨v4,v5,w5,v6,w6,rfl,k4,hr5,k5,hr6,k6,hrow6⟩;have y4:=k4.cell (show(((wr.alloc (.cells #[.int .i64 (c32.toNat:Int),.int .i64 4] 296)).alloc (.cells #[] 5)).drew).cell? _=_ from x0) trivial;have y5:=k5.cell (show(((wr.alloc (.cells #[.int .i64 (c32.toNat:Int),.int .i64 4] 296)).alloc (.cells #[] 5)).drew).cell? _=_ from x0) trivial;have y6:=k6.cell (show(((wr.alloc (.cells #[.int .i64 (c32.toNat:Int),.int .i64 4] 296)).alloc (.cells #[] 5)).drew).cell? _=_ from x0) trivial;obtain⟨A6,n6,c6,hs6⟩:∃A n c,v6=.slice A n c:=(let ⟨A,c,e⟩:=hrow6.shape;⟨A,_,c,e⟩);subst hs6;have y7:=cell_alloc y6 (.cells #[.int .i64 (c32.toNat:Int),(.slice A6 n6 c6)] 143);have kN:=(Keep.refl (fun _=>True) w6).alloc (.cells #[.int .i64 (c32.toNat:Int),(.slice A6 n6 c6)] 143);obtain⟨g7,cap7,w7,hap7,hrow7,k7,_⟩:=((HROW.out.keep (KW.out.trans k6) (fun _ _=>trivial)).keep kN (fun _ _=>trivial)).step pieceCells (vs:=[(c32,beB 4 (N)++[]++l)]) Tryz.underlying140 info143 rfl (by omega) (by omega) w6.heap.size 0 1 [.int .i64 (c32.toNat:Int),(.slice A6 n6 c6)] (fun q z hq=>by rw [blk_cell (blk_new w6 (.cells #[.int .i64 (c32.toNat:Int),(.slice A6 n6 c6)] 143)),Nat.zero_add];simpa using hq) ((hrow6.out.step kN.size (fun i hi _=>kN.block i hi trivial) (fun b hb hok=>⟨Nat.le_trans (Nat.le_trans hszw (KW.out.size)) hok,fun e=>Nat.lt_irrefl _ (Nat.lt_of_lt_of_le (hownlt.out b e.symm) (Nat.le_trans KW.out.size hok))⟩)).imp fun w h=>Pcs.cons h.toC .nil) (by simp) (by simp;omega) (Nat.le_trans (Nat.le_trans (Nat.le_trans hszw KW.out.size) k6.size) kN.size);simp only [List.length_singleton]at hap7 hrow7)
    | (refine at_dst 61 (by rfl) ?_;refine step_append_eq hr5 (by rfl) _ _ (by rfl) (by rfl) (by rfl) ?_)
    | (refine at_dst 63 (by rfl) ?_;refine step_append_eq hr6 (by rfl) _ _ (by rfl) (by rfl) (by rfl) ?_)
    | (refine at_dst 66 (by rfl) ?_;refine step_append_eq hap7 (by rfl) _ _ (by rfl) (by rfl) (by rfl) ?_))
   all_goals
    go_wp2
    go_roundg 0
    case measure=>omega
    case rel=>
     have kall:=(KW.out.trans k6).trans kN
     have hfar:=HROW.out.far
     have hE:us++[(c32,beB 4 (N)++[]++l)]=(lng c8 c32 l:List (UInt8×List UInt8)):=by
      rw [HUS.out,HN.out];unfold lng;simp
     refine⟨(kr.trans kall).then k7 (fun i hi _=>hfar i (by omega)),k7.blk (kall.blk HFM.out trivial) (hfar _ (by omega)),.inr (.inr ⟨rfl,rfl,?_⟩)⟩
     exact Eq.mp (congrArg (fun z=>RowG 143 2 Pcs w7 (w.heap.size+1) (.slice (some ⟨g7,0,none⟩) (us.length+1) cap7) z) hE) hrow7
  ·obtain⟨A9,c9,hs9⟩:=hrow.shape
   subst hs9
   go_wp2
   go_ret
   exact⟨_,rfl,kr,hrow.mono (by omega)⟩
end Go.Proofs.YtfoegolfadhmjaaGreatDoor
