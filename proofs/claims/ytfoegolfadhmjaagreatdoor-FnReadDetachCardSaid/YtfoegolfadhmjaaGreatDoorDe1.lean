/- spec.truth, plainField, flag, inner, faults. spec.inner, faults. spec.DetachOf. spec.Known at errors, SameField at errors that are composite values. laws.zzFits14, askedFaults, askedDetach. -/
import Derived.Test.YtfoegolfadhmjaaGreatDoorU10
import Derived.Test.YtfoegolfadhmjaaGreatDoorV13
set_option linter.unusedVariables false
set_option linter.unusedSimpArgs false
set_option maxRecDepth 100000
set_option maxHeartbeats 16000000
set_option linter.all false
namespace Go.Proofs.YtfoegolfadhmjaaGreatDoor
open Go.RowKit Go.WideShapes
def bn(b:Bool):Nat:=if b then 1 else 0
theorem truth_is(b:Bool)(w:World):Calls Tryz.prog 60 #[.bool b] w fun e w'=>e=.returned (.int .u64 (bn b:Int))∧New w w':=by
 cases b
 all_goals
  go_enter Tryz.func60,Tryz.ntmps60
  go_wp2
  go_ret
  exact⟨rfl,Keep.refl _ _⟩
theorem plainField_is(k:Int)(n:Nat)(w:World):Calls Tryz.prog 59 #[.int .i64 k,.int .u64 (n:Int)] w fun e w'=>e=.returned (.agg #[.int .i64 k,.int .u64 (n:Int),.string ⟨#[]⟩,.slice none 0 0,.int .i64 0,.slice none 0 0,.int .i64 k,.int .u64 0,.string ⟨#[]⟩,.slice none 0 0,.int .i64 0,.slice none 0 0])∧New w w':=by
 have k0:=(Keep.refl (fun _=>True) w).alloc (.cells #[.int .i64 0,.int .u64 0,.string ⟨#[]⟩,.slice none 0 0,.int .i64 0,.slice none 0 0,.int .i64 0,.int .u64 0,.string ⟨#[]⟩,.slice none 0 0,.int .i64 0,.slice none 0 0] 81)
 have hb0:=blk_new w (.cells #[.int .i64 0,.int .u64 0,.string ⟨#[]⟩,.slice none 0 0,.int .i64 0,.slice none 0 0,.int .i64 0,.int .u64 0,.string ⟨#[]⟩,.slice none 0 0,.int .i64 0,.slice none 0 0] 81)
 go_enter Tryz.func59,Tryz.ntmps59
 go_wp2_with fail
 refine(ofNumber_is k n _).mono ?_
 rintro e w1 ⟨rfl,k1⟩
 have hb1:=k1.blk hb0 trivial
 go_wp2_with fail
 refine(ofNumber_is k 0 _).mono ?_
 rintro e w2 ⟨rfl,k2⟩
 have hb:=k2.blk hb1 trivial
 have z0:=(blk_cell hb 0).trans rfl
 have Fz0:=blk_free hb 0
 have z1:=(blk_cell hb 1).trans rfl
 have Fz1:=blk_free hb 1
 have z2:=(blk_cell hb 2).trans rfl
 have Fz2:=blk_free hb 2
 have z3:=(blk_cell hb 3).trans rfl
 have Fz3:=blk_free hb 3
 have z4:=(blk_cell hb 4).trans rfl
 have Fz4:=blk_free hb 4
 have z5:=(blk_cell hb 5).trans rfl
 have Fz5:=blk_free hb 5
 have z6:=(blk_cell hb 6).trans rfl
 have Fz6:=blk_free hb 6
 have z7:=(blk_cell hb 7).trans rfl
 have Fz7:=blk_free hb 7
 have z8:=(blk_cell hb 8).trans rfl
 have Fz8:=blk_free hb 8
 have z9:=(blk_cell hb 9).trans rfl
 have Fz9:=blk_free hb 9
 have z10:=(blk_cell hb 10).trans rfl
 have Fz10:=blk_free hb 10
 have z11:=(blk_cell hb 11).trans rfl
 have Fz11:=blk_free hb 11
 have kk:=(k0.trans k1).trans k2
 clear hb hb1 hb0
 go_wp2
 refine bodyPost_ret (v:=.agg #[.int .i64 k,.int .u64 (n:Int),.string ⟨#[]⟩,.slice none 0 0,.int .i64 0,.slice none 0 0,.int .i64 k,.int .u64 0,.string ⟨#[]⟩,.slice none 0 0,.int .i64 0,.slice none 0 0]) (by simp [results,Tryz.results59,go_sem,z0,z1,z2,z3,z4,z5,z6,z7,z8,z9,z10,z11]) rfl ⟨rfl,?_⟩
 repeat (refine Keep.setCell ?_ (Or.inl (b:=¬True) (by simp)) _)
 exact kk
theorem flag_is2(b:Bool)(w:World):Calls Tryz.prog 29 #[.bool b] w fun e w'=>e=.returned (.agg #[.int .i64 1,.int .u64 (bn b:Int),.string ⟨#[]⟩,.slice none 0 0,.int .i64 0,.slice none 0 0,.int .i64 1,.int .u64 0,.string ⟨#[]⟩,.slice none 0 0,.int .i64 0,.slice none 0 0])∧New w w':=by
 have k0:=(Keep.refl (fun _=>True) w).alloc (.cells #[.int .i64 0,.int .u64 0,.string ⟨#[]⟩,.slice none 0 0,.int .i64 0,.slice none 0 0,.int .i64 0,.int .u64 0,.string ⟨#[]⟩,.slice none 0 0,.int .i64 0,.slice none 0 0] 81)
 have hb0:=blk_new w (.cells #[.int .i64 0,.int .u64 0,.string ⟨#[]⟩,.slice none 0 0,.int .i64 0,.slice none 0 0,.int .i64 0,.int .u64 0,.string ⟨#[]⟩,.slice none 0 0,.int .i64 0,.slice none 0 0] 81)
 obtain⟨n,hn⟩:∃n,n=bn b:=⟨_,rfl⟩
 have HT:=Lib.hid (truth_is b)
 rw [←hn]at HT ⊢
 clear hn
 go_enter Tryz.func29,Tryz.ntmps29
 go_wp2_with fail
 refine(HT.out _).mono ?_
 rintro e w1 ⟨rfl,k1⟩
 have hb1:=k1.blk hb0 trivial
 go_wp2_with fail
 refine(plainField_is 1 n _).mono ?_
 rintro e w2 ⟨rfl,k2⟩
 have hb:=k2.blk hb1 trivial
 have z0:=(blk_cell hb 0).trans rfl
 have Fz0:=blk_free hb 0
 have z1:=(blk_cell hb 1).trans rfl
 have Fz1:=blk_free hb 1
 have z2:=(blk_cell hb 2).trans rfl
 have Fz2:=blk_free hb 2
 have z3:=(blk_cell hb 3).trans rfl
 have Fz3:=blk_free hb 3
 have z4:=(blk_cell hb 4).trans rfl
 have Fz4:=blk_free hb 4
 have z5:=(blk_cell hb 5).trans rfl
 have Fz5:=blk_free hb 5
 have z6:=(blk_cell hb 6).trans rfl
 have Fz6:=blk_free hb 6
 have z7:=(blk_cell hb 7).trans rfl
 have Fz7:=blk_free hb 7
 have z8:=(blk_cell hb 8).trans rfl
 have Fz8:=blk_free hb 8
 have z9:=(blk_cell hb 9).trans rfl
 have Fz9:=blk_free hb 9
 have z10:=(blk_cell hb 10).trans rfl
 have Fz10:=blk_free hb 10
 have z11:=(blk_cell hb 11).trans rfl
 have Fz11:=blk_free hb 11
 have kk:=(k0.trans k1).trans k2
 clear hb hb1 hb0
 go_wp2
 refine bodyPost_ret (v:=.agg #[.int .i64 1,.int .u64 (n:Int),.string ⟨#[]⟩,.slice none 0 0,.int .i64 0,.slice none 0 0,.int .i64 1,.int .u64 0,.string ⟨#[]⟩,.slice none 0 0,.int .i64 0,.slice none 0 0]) (by simp [results,Tryz.results29,go_sem,z0,z1,z2,z3,z4,z5,z6,z7,z8,z9,z10,z11]) rfl ⟨rfl,?_⟩
 repeat (refine Keep.setCell ?_ (Or.inl (b:=¬True) (by simp)) _)
 exact kk
abbrev Flt:=List UInt8×List UInt8×List V
def LF(w:World)(fs:List Flt)(s:Value):Prop:=∃A c,s=.slice A fs.length c∧fs.length≤c∧c≤9223372036854775807∧(fs≠[]→∃d i,A=some ⟨d,i,none⟩∧∀j (hj:j<fs.length),∃sl,w.cell? ⟨d,i+j*3,none⟩=some (.string ⟨fs[j].1.toArray⟩)∧w.cell? ⟨d,i+j*3+1,none⟩=some (.string ⟨fs[j].2.1.toArray⟩)∧w.cell? ⟨d,i+j*3+2,none⟩=some sl∧LM w fs[j].2.2 sl)
theorem LF.keep{w w':World}{fs:List Flt}{s:Value}(h:LF w fs s)(k:New w w'):LF w' fs s:=by
 obtain⟨A,c,hs,h1,h2,h3⟩:=h
 refine⟨A,c,hs,h1,h2,fun hne=>?_⟩
 obtain⟨d,i,hA,hat⟩:=h3 hne
 refine⟨d,i,hA,fun j hj=>?_⟩
 obtain⟨sl,e0,e1,e2,e3⟩:=hat j hj
 exact⟨sl,k.cell e0 trivial,k.cell e1 trivial,k.cell e2 trivial,e3.keep k⟩
def whole(c:Nat)(l:List V):V:=.mk 21 0 [] l 0 [.mk 5 c [] [] 0 []]
def fltF:List Flt→V
 | []=>nul
 | (t0,t1,l)::_=>whole 29 ((fauF t0 t1 l).map (·.1))
def kF(fs:List Flt):Int:=if fs=[]then 0 else 21
theorem own_far2{w w2:World}{base n:Nat}{v:Value}{xs:List Value}(h:w.ownsRow base 78 6 v n xs)(k:∀b,base≤b→b<w.heap.size→w2.heap[b]? =w.heap[b]?):w2.ownsRow base 78 6 v n xs:=by
 obtain⟨h1,h2⟩:=h
 refine⟨h1,?_⟩
 rcases h2 with h2 | ⟨g,cap,cur,hv,hg,hb,hr⟩
 ·exact .inl h2
 ·exact .inr ⟨g,cap,cur,hv,hg,(k g hg (lt_blk hb)).trans hb,hr⟩
theorem inner_all(c:Nat)(hc:c<18446744073709551616)(fs:List (V×V))(hm:fs.length≤1000)(w:World)(d2:Nat)(s:Value)(hs:FM w fs s)(hd:w.heap[d2]? =some (.cells #[.int .u64 (c:Int),s] 33 (0,0)))(T:World→Prop)(hT:∀W,T W→∀d i c,s=.slice (some ⟨d,i,none⟩) fs.length c→∀j (hj:j<fs.length) a0 a1 a2 a3 a4 a5,w.cell? ⟨d,i+j*12,none⟩=some a0→w.cell? ⟨d,i+j*12+1,none⟩=some a1→w.cell? ⟨d,i+j*12+2,none⟩=some a2→w.cell? ⟨d,i+j*12+3,none⟩=some a3→w.cell? ⟨d,i+j*12+4,none⟩=some a4→w.cell? ⟨d,i+j*12+5,none⟩=some a5→VM W fs[j].1 (.agg #[a0,a1,a2,a3,a4,a5])):
 Calls Tryz.prog 61 #[.slice (some ⟨d2,0,none⟩) 1 1] w fun e w'=>∃Ak nk ck d,e=.returned (.agg #[.int .i64 21,.int .u64 0,.string ⟨#[]⟩,.slice Ak nk ck,.int .i64 0,.slice (some ⟨d,0,none⟩) 1 1,.int .i64 0,.int .u64 0,.string ⟨#[]⟩,.slice none 0 0,.int .i64 0,.slice none 0 0])∧New w w'∧w.heap.size<d∧∀w2,T w2→(∀b,d≤b→b<w'.heap.size→w2.heap[b]? =w'.heap[b]?)→VM w2 (whole c (fs.map (·.1))) (.agg #[.int .i64 21,.int .u64 0,.string ⟨#[]⟩,.slice Ak nk ck,.int .i64 0,.slice (some ⟨d,0,none⟩) 1 1]):=by
 have k0:=(Keep.refl (fun _=>True) w).alloc (.cells #[.int .i64 0,.int .u64 0,.string ⟨#[]⟩,.slice none 0 0,.int .i64 0,.slice none 0 0,.int .i64 0,.int .u64 0,.string ⟨#[]⟩,.slice none 0 0,.int .i64 0,.slice none 0 0] 81)
 have hb0:=blk_new w (.cells #[.int .i64 0,.int .u64 0,.string ⟨#[]⟩,.slice none 0 0,.int .i64 0,.slice none 0 0,.int .i64 0,.int .u64 0,.string ⟨#[]⟩,.slice none 0 0,.int .i64 0,.slice none 0 0] 81)
 have HW:=Lib.hid (whole_all c hc fs hm (w.alloc (.cells #[.int .i64 0,.int .u64 0,.string ⟨#[]⟩,.slice none 0 0,.int .i64 0,.slice none 0 0,.int .i64 0,.int .u64 0,.string ⟨#[]⟩,.slice none 0 0,.int .i64 0,.slice none 0 0] 81)) s (hs.keep k0) T (fun W hW d i c' he j hj a0 a1 a2 a3 a4 a5 g0 g1 g2 g3 g4 g5=>by
  subst he
  obtain⟨d',i',hA,-,-,-,hat⟩:=hs.at (fun h=>by rw [h]at hj;simp at hj)
  cases hA
  obtain⟨x0,x1,x2,x3,x4,x5,b0,b1,b2,b3,b4,b5,-,-,q0,q1,q2,q3,q4,q5,-⟩:=hat j hj
  have p0:=k0.cell q0 trivial
  have p1:=k0.cell q1 trivial
  have p2:=k0.cell q2 trivial
  have p3:=k0.cell q3 trivial
  have p4:=k0.cell q4 trivial
  have p5:=k0.cell q5 trivial
  rw [g0]at p0;rw [g1]at p1;rw [g2]at p2;rw [g3]at p3;rw [g4]at p4;rw [g5]at p5
  cases p0;cases p1;cases p2;cases p3;cases p4;cases p5
  exact hT W hW d i c' rfl j hj a0 a1 a2 a3 a4 a5 q0 q1 q2 q3 q4 q5) fs.length rfl)
 have hd':=k0.blk hd trivial
 obtain⟨A,cc,rfl,-,-⟩:=hs.shape
 obtain⟨n,hn⟩:∃n,n=fs.length:=⟨_,rfl⟩
 rw [←hn]at HW hd' hd
 have M:=Lib.hid hn
 have y0:=(blk_cell hd' 0).trans rfl
 have y1:=(blk_cell hd' 1).trans rfl
 clear hs hd hd' hn hT
 go_enter Tryz.func61,Tryz.ntmps61
 go_wp2_with fail
 refine HW.out.mono ?_
 rintro e w1 ⟨sk,d,rfl,k1,⟨cells,hown,hmem⟩,hd1,hdb⟩
 simp only [World.size_alloc]at hd1
 obtain⟨Ak,ck,rfl⟩:=own_shape hown
 have KEY:=Lib.hid (fun (w2:World) (hT2:T w2) (hk:∀b,d≤b→b<w1.heap.size→w2.heap[b]? =w1.heap[b]?)=>
  (VM.mk (k:=21) (n:=0) (t:=[]) (o:=0) (by omega) (LM.own (base:=d+2) (cells:=cells) (by rw [List.length_map,←M.out];exact own_far2 hown fun b h1 h2=>hk b (by omega) h2) (hmem w2 hT2)) (show LM w2 [.mk 5 c [] [] 0 []] (.slice (some ⟨d,0,none⟩) 1 1) from⟨_,⟨some ⟨d,0,none⟩,1,rfl,Nat.le_refl _,by unfold maxLen;omega,rfl,fun _=>⟨d,0,rfl,fun q u hq=>by rw [blk_cell ((hk d (Nat.le_refl _) (lt_blk hdb)).trans hdb),Nat.zero_add];simpa using hq⟩⟩,mem_plain w2 5 c [] hc⟩):VM w2 (whole c (fs.map (·.1))) (.agg #[.int .i64 21,.int .u64 0,.string ⟨#[]⟩,.slice Ak n ck,.int .i64 0,.slice (some ⟨d,0,none⟩) 1 1])))
 have hb:=k1.blk hb0 trivial
 have z0:=(blk_cell hb 0).trans rfl
 have Fz0:=blk_free hb 0
 have z1:=(blk_cell hb 1).trans rfl
 have Fz1:=blk_free hb 1
 have z2:=(blk_cell hb 2).trans rfl
 have Fz2:=blk_free hb 2
 have z3:=(blk_cell hb 3).trans rfl
 have Fz3:=blk_free hb 3
 have z4:=(blk_cell hb 4).trans rfl
 have Fz4:=blk_free hb 4
 have z5:=(blk_cell hb 5).trans rfl
 have Fz5:=blk_free hb 5
 have z6:=(blk_cell hb 6).trans rfl
 have Fz6:=blk_free hb 6
 have z7:=(blk_cell hb 7).trans rfl
 have Fz7:=blk_free hb 7
 have z8:=(blk_cell hb 8).trans rfl
 have Fz8:=blk_free hb 8
 have z9:=(blk_cell hb 9).trans rfl
 have Fz9:=blk_free hb 9
 have z10:=(blk_cell hb 10).trans rfl
 have Fz10:=blk_free hb 10
 have z11:=(blk_cell hb 11).trans rfl
 have Fz11:=blk_free hb 11
 have kk:=k0.trans k1
 have HD1:=Lib.hid hd1
 clear hb hb0 hown hmem hdb hd1
 go_wp2
 refine bodyPost_ret (v:=.agg #[.int .i64 21,.int .u64 0,.string ⟨#[]⟩,.slice Ak n ck,.int .i64 0,.slice (some ⟨d,0,none⟩) 1 1,.int .i64 0,.int .u64 0,.string ⟨#[]⟩,.slice none 0 0,.int .i64 0,.slice none 0 0]) (by simp [results,Tryz.results61,go_sem,z0,z1,z2,z3,z4,z5,z6,z7,z8,z9,z10,z11]) rfl ⟨_,_,_,_,rfl,?_,HD1.out,fun w2 hT2 hk=>KEY.out w2 hT2 fun b h1 h2=>?_⟩
 ·repeat (refine Keep.setCell ?_ (Or.inl (b:=¬True) (by simp)) _)
  exact kk
 ·refine(hk b h1 (by simpa [World.setCell]using h2)).trans (Keep.block (ok:=fun b=>b≠w.heap.size) (w:=w1) ?_ b h2 (by have:=HD1.out;show b≠_;omega))
  repeat (refine Keep.setCell ?_ (Or.inr (by simp)) _)
  exact Keep.refl _ _
theorem faults_is(fs:List Flt)(w:World)(s:Value)(hs:LF w fs s):
 Calls Tryz.prog 30 #[s] w fun e w'=>∃Ak nk ck Ad nd cd,e=.returned (.agg #[.int .i64 (kF fs),.int .u64 0,.string ⟨#[]⟩,.slice Ak nk ck,.int .i64 0,.slice Ad nd cd,.int .i64 0,.int .u64 0,.string ⟨#[]⟩,.slice none 0 0,.int .i64 0,.slice none 0 0])∧New w w'∧VM w' (fltF fs) (.agg #[.int .i64 (kF fs),.int .u64 0,.string ⟨#[]⟩,.slice Ak nk ck,.int .i64 0,.slice Ad nd cd]):=by
 obtain⟨A0,c0,rfl,h1,h2,h3⟩:=hs
 have k0:=(Keep.refl (fun _=>True) w).alloc (.cells #[.int .i64 0,.int .u64 0,.string ⟨#[]⟩,.slice none 0 0,.int .i64 0,.slice none 0 0,.int .i64 0,.int .u64 0,.string ⟨#[]⟩,.slice none 0 0,.int .i64 0,.slice none 0 0] 81)
 have hb0:=blk_new w (.cells #[.int .i64 0,.int .u64 0,.string ⟨#[]⟩,.slice none 0 0,.int .i64 0,.slice none 0 0,.int .i64 0,.int .u64 0,.string ⟨#[]⟩,.slice none 0 0,.int .i64 0,.slice none 0 0] 81)
 rcases fs with _ | ⟨⟨t0,t1,l⟩,r⟩
 ·go_enter Tryz.func30,Tryz.ntmps30
  go_wp2
  refine bodyPost_ret (v:=.agg #[.int .i64 0,.int .u64 0,.string ⟨#[]⟩,.slice none 0 0,.int .i64 0,.slice none 0 0,.int .i64 0,.int .u64 0,.string ⟨#[]⟩,.slice none 0 0,.int .i64 0,.slice none 0 0]) (by simp [results,Tryz.results30,go_sem]) rfl ⟨_,_,_,_,_,_,rfl,k0,VM.mk (n:=0) (t:=[]) (by omega) LM.nil LM.nil⟩
 obtain⟨d,i,rfl,hat⟩:=h3 (by simp)
 obtain⟨sl,e0,e1,e2,hl⟩:=hat 0 (by simp)
 simp only [Nat.zero_mul,Nat.add_zero,List.getElem_cons_zero]at e0 e1 e2 hl
 obtain⟨A,c,rfl,-,-⟩:=hl.shape
 obtain⟨m,hm⟩:∃m,m=((t0,t1,l)::r).length:=⟨_,rfl⟩
 have hm0:0<m:=by rw [hm];simp
 rw [←hm]at h1 ⊢
 have tm:((m:Int)==0)=false:=by simp;omega
 have g0:=k0.cell e0 trivial
 have g1:=k0.cell e1 trivial
 have g2:=k0.cell e2 trivial
 have i1:(0:Int)<(m:Int):=by omega
 have HL:=Lib.hid hl
 have HFA:=Lib.hid (faultOf_all t0 t1 A l.length c (w.alloc (.cells #[.int .i64 0,.int .u64 0,.string ⟨#[]⟩,.slice none 0 0,.int .i64 0,.slice none 0 0,.int .i64 0,.int .u64 0,.string ⟨#[]⟩,.slice none 0 0,.int .i64 0,.slice none 0 0] 81)))
 obtain⟨n,hn⟩:∃n,n=l.length:=⟨_,rfl⟩
 rw [←hn]at g2 HFA
 have HN:=Lib.hid hn
 clear hat h3 e0 e1 e2 hl hm hn
 go_enter Tryz.func30,Tryz.ntmps30
 go_wp2_with fail
 refine HFA.out.mono ?_
 rintro e w2 ⟨d1,B,c2,hB,rfl,k2,hd1,hblk⟩
 simp only [World.size_alloc]at hd1
 have k02:=k0.trans k2
 have kC:=(Keep.refl (fun _=>True) w2).alloc (.cells #[.int .u64 29,.slice (some ⟨d1,0,none⟩) 3 3] 33)
 have k03:=k02.trans kC
 have HK3:=Lib.hid k03
 have hb3:=kC.blk hblk trivial
 have hlm:LM w l (.slice B n c2):=by have hn:=HN.out;subst hn;exact HL.out.mps hB
 have hin:=inner_all 29 (by omega) (fauF t0 t1 l) (by show 3≤1000;omega) (w2.alloc (.cells #[.int .u64 29,.slice (some ⟨d1,0,none⟩) 3 3] 33)) w2.heap.size (.slice (some ⟨d1,0,none⟩) 3 3) (fau_fm k03 hlm HN.out hb3) (blk_new w2 _) (fun W=>New w W) (fun W kW d i c' he j hj a0 a1 a2 a3 a4 a5 g0 g1 g2 g3 g4 g5=>by
  cases he
  have hn:=HN.out
  subst hn
  match j,hj with
  | 0,_=>
    have e0:some (Value.int .i64 20)=some a0:=(blk_cell hb3 (0+0*12)).symm.trans g0
    have e1:some (Value.int .u64 0)=some a1:=(blk_cell hb3 (0+0*12+1)).symm.trans g1
    have e2:some (Value.string ⟨t0.toArray⟩)=some a2:=(blk_cell hb3 (0+0*12+2)).symm.trans g2
    have e3:some (Value.slice none 0 0)=some a3:=(blk_cell hb3 (0+0*12+3)).symm.trans g3
    have e4:some (Value.int .i64 0)=some a4:=(blk_cell hb3 (0+0*12+4)).symm.trans g4
    have e5:some (Value.slice none 0 0)=some a5:=(blk_cell hb3 (0+0*12+5)).symm.trans g5
    cases e0
    cases e1
    cases e2
    cases e3
    cases e4
    cases e5
    exact VM.mk (by omega) LM.nil LM.nil
  | 1,_=>
    have e0:some (Value.int .i64 (kT 19 t1))=some a0:=(blk_cell hb3 (0+1*12)).symm.trans g0
    have e1:some (Value.int .u64 0)=some a1:=(blk_cell hb3 (0+1*12+1)).symm.trans g1
    have e2:some (Value.string ⟨t1.toArray⟩)=some a2:=(blk_cell hb3 (0+1*12+2)).symm.trans g2
    have e3:some (Value.slice none 0 0)=some a3:=(blk_cell hb3 (0+1*12+3)).symm.trans g3
    have e4:some (Value.int .i64 0)=some a4:=(blk_cell hb3 (0+1*12+4)).symm.trans g4
    have e5:some (Value.slice none 0 0)=some a5:=(blk_cell hb3 (0+1*12+5)).symm.trans g5
    cases e0
    cases e1
    cases e2
    cases e3
    cases e4
    cases e5
    show VM W (txF 19 t1) _
    rw [txF_eq]
    exact VM.mk (by omega) LM.nil LM.nil
  | 2,_=>
    have e0:some (Value.int .i64 (kM l.length))=some a0:=(blk_cell hb3 (0+2*12)).symm.trans g0
    have e1:some (Value.int .u64 0)=some a1:=(blk_cell hb3 (0+2*12+1)).symm.trans g1
    have e2:some (Value.string ⟨#[]⟩)=some a2:=(blk_cell hb3 (0+2*12+2)).symm.trans g2
    have e3:some (Value.slice B l.length c2)=some a3:=(blk_cell hb3 (0+2*12+3)).symm.trans g3
    have e4:some (Value.int .i64 0)=some a4:=(blk_cell hb3 (0+2*12+4)).symm.trans g4
    have e5:some (Value.slice none 0 0)=some a5:=(blk_cell hb3 (0+2*12+5)).symm.trans g5
    cases e0
    cases e1
    cases e2
    cases e3
    cases e4
    cases e5
    show VM W (mpF l) _
    rw [mpF_eq]
    exact VM.mk (n:=0) (t:=[]) (by omega) (hlm.keep kW) LM.nil)
 have HIN:=Lib.hid hin
 have hbr:=kC.blk (k2.blk hb0 trivial) trivial
 have HBR:=Lib.hid hbr
 clear hin hb3 hblk hlm hB hb0 hbr
 go_wp2_with fail
 refine HIN.out.mono ?_
 rintro e w4 ⟨Ak,nk,ck,d,rfl,k4,hd4,hV⟩
 have hb:=k4.blk HBR.out trivial
 have z0:=(blk_cell hb 0).trans rfl
 have Fz0:=blk_free hb 0
 have z1:=(blk_cell hb 1).trans rfl
 have Fz1:=blk_free hb 1
 have z2:=(blk_cell hb 2).trans rfl
 have Fz2:=blk_free hb 2
 have z3:=(blk_cell hb 3).trans rfl
 have Fz3:=blk_free hb 3
 have z4:=(blk_cell hb 4).trans rfl
 have Fz4:=blk_free hb 4
 have z5:=(blk_cell hb 5).trans rfl
 have Fz5:=blk_free hb 5
 have z6:=(blk_cell hb 6).trans rfl
 have Fz6:=blk_free hb 6
 have z7:=(blk_cell hb 7).trans rfl
 have Fz7:=blk_free hb 7
 have z8:=(blk_cell hb 8).trans rfl
 have Fz8:=blk_free hb 8
 have z9:=(blk_cell hb 9).trans rfl
 have Fz9:=blk_free hb 9
 have z10:=(blk_cell hb 10).trans rfl
 have Fz10:=blk_free hb 10
 have z11:=(blk_cell hb 11).trans rfl
 have Fz11:=blk_free hb 11
 have kk:=HK3.out.trans k4
 have HV:=Lib.hid hV
 have hs4:w.heap.size<d:=by have:=HK3.out.size;omega
 have HS4:=Lib.hid hs4
 clear hb hV hs4 hd4
 go_wp2
 refine bodyPost_ret (v:=.agg #[.int .i64 21,.int .u64 0,.string ⟨#[]⟩,.slice Ak nk ck,.int .i64 0,.slice (some ⟨d,0,none⟩) 1 1,.int .i64 0,.int .u64 0,.string ⟨#[]⟩,.slice none 0 0,.int .i64 0,.slice none 0 0]) (by simp [results,Tryz.results30,go_sem,z0,z1,z2,z3,z4,z5,z6,z7,z8,z9,z10,z11]) rfl ⟨_,_,_,_,_,_,rfl,?_,?_⟩
 ·repeat (refine Keep.setCell ?_ (Or.inl (b:=¬True) (by simp)) _)
  exact kk
 ·refine HV.out _ ?_ fun b h1 h2=>Keep.block (ok:=fun b=>b≠w.heap.size) (w:=w4) ?_ b h2 (by have:=HS4.out;show b≠_;omega)
  ·repeat (refine Keep.setCell ?_ (Or.inl (b:=¬True) (by simp)) _)
   exact kk
  ·repeat (refine Keep.setCell ?_ (Or.inr (by simp)) _)
   exact Keep.refl _ _
def detF(h:Nat)(cl:Bool)(fs:List Flt):List (V×V):=[(.mk 4 h [] [] 0 [],nul),(.mk 1 (bn cl) [] [] 0 [],.mk 1 0 [] [] 0 []),(fltF fs,nul)]
theorem mem_vm{w:World}{v:V}{vs:List V}{a0 a1 a2 a3 a4 a5:Value}{cells:List Value}(h:VM w v (.agg #[a0,a1,a2,a3,a4,a5]))(hs:Mem w vs cells):Mem w (v::vs) (a0::a1::a2::a3::a4::a5::cells):=
 (mem_of h).append hs
theorem bn_lt(b:Bool):bn b<18446744073709551616:=by cases b<;>decide
theorem det_fm{W:World}{h bb d nk ck nd cd:Nat}{cl:Bool}{fs:List Flt}{K:Int}{Ak Ad:Option Addr}(hh:h<18446744073709551616)(hb:bb=bn cl)(hV:VM W (fltF fs) (.agg #[.int .i64 K,.int .u64 0,.string ⟨#[]⟩,.slice Ak nk ck,.int .i64 0,.slice Ad nd cd]))(hd:W.heap[d]? =some (.cells #[.int .i64 4,.int .u64 (h:Int),.string ⟨#[]⟩,.slice none 0 0,.int .i64 0,.slice none 0 0,.int .i64 0,.int .u64 0,.string ⟨#[]⟩,.slice none 0 0,.int .i64 0,.slice none 0 0,.int .i64 1,.int .u64 (bb:Int),.string ⟨#[]⟩,.slice none 0 0,.int .i64 0,.slice none 0 0,.int .i64 1,.int .u64 0,.string ⟨#[]⟩,.slice none 0 0,.int .i64 0,.slice none 0 0,.int .i64 K,.int .u64 0,.string ⟨#[]⟩,.slice Ak nk ck,.int .i64 0,.slice Ad nd cd,.int .i64 0,.int .u64 0,.string ⟨#[]⟩,.slice none 0 0,.int .i64 0,.slice none 0 0] 81 (0,0))):FM W (detF h cl fs) (.slice (some ⟨d,0,none⟩) 3 3):=by
 subst hb
 refine⟨(#[.int .i64 4,.int .u64 (h:Int),.string ⟨#[]⟩,.slice none 0 0,.int .i64 0,.slice none 0 0,.int .i64 0,.int .u64 0,.string ⟨#[]⟩,.slice none 0 0,.int .i64 0,.slice none 0 0,.int .i64 1,.int .u64 (bn cl:Int),.string ⟨#[]⟩,.slice none 0 0,.int .i64 0,.slice none 0 0,.int .i64 1,.int .u64 0,.string ⟨#[]⟩,.slice none 0 0,.int .i64 0,.slice none 0 0,.int .i64 K,.int .u64 0,.string ⟨#[]⟩,.slice Ak nk ck,.int .i64 0,.slice Ad nd cd,.int .i64 0,.int .u64 0,.string ⟨#[]⟩,.slice none 0 0,.int .i64 0,.slice none 0 0]:Array Value).toList,⟨_,3,rfl,by show 3≤3;omega,by unfold maxLen;omega,rfl,fun _=>⟨d,0,_,rfl,hd,fun q hq=>?_⟩⟩,?_⟩
 ·rw [Nat.zero_add,Array.getElem?_toList]
 ·exact mem_mk hh .nil (mem_mk (by omega) .nil (mem_mk (bn_lt cl) .nil (mem_mk (by omega) .nil (mem_vm hV (mem_mk (by omega) .nil .nil)))))
theorem detachOf_is(h:Nat)(hh:h<4294967296)(cl:Bool)(fs:List Flt)(w:World)(s:Value)(hs:LF w fs s):
 Calls Tryz.prog 8 #[.agg #[.int .u32 (h:Int),.bool cl,s]] w fun e w'=>∃d,e=.returned (.agg #[.int .u64 22,.slice (some ⟨d,0,none⟩) 3 3])∧New w w'∧FM w' (detF h cl fs) (.slice (some ⟨d,0,none⟩) 3 3):=by
 have HFS:=Lib.hid (fun W (k:New w W)=>faults_is fs W s (hs.keep k))
 obtain⟨A,c,rfl,-⟩:=hs
 obtain⟨n,hn⟩:∃n,n=fs.length:=⟨_,rfl⟩
 rw [←hn]at HFS ⊢
 obtain⟨bb,hbb⟩:∃bb,bb=bn cl:=⟨_,rfl⟩
 have HFL:=Lib.hid (flag_is2 cl)
 rw [←hbb]at HFL
 have HBB:=Lib.hid hbb
 obtain⟨K,hK⟩:∃K,K=kF fs:=⟨_,rfl⟩
 rw [←hK]at HFS
 have hu:=u64n (n:=h) (by omega)
 have k0:New w (((w.alloc (.cells #[.int .u32 (h:Int),.bool cl,.slice A n c] 25)).alloc (.cells #[.int .u64 0,.slice none 0 0] 33)).drew):=(((Keep.refl (fun _=>True) w).alloc (.cells #[.int .u32 (h:Int),.bool cl,.slice A n c] 25)).alloc (.cells #[.int .u64 0,.slice none 0 0] 33)).drew
 have hb:=blk_alloc (blk_new w (.cells #[.int .u32 (h:Int),.bool cl,.slice A n c] 25)) (.cells #[.int .u64 0,.slice none 0 0] 33)
 have hr:=blk_new (w.alloc (.cells #[.int .u32 (h:Int),.bool cl,.slice A n c] 25)) (.cells #[.int .u64 0,.slice none 0 0] 33)
 simp only [World.size_alloc]at hr
 have hb':(((w.alloc (.cells #[.int .u32 (h:Int),.bool cl,.slice A n c] 25)).alloc (.cells #[.int .u64 0,.slice none 0 0] 33)).drew).heap[w.heap.size]? =some (.cells #[.int .u32 (h:Int),.bool cl,.slice A n c] 25 (0,0)):=hb
 have hr':(((w.alloc (.cells #[.int .u32 (h:Int),.bool cl,.slice A n c] 25)).alloc (.cells #[.int .u64 0,.slice none 0 0] 33)).drew).heap[w.heap.size+1]? =some (.cells #[.int .u64 0,.slice none 0 0] 33 (0,0)):=hr
 clear hb hr hn hbb hK
 go_enter Tryz.func8,Tryz.ntmps8
 go_wp2_with fail
 go_region_held3 (fun W=>W.cell? ⟨w.heap.size,0,none⟩=some (.int .u32 (h:Int))∧W.cell? ⟨w.heap.size,1,none⟩=some (.bool cl)∧W.cell? ⟨w.heap.size,2,none⟩=some (.slice A n c))
  (first | exact hS | exact⟨(blk_cell hb' 0).trans rfl,(blk_cell hb' 1).trans rfl,(blk_cell hb' 2).trans rfl⟩ | exact⟨cell_alloc hS.1 _,cell_alloc hS.2.1 _,cell_alloc hS.2.2 _⟩ | exact h3set (h3set ⟨cell_alloc hS.1 _,cell_alloc hS.2.1 _,cell_alloc hS.2.2 _⟩ (by omega)) (by omega))
  (first
   | (go_at_call 28;refine(ofNumber_is 4 h _).mono ?_;rintro e wa ⟨rfl,ka⟩;have hb':=ka.blk (b:=w.heap.size) (by assumption) trivial;have hr':=ka.blk (b:=w.heap.size+1) (by assumption) trivial;have hS:wa.cell? ⟨w.heap.size,0,none⟩=some (.int .u32 (h:Int))∧wa.cell? ⟨w.heap.size,1,none⟩=some (.bool cl)∧wa.cell? ⟨w.heap.size,2,none⟩=some (.slice A n c):=⟨(blk_cell hb' 0).trans rfl,(blk_cell hb' 1).trans rfl,(blk_cell hb' 2).trans rfl⟩;have x0:=fun o=>cell_alloc (show wa.cell? ⟨w.heap.size+1,0,none⟩=some (.int .u64 0) from(blk_cell hr' 0).trans rfl) o;have x1:=fun o=>cell_alloc (show wa.cell? ⟨w.heap.size+1,1,none⟩=some (.slice none 0 0) from(blk_cell hr' 1).trans rfl) o;have y0:=fun o=>blk_free (blk_alloc hr' o) 0;have y1:=fun o=>blk_free (blk_alloc hr' o) 1;have kk:New w wa:=Keep.trans (show New w _ by assumption) ka)
   | (go_at_call 29;refine(HFL.out _).mono ?_;rintro e wb ⟨rfl,kb⟩;have hb':=kb.blk (b:=w.heap.size) (by assumption) trivial;have hr':=kb.blk (b:=w.heap.size+1) (by assumption) trivial;have hS:wb.cell? ⟨w.heap.size,0,none⟩=some (.int .u32 (h:Int))∧wb.cell? ⟨w.heap.size,1,none⟩=some (.bool cl)∧wb.cell? ⟨w.heap.size,2,none⟩=some (.slice A n c):=⟨(blk_cell hb' 0).trans rfl,(blk_cell hb' 1).trans rfl,(blk_cell hb' 2).trans rfl⟩;have x0:=fun o=>cell_alloc (show wb.cell? ⟨w.heap.size+1,0,none⟩=some (.int .u64 0) from(blk_cell hr' 0).trans rfl) o;have x1:=fun o=>cell_alloc (show wb.cell? ⟨w.heap.size+1,1,none⟩=some (.slice none 0 0) from(blk_cell hr' 1).trans rfl) o;have y0:=fun o=>blk_free (blk_alloc hr' o) 0;have y1:=fun o=>blk_free (blk_alloc hr' o) 1;have kk:New w wb:=Keep.trans (show New w _ by assumption) kb)
   | (go_at_call 30;refine(HFS.out _ (by assumption)).mono ?_;rintro e wc ⟨Ak,nk,ck,Ad,nd,cd,rfl,kc,hV⟩;have hb':=kc.blk (b:=w.heap.size) (by assumption) trivial;have hr':=kc.blk (b:=w.heap.size+1) (by assumption) trivial;have hS:wc.cell? ⟨w.heap.size,0,none⟩=some (.int .u32 (h:Int))∧wc.cell? ⟨w.heap.size,1,none⟩=some (.bool cl)∧wc.cell? ⟨w.heap.size,2,none⟩=some (.slice A n c):=⟨(blk_cell hb' 0).trans rfl,(blk_cell hb' 1).trans rfl,(blk_cell hb' 2).trans rfl⟩;have x0:=fun o=>cell_alloc (show wc.cell? ⟨w.heap.size+1,0,none⟩=some (.int .u64 0) from(blk_cell hr' 0).trans rfl) o;have x1:=fun o=>cell_alloc (show wc.cell? ⟨w.heap.size+1,1,none⟩=some (.slice none 0 0) from(blk_cell hr' 1).trans rfl) o;have y0:=fun o=>blk_free (blk_alloc hr' o) 0;have y1:=fun o=>blk_free (blk_alloc hr' o) 1;have kk:New w wc:=Keep.trans (show New w _ by assumption) kc;have HV:=Lib.hid hV;clear hV))
 all_goals
  have ek:=kk.size
  have e1:w.heap.size+1<_:=lt_blk hr'
  go_wp2
  refine bodyPost_ret (v:=.agg #[.int .u64 22,.slice (some ⟨_,0,none⟩) 3 3]) (by simp [results,Tryz.results8,go_sem,x0,x1];rfl) rfl ⟨_,rfl,?_,?_⟩
  ·repeat (refine Keep.setCell ?_ (Or.inl (b:=¬True) (by simp)) _)
   exact kk.alloc _
  ·have key:∀(o:Obj) (W:World),Keep (fun b=>b≠w.heap.size+1) (wc.alloc o) W→VM W (fltF fs) (.agg #[.int .i64 K,.int .u64 0,.string ⟨#[]⟩,.slice Ak nk ck,.int .i64 0,.slice Ad nd cd]):=fun o W kx=>VM.keepN (f:=w.heap.size+1) (blk_alloc hr' o) (by decide) kx (HV.out.keep ((Keep.refl (fun _=>True) _).alloc o))
   refine det_fm (by omega) HBB.out (key ?o _ ?k) ?hd
   case k=>
    repeat (refine Keep.setCell ?_ (Or.inr (by simp)) _)
    exact Keep.refl _ _
   case hd=>refine blk_far (blk_far (blk_new _ _) (p:=⟨w.heap.size+1,0,none⟩) (Nat.ne_of_gt e1) _) (p:=⟨w.heap.size+1,1,none⟩) (Nat.ne_of_gt e1) _
end Go.Proofs.YtfoegolfadhmjaaGreatDoor
namespace Go.Proofs.YtfoegolfadhmjaaGreatDoor
open Go.RowKit Go.WideShapes Go.Sort
theorem known_is(w:World):Calls Tryz.prog 136 #[.int .u64 29] w fun e w'=>∃d,e=.returned (.tuple #[.agg #[.int .u64 29,.slice (some ⟨d,0,none⟩) 3 3],.bool true])∧New w w'∧FM w' (fauF [] [] []) (.slice (some ⟨d,0,none⟩) 3 3):=by
 have k0:=(Keep.refl (fun _=>True) w).alloc (.cells #[.int .u64 0,.slice none 0 0] 33)
 have hb0:=blk_new w (.cells #[.int .u64 0,.slice none 0 0] 33)
 go_enter Tryz.func136,Tryz.ntmps136
 go_wp2_with fail
 refine(faultOf_is [] [] [] _ (.slice none 0 0) LM.nil).mono ?_
 rintro e w1 ⟨d,rfl,k1,hfm⟩
 have hb:=k1.blk hb0 trivial
 have z0:=(blk_cell hb 0).trans rfl
 have z1:=(blk_cell hb 1).trans rfl
 have F0:=blk_free hb 0
 have F1:=blk_free hb 1
 have kk:=k0.trans k1
 have HB:=Lib.hid hb
 have HF:=Lib.hid hfm
 clear hb hb0 hfm
 go_wp2
 refine bodyPost_ret (v:=.tuple #[.agg #[.int .u64 29,.slice (some ⟨d,0,none⟩) 3 3],.bool true]) (by simp [results,Tryz.results136,go_sem,z0,z1]) rfl ⟨_,rfl,?_,?_⟩
 ·repeat (refine Keep.setCell ?_ (Or.inl (b:=¬True) (by simp)) _)
  exact kk
 ·refine FM.keepN (f:=w.heap.size) HB.out (by decide) (by decide) ?_ HF.out
  repeat (refine Keep.setCell ?_ (Or.inr (by simp)) _)
  exact Keep.refl _ _
theorem sameField_comp(la lb:List V)(hla:la.length≤3)(hlb:lb.length≤3)(hF:∀j (h:j<3),SameC (fauF [] [] [])[j] (atN la j) (atN lb j))(w:World)(f0 f1 f2 f3 f4 f5 d0 d1 d2 d3 d4 d5 x y:Value)(hx:VM w (whole 29 la) x)(hy:VM w (whole 29 lb) y):
 Calls Tryz.prog 86 #[.agg #[f0,f1,f2,f3,f4,f5,d0,d1,d2,d3,d4,d5],x,y] w fun e w'=>e=.returned (.bool true)∧New w w':=by
 have HS63:=Lib.hid (fun W s sa sb h1 h2 h3=>sameKids_is 29 (fauF [] [] []) la lb hla hlb (by show 3≤1000;omega) (fun j h=>hF j h) W s sa sb h1 h2 h3)
 obtain⟨ska,sda,rfl,-,hka,hda⟩:=VM.inv (show VM w (.mk 21 0 [] la 0 [.mk 5 29 [] [] 0 []]) _ from hx)
 obtain⟨Aa,ca,rfl,-,-⟩:=hka.shape
 obtain⟨ea,ia,pa,rfl,-,-,hata⟩:=hda.at (by simp)
 obtain⟨u0,u1,u2,u3,u4,u5,hva,ga0,ga1,ga2,ga3,ga4,ga5⟩:=hata 0 (by simp)
 simp only [List.getElem_cons_zero,Nat.zero_mul,Nat.add_zero]at hva ga0 ga1 ga2 ga3 ga4 ga5
 obtain⟨s1,s2,hag,-,hs1,hs2⟩:=hva.inv
 obtain⟨Sa,qa,rfl,-,-⟩:=hs1.shape
 obtain⟨Ta,ra,rfl,-,-⟩:=hs2.shape
 injection hag with hag
 simp only [Array.mk.injEq,List.cons.injEq,and_true,List.length_nil]at hag
 obtain⟨rfl,rfl,rfl,rfl,rfl,rfl⟩:=hag
 obtain⟨ma,hma⟩:∃m,m=la.length:=⟨_,rfl⟩
 rw [←hma]at hka ⊢
 simp only [List.length_singleton]
 obtain⟨skb,sdb,rfl,-,hkb,hdb⟩:=VM.inv (show VM w (.mk 21 0 [] lb 0 [.mk 5 29 [] [] 0 []]) _ from hy)
 obtain⟨Ab,cb,rfl,-,-⟩:=hkb.shape
 obtain⟨eb,ib,pb,rfl,-,-,hatb⟩:=hdb.at (by simp)
 obtain⟨u0,u1,u2,u3,u4,u5,hvb,gb0,gb1,gb2,gb3,gb4,gb5⟩:=hatb 0 (by simp)
 simp only [List.getElem_cons_zero,Nat.zero_mul,Nat.add_zero]at hvb gb0 gb1 gb2 gb3 gb4 gb5
 obtain⟨s1,s2,hag,-,hs1,hs2⟩:=hvb.inv
 obtain⟨Sb,qb,rfl,-,-⟩:=hs1.shape
 obtain⟨Tb,rb,rfl,-,-⟩:=hs2.shape
 injection hag with hag
 simp only [Array.mk.injEq,List.cons.injEq,and_true,List.length_nil]at hag
 obtain⟨rfl,rfl,rfl,rfl,rfl,rfl⟩:=hag
 obtain⟨mb,hmb⟩:∃m,m=lb.length:=⟨_,rfl⟩
 rw [←hmb]at hkb ⊢
 simp only [List.length_singleton]
 have HKA:=Lib.hid hka
 have HKB:=Lib.hid hkb
 have HS32:=Lib.hid (fun W (k:New w W)=>same_val 10 (.mk 5 29 [] [] 0 []) (.mk 5 29 [] [] 0 []) (by simp [cnt,cnts]) W _ _ (hva.keep k) (hvb.keep k))
 have hsv:sameV (.mk 5 29 [] [] 0 []) (.mk 5 29 [] [] 0 [])=true:=by decide
 rw [hsv]at HS32
 have k0:New w (((w.alloc (.cells #[f0,f1,f2,f3,f4,f5,d0,d1,d2,d3,d4,d5] 81)).alloc (.cells #[.int .i64 21,.int .u64 0,.string ⟨#[]⟩,.slice Aa ma ca,.int .i64 0,.slice (some ⟨ea,ia,none⟩) 1 pa] 78)).alloc (.cells #[.int .i64 21,.int .u64 0,.string ⟨#[]⟩,.slice Ab mb cb,.int .i64 0,.slice (some ⟨eb,ib,none⟩) 1 pb] 78)):=(((Keep.refl (fun _=>True) w).alloc (.cells #[f0,f1,f2,f3,f4,f5,d0,d1,d2,d3,d4,d5] 81)).alloc (.cells #[.int .i64 21,.int .u64 0,.string ⟨#[]⟩,.slice Aa ma ca,.int .i64 0,.slice (some ⟨ea,ia,none⟩) 1 pa] 78)).alloc (.cells #[.int .i64 21,.int .u64 0,.string ⟨#[]⟩,.slice Ab mb cb,.int .i64 0,.slice (some ⟨eb,ib,none⟩) 1 pb] 78)
 have hba:=blk_alloc (blk_new (w.alloc (.cells #[f0,f1,f2,f3,f4,f5,d0,d1,d2,d3,d4,d5] 81)) (.cells #[.int .i64 21,.int .u64 0,.string ⟨#[]⟩,.slice Aa ma ca,.int .i64 0,.slice (some ⟨ea,ia,none⟩) 1 pa] 78)) (.cells #[.int .i64 21,.int .u64 0,.string ⟨#[]⟩,.slice Ab mb cb,.int .i64 0,.slice (some ⟨eb,ib,none⟩) 1 pb] 78)
 have hbb:=blk_new ((w.alloc (.cells #[f0,f1,f2,f3,f4,f5,d0,d1,d2,d3,d4,d5] 81)).alloc (.cells #[.int .i64 21,.int .u64 0,.string ⟨#[]⟩,.slice Aa ma ca,.int .i64 0,.slice (some ⟨ea,ia,none⟩) 1 pa] 78)) (.cells #[.int .i64 21,.int .u64 0,.string ⟨#[]⟩,.slice Ab mb cb,.int .i64 0,.slice (some ⟨eb,ib,none⟩) 1 pb] 78)
 simp only [World.size_alloc]at hba hbb
 have HBA:=Lib.hid hba
 have HBB:=Lib.hid hbb
 have HGA:=Lib.hid (And.intro ga0 (And.intro ga1 (And.intro ga2 (And.intro ga3 (And.intro ga4 ga5)))))
 have HGB:=Lib.hid (And.intro gb0 (And.intro gb1 (And.intro gb2 (And.intro gb3 (And.intro gb4 gb5)))))
 have HMA:=Lib.hid hma
 have HMB:=Lib.hid hmb
 clear hx hy hka hkb hda hdb hata hatb hva hvb hs1 hs2 hba hbb hF hsv ga0 ga1 ga2 ga3 ga4 ga5 gb0 gb1 gb2 gb3 gb4 gb5 hma hmb
 go_enter Tryz.func86,Tryz.ntmps86
 go_wp2_with fail
 obtain⟨W,hW⟩:∃W,W=((w.alloc (.cells #[f0,f1,f2,f3,f4,f5,d0,d1,d2,d3,d4,d5] 81)).alloc (.cells #[.int .i64 21,.int .u64 0,.string ⟨#[]⟩,.slice Aa ma ca,.int .i64 0,.slice (some ⟨ea,ia,none⟩) 1 pa] 78)).alloc (.cells #[.int .i64 21,.int .u64 0,.string ⟨#[]⟩,.slice Ab mb cb,.int .i64 0,.slice (some ⟨eb,ib,none⟩) 1 pb] 78):=⟨_,rfl⟩
 rw [←hW]at k0 HBA HBB ⊢
 clear hW
 have za0:=(blk_cell HBA.out 0).trans rfl
 have za0':=fun q os=>cell_regrown za0 q os
 have za5:=(blk_cell HBA.out 5).trans rfl
 have za5':=fun q os=>cell_regrown za5 q os
 have ya0:=k0.cell HGA.out.1 trivial
 have ya0':=fun q os=>cell_regrown ya0 q os
 have ya1:=k0.cell HGA.out.2.1 trivial
 have ya1':=fun q os=>cell_regrown ya1 q os
 have ya2:=k0.cell HGA.out.2.2.1 trivial
 have ya2':=fun q os=>cell_regrown ya2 q os
 have ya3:=k0.cell HGA.out.2.2.2.1 trivial
 have ya3':=fun q os=>cell_regrown ya3 q os
 have ya4:=k0.cell HGA.out.2.2.2.2.1 trivial
 have ya4':=fun q os=>cell_regrown ya4 q os
 have ya5:=k0.cell HGA.out.2.2.2.2.2 trivial
 have ya5':=fun q os=>cell_regrown ya5 q os
 have zb0:=(blk_cell HBB.out 0).trans rfl
 have zb0':=fun q os=>cell_regrown zb0 q os
 have zb5:=(blk_cell HBB.out 5).trans rfl
 have zb5':=fun q os=>cell_regrown zb5 q os
 have yb0:=k0.cell HGB.out.1 trivial
 have yb0':=fun q os=>cell_regrown yb0 q os
 have yb1:=k0.cell HGB.out.2.1 trivial
 have yb1':=fun q os=>cell_regrown yb1 q os
 have yb2:=k0.cell HGB.out.2.2.1 trivial
 have yb2':=fun q os=>cell_regrown yb2 q os
 have yb3:=k0.cell HGB.out.2.2.2.1 trivial
 have yb3':=fun q os=>cell_regrown yb3 q os
 have yb4:=k0.cell HGB.out.2.2.2.2.1 trivial
 have yb4':=fun q os=>cell_regrown yb4 q os
 have yb5:=k0.cell HGB.out.2.2.2.2.2 trivial
 have yb5':=fun q os=>cell_regrown yb5 q os
 have cQ:=fun q os=>regrown_new (HS32.out _ (k0.trans (new_regrown W q os)))
 go_wp2_with fail
 refine wp_region_quiet_below (by kernel_rfl) (by kernel_rfl) ?_
 repeat (go_big_quiet_step (first | exact cQ _ _))
 refine wpQuiet_nil ?_
 intro _ hw'
 obtain⟨⟨dq,osq⟩,hw''⟩:=hw'
 subst hw''
 have kx:=k0.trans (new_regrown W dq osq)
 have BA:=(new_regrown W dq osq).blk HBA.out trivial
 have BB:=(new_regrown W dq osq).blk HBB.out trivial
 obtain⟨W1,hW1⟩:∃W1,W1=grow (redrawn W dq) osq:=⟨_,rfl⟩
 rw [←hW1]at kx BA BB ⊢
 clear hW1 za0 za0' za5 za5' ya0 ya0' ya1 ya1' ya2 ya2' ya3 ya3' ya4 ya4' ya5 ya5' zb0 zb0' zb5 zb5' yb0 yb0' yb1 yb1' yb2 yb2' yb3 yb3' yb4 yb4' yb5 yb5' cQ
 have za5:=(blk_cell BA 5).trans rfl
 have x1:=kx.cell HGA.out.2.1 trivial
 go_wp2_with fail
 refine(known_is _).mono ?_
 rintro e w4 ⟨dk,rfl,k4,hfm⟩
 have kO:=(Keep.refl (fun _=>True) w4).alloc (.cells #[.int .u64 29,.slice (some ⟨dk,0,none⟩) 3 3] 33)
 have kk:=(kx.trans k4).trans kO
 have b0:=blk_new w4 (.cells #[.int .u64 29,.slice (some ⟨dk,0,none⟩) 3 3] 33)
 have v0:=(blk_cell b0 0).trans rfl
 have v1:=(blk_cell b0 1).trans rfl
 have ya3:=(blk_cell (kO.blk (k4.blk BA trivial) trivial) 3).trans rfl
 have yb3:=(blk_cell (kO.blk (k4.blk BB trivial) trivial) 3).trans rfl
 have HC:=Lib.hid (HS63.out _ _ _ _ (hfm.keep kO) (HKA.out.keep kk) (HKB.out.keep kk))
 clear hfm b0 BA BB
 go_wp2_with fail
 refine HC.out.mono ?_
 rintro e w5 ⟨rfl,k5⟩
 go_wp2
 go_ret
 exact⟨rfl,kk.trans k5⟩
def FltA(fs:List Flt):Prop:=fs=[]∨∃t0 t1 l,fs=[(t0,t1,l)]∧MapA (fun k=>k=19) l
theorem askedFaults_is(fs:List Flt)(w:World)(VC:Vld w)(s:Value)(hs:LF w fs s):Calls Tryz.prog 37 #[s] w (Yes (FltA fs) w):=by
 obtain⟨A,c,rfl,h1,h2,h3⟩:=hs
 match fs,h1,h3 with
 | [],_,_=>
   go_enter Tryz.func37,Tryz.ntmps37
   go_wp2
   go_ret
   exact⟨_,rfl,Keep.refl _ _,fun _=>.inl rfl⟩
 | [(t0,t1,l)],_,h3=>
   obtain⟨d,i,rfl,hat⟩:=h3 (by simp)
   obtain⟨sl,e0,e1,e2,hl⟩:=hat 0 (by simp)
   simp only [Nat.zero_mul,Nat.add_zero,List.getElem_cons_zero,List.length_singleton]at e0 e1 e2 hl ⊢
   have HC:=Lib.hid (askedFault_is t0 t1 l w VC sl hl)
   obtain⟨B,c',rfl,-,-⟩:=hl.shape
   obtain⟨m,hm⟩:∃m,m=l.length:=⟨_,rfl⟩
   rw [←hm]at HC e2
   clear hat h3 hl VC hm
   go_enter Tryz.func37,Tryz.ntmps37
   go_wp2_with fail
   refine HC.out.mono ?_
   rintro e w2 ⟨bb,rfl,k2,hbb⟩
   have HBB:=Lib.hid hbb
   clear hbb
   go_wp2
   go_ret
   exact⟨bb,rfl,k2,fun h=>.inr ⟨t0,t1,l,rfl,HBB.out h⟩⟩
 | a::b::r,h1,_=>
   obtain⟨m,hm⟩:∃m,m=(a::b::r).length:=⟨_,rfl⟩
   have hm2:2≤m:=by rw [hm];simp
   rw [←hm]
   have t0:((m:Int)==0)=false:=by simp;omega
   have t1:((m:Int)==1)=false:=by simp;omega
   clear hm h1
   go_enter Tryz.func37,Tryz.ntmps37
   go_wp2
   go_ret
   exact Yes.no (Keep.refl _ _)
theorem askedDetach_is(h:Nat)(cl:Bool)(fs:List Flt)(w:World)(VC:Vld w)(s:Value)(hs:LF w fs s):Calls Tryz.prog 11 #[.agg #[.int .u32 (h:Int),.bool cl,s]] w (Yes (FltA fs) w):=by
 have HC:=Lib.hid (fun W (k:New w W)=>askedFaults_is fs W (VC.new k) s (hs.keep k))
 obtain⟨A,c,rfl,-⟩:=hs
 obtain⟨n,hn⟩:∃n,n=fs.length:=⟨_,rfl⟩
 rw [←hn]at HC ⊢
 have k0:=(Keep.refl (fun _=>True) w).alloc (.cells #[.int .u32 (h:Int),.bool cl,.slice A n c] 25)
 clear hn
 go_enter Tryz.func11,Tryz.ntmps11
 go_wp2_with fail
 refine(HC.out _ k0).mono ?_
 rintro e w2 ⟨bb,rfl,k2,hbb⟩
 have HBB:=Lib.hid hbb
 clear hbb
 go_wp2
 go_ret
 exact⟨bb,rfl,k0.trans k2,HBB.out⟩
theorem zzFits14_is(h:Nat)(cl:Bool)(A:Option Addr)(n c:Nat)(w:World):Calls Tryz.prog 6 #[.agg #[.int .u32 (h:Int),.bool cl,.slice A n c]] w (Yes True w):=by
 have k0:=(Keep.refl (fun _=>True) w).alloc (.cells #[.int .u32 (h:Int),.bool cl,.slice A n c] 25)
 cases b0:decide (2147483647<n)
 ·have i0:decide ((2147483647:Int)<(n:Int))=false:=by simp at b0 ⊢;omega
  go_enter Tryz.func6,Tryz.ntmps6
  go_wp2
  go_ret
  exact⟨_,rfl,k0,fun _=>trivial⟩
 ·have i0:decide ((2147483647:Int)<(n:Int))=true:=by simp at b0 ⊢;omega
  go_enter Tryz.func6,Tryz.ntmps6
  go_wp2
  go_ret
  exact Yes.no k0
end Go.Proofs.YtfoegolfadhmjaaGreatDoor
