/- A pointer to a number of 16 bits, off the buffer. -/
import Derived.Test.YtfoegolfadhmjaaGreatDoorZ26
set_option linter.all false
set_option maxRecDepth 100000
set_option maxHeartbeats 4000000
namespace Go.Proofs.YtfoegolfadhmjaaGreatDoor
open Go.RowKit Go.WideShapes
def SlF{α:Type}(F:α→Value)(w:World)(l:List α)(s:Value):Prop:=∃A c,s=.slice A l.length c∧l.length≤c∧c≤9223372036854775807∧(l≠[]→∃d i,A=some ⟨d,i,none⟩∧∀j (hj:j<l.length),w.cell? ⟨d,i+j,none⟩=some (F l[j]))
theorem SlF.keep{α:Type}{F:α→Value}{w w':World}{l:List α}{s:Value}(h:SlF F w l s)(k:New w w'):SlF F w' l s:=by
 obtain⟨A,c,hs,h1,h2,h3⟩:=h
 refine⟨A,c,hs,h1,h2,fun hne=>?_⟩
 obtain⟨d,i,hA,hat⟩:=h3 hne
 exact⟨d,i,hA,fun j hj=>k.cell (hat j hj) trivial⟩
theorem SlF.nil{α:Type}{F:α→Value}{w:World}:SlF F w [] (.slice none 0 0):=⟨none,0,rfl,Nat.le_refl _,by omega,fun h=>absurd rfl h⟩
abbrev U16s:=SlF fun n:Nat=>.int .u16 (n:Int)
abbrev Strs:=SlF fun t:List UInt8=>.string ⟨t.toArray⟩
def mayF:List Nat→V
 | []=>nul
 | n::_=>.mk 3 n [] [] 0 []
def kMy(l:List Nat):Int:=if l=[]then 0 else 3
def nMy:List Nat→Nat
 | []=>0
 | n::_=>n
theorem mayF_eq(l:List Nat):mayF l=.mk (kMy l) (nMy l) [] [] 0 []:=by cases l<;>rfl
theorem defaultField_is(k:Int)(n m:Nat)(w:World):Calls Tryz.prog 51 #[.int .i64 k,.int .u64 (n:Int),.int .u64 (m:Int)] w fun e w'=>e=.returned (.agg #[.int .i64 k,.int .u64 (n:Int),.string ⟨#[]⟩,.slice none 0 0,.int .i64 0,.slice none 0 0,.int .i64 k,.int .u64 (m:Int),.string ⟨#[]⟩,.slice none 0 0,.int .i64 0,.slice none 0 0])∧New w w':=by
 have k0:=(Keep.refl (fun _=>True) w).alloc (.cells #[.int .i64 0,.int .u64 0,.string ⟨#[]⟩,.slice none 0 0,.int .i64 0,.slice none 0 0,.int .i64 0,.int .u64 0,.string ⟨#[]⟩,.slice none 0 0,.int .i64 0,.slice none 0 0] 81)
 have hb0:=blk_new w (.cells #[.int .i64 0,.int .u64 0,.string ⟨#[]⟩,.slice none 0 0,.int .i64 0,.slice none 0 0,.int .i64 0,.int .u64 0,.string ⟨#[]⟩,.slice none 0 0,.int .i64 0,.slice none 0 0] 81)
 go_enter Tryz.func51,Tryz.ntmps51
 go_wp2_with fail
 refine(ofNumber_is k n _).mono ?_
 rintro e w1 ⟨rfl,k1⟩
 have hb1:=k1.blk hb0 trivial
 go_wp2_with fail
 refine(ofNumber_is k m _).mono ?_
 rintro e w2 ⟨rfl,k2⟩
 have hb:=k2.blk hb1 trivial
 have z0:=(blk_cell hb 0).trans rfl
 have Fz0:=blk_free hb 0
 have z1:=(blk_cell hb 1).trans rfl
 have Fz1:=blk_free hb 1
 have z2:=(blk_cell hb 2).trans rfl
 have Fz2:=blk_free hb 2
 have z3:=(blk_cell hb 3).trans rfl
 have Fz3:=blk_free hb 3
 have z4:=(blk_cell hb 4).trans rfl
 have Fz4:=blk_free hb 4
 have z5:=(blk_cell hb 5).trans rfl
 have Fz5:=blk_free hb 5
 have z6:=(blk_cell hb 6).trans rfl
 have Fz6:=blk_free hb 6
 have z7:=(blk_cell hb 7).trans rfl
 have Fz7:=blk_free hb 7
 have z8:=(blk_cell hb 8).trans rfl
 have Fz8:=blk_free hb 8
 have z9:=(blk_cell hb 9).trans rfl
 have Fz9:=blk_free hb 9
 have z10:=(blk_cell hb 10).trans rfl
 have Fz10:=blk_free hb 10
 have z11:=(blk_cell hb 11).trans rfl
 have Fz11:=blk_free hb 11
 have kk:=(k0.trans k1).trans k2
 clear hb hb1 hb0
 go_wp2
 refine bodyPost_ret (v:=.agg #[.int .i64 k,.int .u64 (n:Int),.string ⟨#[]⟩,.slice none 0 0,.int .i64 0,.slice none 0 0,.int .i64 k,.int .u64 (m:Int),.string ⟨#[]⟩,.slice none 0 0,.int .i64 0,.slice none 0 0]) (by simp [results,Tryz.results51,go_sem,z0,z1,z2,z3,z4,z5,z6,z7,z8,z9,z10,z11]) rfl ⟨rfl,?_⟩
 repeat (refine Keep.setCell ?_ (Or.inl (b:=¬True) (by simp)) _)
 exact kk
theorem maybe_is(l:List Nat)(hl:∀n∈l,n<65536)(w:World)(s:Value)(hs:U16s w l s):Calls Tryz.prog 50 #[.int .i64 3,s] w fun e w'=>e=.returned (.agg #[.int .i64 (kMy l),.int .u64 (nMy l:Int),.string ⟨#[]⟩,.slice none 0 0,.int .i64 0,.slice none 0 0,.int .i64 0,.int .u64 0,.string ⟨#[]⟩,.slice none 0 0,.int .i64 0,.slice none 0 0])∧New w w':=by
 obtain⟨A0,c0,rfl,h1,h2,h3⟩:=hs
 have k0:=(Keep.refl (fun _=>True) w).alloc (.cells #[.int .i64 0,.int .u64 0,.string ⟨#[]⟩,.slice none 0 0,.int .i64 0,.slice none 0 0,.int .i64 0,.int .u64 0,.string ⟨#[]⟩,.slice none 0 0,.int .i64 0,.slice none 0 0] 81)
 have hb0:=blk_new w (.cells #[.int .i64 0,.int .u64 0,.string ⟨#[]⟩,.slice none 0 0,.int .i64 0,.slice none 0 0,.int .i64 0,.int .u64 0,.string ⟨#[]⟩,.slice none 0 0,.int .i64 0,.slice none 0 0] 81)
 rcases l with _ | ⟨n,r⟩
 ·go_enter Tryz.func50,Tryz.ntmps50
  go_wp2
  refine bodyPost_ret (v:=.agg #[.int .i64 0,.int .u64 0,.string ⟨#[]⟩,.slice none 0 0,.int .i64 0,.slice none 0 0,.int .i64 0,.int .u64 0,.string ⟨#[]⟩,.slice none 0 0,.int .i64 0,.slice none 0 0]) (by simp [results,Tryz.results50,go_sem]) rfl ⟨rfl,k0⟩
 obtain⟨d,i,rfl,hat⟩:=h3 (by simp)
 have e0:=hat 0 (by simp)
 simp only [Nat.add_zero,List.getElem_cons_zero]at e0
 obtain⟨m,hm⟩:∃m,m=(n::r).length:=⟨_,rfl⟩
 have hm0:0<m:=by rw [hm];simp
 rw [←hm]at h1 ⊢
 have tm:((m:Int)==0)=false:=by simp;omega
 have g0:=k0.cell e0 trivial
 have i1:(0:Int)<(m:Int):=by omega
 have hu:=u64n (n:=n) (by have:=hl n (List.mem_cons_self ..);omega)
 clear hat h3 e0 hm hl
 go_enter Tryz.func50,Tryz.ntmps50
 go_wp2_with fail
 refine(ofNumber_is 3 n _).mono ?_
 rintro e w1 ⟨rfl,k1⟩
 have hb:=k1.blk hb0 trivial
 have z0:=(blk_cell hb 0).trans rfl
 have Fz0:=blk_free hb 0
 have z1:=(blk_cell hb 1).trans rfl
 have Fz1:=blk_free hb 1
 have z2:=(blk_cell hb 2).trans rfl
 have Fz2:=blk_free hb 2
 have z3:=(blk_cell hb 3).trans rfl
 have Fz3:=blk_free hb 3
 have z4:=(blk_cell hb 4).trans rfl
 have Fz4:=blk_free hb 4
 have z5:=(blk_cell hb 5).trans rfl
 have Fz5:=blk_free hb 5
 have z6:=(blk_cell hb 6).trans rfl
 have Fz6:=blk_free hb 6
 have z7:=(blk_cell hb 7).trans rfl
 have Fz7:=blk_free hb 7
 have z8:=(blk_cell hb 8).trans rfl
 have Fz8:=blk_free hb 8
 have z9:=(blk_cell hb 9).trans rfl
 have Fz9:=blk_free hb 9
 have z10:=(blk_cell hb 10).trans rfl
 have Fz10:=blk_free hb 10
 have z11:=(blk_cell hb 11).trans rfl
 have Fz11:=blk_free hb 11
 have kk:=k0.trans k1
 clear hb hb0
 go_wp2
 refine bodyPost_ret (v:=.agg #[.int .i64 3,.int .u64 (n:Int),.string ⟨#[]⟩,.slice none 0 0,.int .i64 0,.slice none 0 0,.int .i64 0,.int .u64 0,.string ⟨#[]⟩,.slice none 0 0,.int .i64 0,.slice none 0 0]) (by simp [results,Tryz.results50,go_sem,z0,z1,z2,z3,z4,z5,z6,z7,z8,z9,z10,z11]) rfl ⟨rfl,?_⟩
 repeat (refine Keep.setCell ?_ (Or.inl (b:=¬True) (by simp)) _)
 exact kk
theorem newU16_is(p:Addr)(w:World):Calls Tryz.prog 70 #[.pointer (some p)] w fun e w'=>e=.returned (.iface 176 (.agg #[.pointer (some p)]))∧w'=w:=by
 go_enter Tryz.func70,Tryz.ntmps70
 go_wp2
 go_ret
 exact⟨rfl,rfl⟩
theorem few_nil(w:World):Calls Tryz.prog 76 #[.pointer none] w fun e w'=>e=.returned (.slice none 0 0)∧w'=w:=by
 go_enter Tryz.func76,Tryz.ntmps76
 go_wp2
 go_ret
 exact⟨rfl,rfl⟩
theorem few_one(b n:Nat)(w:World)(hb:w.heap[b]? =some (.cells #[.int .u16 (n:Int)] 117 (0,0))):Calls Tryz.prog 76 #[.pointer (some ⟨b,0,none⟩)] w fun e w'=>e=.returned (.slice (some ⟨w.heap.size,0,none⟩) 1 1)∧w'=w.alloc (.cells #[.int .u16 (n:Int)] 117):=by
 have c0:=(blk_cell hb 0).trans rfl
 go_enter Tryz.func76,Tryz.ntmps76
 go_wp2
 go_ret
 exact⟨rfl,rfl⟩
def POut(g b i:Nat)(r:List UInt8)(cs:Array Value)(T:TypeId)(x:Int)(w w':World):Prop:=
 ∃p,w'.heap[b]? =some (.cells (cs.setIfInBounds i (.pointer (some ⟨p,0,none⟩))) T (0,0))∧w.heap.size≤p∧w'.heap[p]? =some (.cells #[.int .u16 x] 117 (0,0))∧Keep (fun k=>k≠g∧k≠b) w w'∧Buf w' g r
theorem ptrU16_is(g b i:Nat)(hbg:b≠g)(b0:UInt8)(bb r:List UInt8)(hb64:b0≠64)(x:Int)(hr:∀w1,Buf w1 g (b0::(bb++r))→Calls Tryz.prog 103 #[.pointer (some ⟨g,0,none⟩)] w1 fun e w'=>e=.returned (.tuple #[.int .u16 x,.nilIface])∧Adv g r w1 w')
 (cs:Array Value) (T:TypeId) (hT:T≠5) (hi:cs[i]? =some (.pointer none)) (w:World) (hc:w.heap[b]? =some (.cells cs T (0,0))) (B:Buf w g (b0::(bb++r))):
 Calls Tryz.prog 358 #[.agg #[.pointer (some ⟨b,i,none⟩)],.pointer (some ⟨g,0,none⟩)] w fun e w'=>e=.returned .nilIface∧POut g b i r cs T x w w':=by
 have hblt:=lt_blk hc
 have hglt:=B.lt
 have hi':i<cs.size:=by
  rcases Nat.lt_or_ge i cs.size with h | h
  ·exact h
  ·rw [Array.getElem?_eq_none h]at hi;cases hi
 have hs0:(w.setCell ⟨b,i,none⟩ (.pointer (some ⟨w.heap.size+1,0,none⟩))).heap.size=w.heap.size:=by simp [World.setCell]
 have kN:New (w.setCell ⟨b,i,none⟩ (.pointer (some ⟨w.heap.size+1,0,none⟩))) (((w.setCell ⟨b,i,none⟩ (.pointer (some ⟨w.heap.size+1,0,none⟩))).alloc (.cells #[.pointer (some ⟨b,i,none⟩)] 176)).alloc (.cells #[.int .u16 0] 117)):=((Keep.refl (fun _=>True) _).alloc _).alloc _
 have hb0:=blk_set hc i (.pointer (some ⟨w.heap.size+1,0,none⟩))
 have hb3:=kN.blk hb0 trivial
 have he3:=blk_new ((w.setCell ⟨b,i,none⟩ (.pointer (some ⟨w.heap.size+1,0,none⟩))).alloc (.cells #[.pointer (some ⟨b,i,none⟩)] 176)) (.cells #[.int .u16 0] 117)
 have hx3:=blk_alloc (blk_new (w.setCell ⟨b,i,none⟩ (.pointer (some ⟨w.heap.size+1,0,none⟩))) (.cells #[.pointer (some ⟨b,i,none⟩)] 176)) (.cells #[.int .u16 0] 117)
 simp only [World.size_alloc,hs0]at he3 hx3
 have H3:=(B.set hc hT hbg i (.pointer (some ⟨w.heap.size+1,0,none⟩))).new kN
 have kS:Keep (fun k=>k≠g∧k≠b) w (((w.setCell ⟨b,i,none⟩ (.pointer (some ⟨w.heap.size+1,0,none⟩))).alloc (.cells #[.pointer (some ⟨b,i,none⟩)] 176)).alloc (.cells #[.int .u16 0] 117)):=(((Keep.refl (fun k=>k≠g∧k≠b) w).setCell (p:=⟨b,i,none⟩) (.inr (by simp)) (.pointer (some ⟨w.heap.size+1,0,none⟩))).alloc _).alloc _
 have hsz:(((w.setCell ⟨b,i,none⟩ (.pointer (some ⟨w.heap.size+1,0,none⟩))).alloc (.cells #[.pointer (some ⟨b,i,none⟩)] 176)).alloc (.cells #[.int .u16 0] 117)).heap.size=w.heap.size+2:=by simp [World.setCell]
 have hcall:=unm_u16 g ⟨w.heap.size+1,0,none⟩ (by show w.heap.size+1≠g;omega) b0 bb r hb64 x hr (((w.setCell ⟨b,i,none⟩ (.pointer (some ⟨w.heap.size+1,0,none⟩))).alloc (.cells #[.pointer (some ⟨b,i,none⟩)] 176)).alloc (.cells #[.int .u16 0] 117)) (.int .u16 0) ((blk_cell he3 0).trans rfl) (blk_free he3 0) H3
 have HC:=Lib.hid hcall
 have HE:=Lib.hid he3
 have HB3:=Lib.hid hb3
 have KS:=Lib.hid kS
 have hc2:=blk_alloc (blk_alloc hc (.cells #[.pointer (some ⟨b,i,none⟩)] 176)) (.cells #[.int .u16 0] 117)
 have z0:=(blk_cell (blk_alloc (blk_new w (.cells #[.pointer (some ⟨b,i,none⟩)] 176)) (.cells #[.int .u16 0] 117)) 0).trans rfl
 have z2:=(blk_cell hc2 i).trans hi
 have F2:=blk_free hc i
 have y0:=(blk_cell hx3 0).trans rfl
 have y2:=(blk_cell hb3 i).trans (by simp [hi']:(cs.setIfInBounds i (.pointer (some ⟨w.heap.size+1,0,none⟩)))[i]? =some (.pointer (some ⟨w.heap.size+1,0,none⟩)))
 have x0:=(blk_cell (blk_new w (.cells #[.pointer (some ⟨b,i,none⟩)] 176)) 0).trans rfl
 have x2:=(blk_cell (blk_alloc hc (.cells #[.pointer (some ⟨b,i,none⟩)] 176)) i).trans hi
 clear hcall hr B hc hc2 hb0 hb3 he3 hx3 H3 kS
 go_enter Tryz.func358,Tryz.ntmps358
 go_wp2_with fail
 refine HC.out.mono ?_
 rintro e w' ⟨rfl,w1,rfl,h1⟩
 go_wp2
 go_ret
 have hbe:b≠w.heap.size+1:=by omega
 have hge:g≠w.heap.size+1:=by omega
 refine⟨rfl,w.heap.size+1,?_,by omega,?_,?_,?_⟩
 ·exact((Keep.refl (fun k=>k≠w.heap.size+1) w1).setCell (.inr (by simp)) _).blk (h1.1.blk HB3.out hbg) hbe
 ·exact(blk_set (h1.1.blk HE.out (show w.heap.size+1≠g by omega)) 0 _).trans rfl
 ·exact((KS.out.trans (h1.1.mono fun k _ hk=>hk.1)).setCell (.inl (by show w.heap.size≤w.heap.size+1;omega)) _)
 ·exact h1.2.set (h1.1.blk HE.out (show w.heap.size+1≠g by omega)) (by decide) (Ne.symm hge) 0 _
end Go.Proofs.YtfoegolfadhmjaaGreatDoor
