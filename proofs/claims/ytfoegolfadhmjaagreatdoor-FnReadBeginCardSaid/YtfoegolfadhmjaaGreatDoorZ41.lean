/- spec.Composite.Is. -/
import Derived.Test.YtfoegolfadhmjaaGreatDoorZ40
set_option linter.all false
set_option maxRecDepth 100000
set_option maxHeartbeats 8000000
namespace Go.Proofs.YtfoegolfadhmjaaGreatDoor
open Go.RowKit Go.WideShapes Go.Sort
theorem field78_3(A:Option Addr)(n c d:Nat)(w:World):(Instr.field 78 (.agg #[.int .i64 21,.int .u64 0,.string ⟨#[]⟩,.slice A n c,.int .i64 0,.slice (some ⟨d,0,none⟩) 1 1]) 3).run Tryz.prog w=.ok (.slice A n c) w:=by kernel_rfl
theorem is_is(c:Nat)(hc:c<18446744073709551616)(fs:List (V×V))(hm:fs.length≤1000)(kb:List V)(hkb:kb.length≤fs.length)(o od:Int)(hF:∀j (h:j<fs.length),SameC fs[j] (atN (fs.map (·.1)) j) (atN kb j))(w:World)(s x:Value)(hs:FM w fs s)(hx:VM w (.mk 21 0 [] kb o [.mk 5 c [] [] od []]) x):
 Calls Tryz.prog 36 #[.agg #[.int .u64 (c:Int),s],x] w fun e w'=>e=.returned (.bool true)∧New w w':=by
 obtain⟨A,cc,rfl,-,-⟩:=hs.shape
 obtain⟨sk,sd,rfl,hn0,hk,hd⟩:=hx.inv
 obtain⟨A1,c1,rfl,-,-⟩:=hk.shape
 obtain⟨A2,c2,rfl,-,-⟩:=hd.shape
 obtain⟨d,i,hAe,-,-,-,hat⟩:=hd.at2 (by simp)
 cases hAe
 obtain⟨e0,e1,e2,e3,e4,e5,hve,g0,g1,-⟩:=hat 0 (by simp)
 simp only [List.getElem_cons_zero,Nat.zero_mul,Nat.add_zero]at hve g0 g1
 obtain⟨A9,c9,o9,A0,c0,heq,-,-⟩:=hve.parts'
 simp only [Value.agg.injEq,Array.mk.injEq,List.cons.injEq,and_true]at heq
 obtain⟨rfl,rfl,rfl,rfl,rfl,rfl⟩:=heq
 simp only [V.kind,V.num,List.length_cons,List.length_nil]at g0 g1
 simp only [List.length_cons,List.length_nil]
 obtain⟨n,hn⟩:∃n,n=fs.length:=⟨_,rfl⟩
 obtain⟨m,hm2⟩:∃m,m=kb.length:=⟨_,rfl⟩
 have HSK:=Lib.hid (fun W (s1 s2 s3:Value) (h1:FM W fs s1) (h2:LM W (fs.map (·.1)) s2) (h3:LM W kb s3)=>sameKids_is c fs (fs.map (·.1)) kb (by simp) hkb hm hF W s1 s2 s3 h1 h2 h3)
 have HWH:=Lib.hid (fun W (s1:Value) (h1:FM W fs s1)=>whole_is c hc fs hm W s1 h1 fs.length rfl)
 rw [←hn]at hs ⊢
 rw [←hm2]at hk ⊢
 have HS:=Lib.hid hs
 have HK:=Lib.hid hk
 have HN:=Lib.hid hn
 have k0:=((Keep.refl (fun _=>True) w).alloc (.cells #[.int .u64 (c:Int),.slice A n cc] 33)).alloc (.cells #[.int .i64 21,.int .u64 0,.string ⟨#[]⟩,.slice A1 m c1,.int .i64 o,.slice (some ⟨d,i,none⟩) 1 c2] 78)
 have hbc:=blk_alloc (blk_new w (.cells #[.int .u64 (c:Int),.slice A n cc] 33)) (.cells #[.int .i64 21,.int .u64 0,.string ⟨#[]⟩,.slice A1 m c1,.int .i64 o,.slice (some ⟨d,i,none⟩) 1 c2] 78)
 have hbv:=blk_new (w.alloc (.cells #[.int .u64 (c:Int),.slice A n cc] 33)) (.cells #[.int .i64 21,.int .u64 0,.string ⟨#[]⟩,.slice A1 m c1,.int .i64 o,.slice (some ⟨d,i,none⟩) 1 c2] 78)
 simp only [World.size_alloc]at hbv
 obtain⟨W,hW⟩:∃W,W=(w.alloc (.cells #[.int .u64 (c:Int),.slice A n cc] 33)).alloc (.cells #[.int .i64 21,.int .u64 0,.string ⟨#[]⟩,.slice A1 m c1,.int .i64 o,.slice (some ⟨d,i,none⟩) 1 c2] 78):=⟨_,rfl⟩
 rw [←hW]at k0 hbc hbv
 have HWE:=Lib.hid hW
 have q0:=k0.cell g0 trivial
 have q1:=k0.cell g1 trivial
 have HBC:=Lib.hid hbc
 have HBV:=Lib.hid hbv
 have z0:W.cell? ⟨w.heap.size,0,none⟩=some (.int .u64 (c:Int)):=(blk_cell hbc 0).trans rfl
 have y0:W.cell? ⟨w.heap.size+1,0,none⟩=some (.int .i64 21):=(blk_cell hbv 0).trans rfl
 have y5:W.cell? ⟨w.heap.size+1,5,none⟩=some (.slice (some ⟨d,i,none⟩) 1 c2):=(blk_cell hbv 5).trans rfl
 have z0':=fun x os=>cell_regrown z0 x os
 have y0':=fun x os=>cell_regrown y0 x os
 have y5':=fun x os=>cell_regrown y5 x os
 have q0':=fun x os=>cell_regrown q0 x os
 have q1':=fun x os=>cell_regrown q1 x os
 clear hs hx hk hd hat hve g0 g1 hm hkb hF hn hm2 hbc hbv hW z0 y0 y5 q0 q1
 go_enter Tryz.func36,Tryz.ntmps36
 go_wp2_with fail
 rw [←HWE.out]
 refine wp_region_quiet_below (by kernel_rfl) (by kernel_rfl) ?_
 repeat (go_big_quiet_step (fail))
 refine wpQuiet_nil ?_
 intro _ hw'
 obtain⟨⟨dq,osq⟩,hw''⟩:=hw'
 subst hw''
 have kx:=new_regrown W dq osq
 obtain⟨W1,hW1⟩:∃W1,W1=grow (redrawn W dq) osq:=⟨_,rfl⟩
 rw [←hW1]at kx ⊢
 clear hW1 z0' y0' y5' q0' q1'
 have kd:=(Keep.refl (fun _=>True) W1).drew
 have nn:New w W1.drew:=(k0.trans kx).trans kd
 have BC:W1.drew.heap[w.heap.size]? =some (.cells #[.int .u64 (c:Int),.slice A n cc] 33 (0,0)):=(kx.trans kd).blk HBC.out trivial
 have BV:W1.drew.heap[w.heap.size+1]? =some (.cells #[.int .i64 21,.int .u64 0,.string ⟨#[]⟩,.slice A1 m c1,.int .i64 o,.slice (some ⟨d,i,none⟩) 1 c2] 78 (0,0)):=(kx.trans kd).blk HBV.out trivial
 have u0:W1.drew.cell? ⟨w.heap.size,0,none⟩=some (.int .u64 (c:Int)):=(blk_cell BC 0).trans rfl
 have u1:W1.drew.cell? ⟨w.heap.size,1,none⟩=some (.slice A n cc):=(blk_cell BC 1).trans rfl
 have u3:W1.drew.cell? ⟨w.heap.size+1,3,none⟩=some (.slice A1 m c1):=(blk_cell BV 3).trans rfl
 go_wp2_with fail
 have hfld:=field78_3
 go_region_law
  (first
   | (go_simp;go_at_call 31;refine(HWH.out _ _ (HS.out.keep (show New w _ by assumption))).mono ?_;rintro e wa ⟨sk,dd,rfl,ka,⟨cells,hown,hmem⟩,-,-⟩;have hlm:=LM.own (l:=fs.map (·.1)) (base:=dd+2) (cells:=cells) (by rw [List.length_map];exact hown) (hmem.keep ka);obtain⟨Ak,ck,rfl⟩:=own_shape hown;have nn:=Keep.trans (show New w _ by assumption) ka;have BC:=ka.blk (b:=w.heap.size) (o:=.cells #[.int .u64 (c:Int),.slice A n cc] 33 (0,0)) (by assumption) trivial;have BV:=ka.blk (b:=w.heap.size+1) (o:=.cells #[.int .i64 21,.int .u64 0,.string ⟨#[]⟩,.slice A1 m c1,.int .i64 o,.slice (some ⟨d,i,none⟩) 1 c2] 78 (0,0)) (by assumption) trivial;have v0:wa.cell? ⟨w.heap.size,0,none⟩=some (.int .u64 (c:Int)):=(blk_cell BC 0).trans rfl;have v1:wa.cell? ⟨w.heap.size,1,none⟩=some (.slice A n cc):=(blk_cell BC 1).trans rfl;have v3:wa.cell? ⟨w.heap.size+1,3,none⟩=some (.slice A1 m c1):=(blk_cell BV 3).trans rfl)
   | (go_simp;go_at_call 63;refine(HSK.out _ _ _ _ (HS.out.keep nn) hlm (HK.out.keep nn)).mono ?_;rintro e wz ⟨rfl,kz⟩;have nn:=Keep.trans (show New w _ by assumption) kz))
 all_goals
  go_wp2
  go_ret
  exact⟨rfl,nn⟩
end Go.Proofs.YtfoegolfadhmjaaGreatDoor
