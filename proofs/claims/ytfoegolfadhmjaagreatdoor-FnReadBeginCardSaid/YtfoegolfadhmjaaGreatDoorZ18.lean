/- spec.SameLoosely. -/
import Derived.Test.YtfoegolfadhmjaaGreatDoorZ17
set_option linter.all false
set_option maxRecDepth 100000
set_option maxHeartbeats 16000000
namespace Go.Proofs.YtfoegolfadhmjaaGreatDoor
open Go.RowKit Go.WideShapes Go.Sort
theorem loose_val(N:Nat):N≤1099511627776→∀(a b:V),cnt a≤N→NoD [a]→NoD [b]→∀(w:World) (x y:Value),VM w a x→VM w b y→Calls Tryz.prog 137 #[x,y] w fun e w'=>e=.returned (.bool (sameL a b))∧New w w':=by
 induction N with
 | zero=>
   intro _ a b h
   cases a
   simp only [cnt]at h
   omega
 | succ N ih=>
   intro hmx a b hN na nb w x y hx hy
   obtain⟨k,n,t,ks,o,rfl,nka⟩:=na.inv
   obtain⟨k',n',t',ks',o',rfl,nkb⟩:=nb.inv
   clear na nb
   by_cases hk:¬k=21∧¬k=22
   ·have hS:=same_val (N+1) (.mk k n t ks o []) (.mk k' n' t' ks' o' []) hN
    have HX:=Lib.hid hx
    have HY:=Lib.hid hy
    obtain⟨sk,sd,rfl,hn,hks,hds⟩:=hx.inv
    obtain⟨sk',sd',rfl,hn',hks',hds'⟩:=hy.inv
    obtain⟨A1,c1,rfl,-,-⟩:=hks.shape
    obtain⟨A2,c2,rfl,-,-⟩:=hds.shape
    obtain⟨A3,c3,rfl,-,-⟩:=hks'.shape
    obtain⟨A4,c4,rfl,-,-⟩:=hds'.shape
    have HS:=Lib.hid hS
    have h21:=hk.1
    have h22:=hk.2
    have t21:(k !=21)=true:=by simpa using h21
    have t22:(k !=22)=true:=by simpa using h22
    have hfin:sameL (.mk k n t ks o []) (.mk k' n' t' ks' o' [])=sameV (.mk k n t ks o []) (.mk k' n' t' ks' o' []):=sameL_leaf h21 h22
    have HF:=Lib.hid hfin
    clear hfin hS hks hds hks' hds' hx hy hk ih hN
    go_enter Tryz.func137,Tryz.ntmps137
    go_wp2_with fail
    refine(HS.out _ _ _ (HX.out.keep (((Keep.refl _ w).alloc _).alloc _)) (HY.out.keep (((Keep.refl _ w).alloc _).alloc _))).mono ?_
    rintro e w2 ⟨rfl,k2⟩
    rw [←HF.out]
    go_wp2
    go_ret
    exact⟨rfl,(((Keep.refl _ w).alloc _).alloc _).trans k2⟩
   ·obtain⟨sk,sd,rfl,hn,hks,hds⟩:=hx.inv
    obtain⟨sk',sd',rfl,hn',hks',hds'⟩:=hy.inv
    obtain⟨A1,c1,rfl,-,-⟩:=hks.shape
    obtain⟨A2,c2,rfl,-,-⟩:=hds.shape
    obtain⟨A3,c3,rfl,-,-⟩:=hks'.shape
    obtain⟨A4,c4,rfl,-,-⟩:=hds'.shape
    have HK:=Lib.hid hks
    have HK':=Lib.hid hks'
    have IH:=Lib.hid (ih (by omega))
    have NA:=Lib.hid nka
    have NB:=Lib.hid nkb
    have hNk:cnts ks≤N:=by simp only [cnt]at hN;omega
    have hmb:ks.length≤1099511627776:=by have:=len_cnts ks;omega
    clear hx hy hks hds hks' hds' ih hN nka nkb
    simp only [List.length_nil]
    by_cases h1:k=k'
    case neg=>
     have hres:sameL (.mk k n t ks o []) (.mk k' n' t' ks' o' [])=false:=by
      have h1':¬k=k':=h1
      have:k=21∨k=22:=by omega
      rcases this with rfl | rfl<;>simp [sameL,V.kind,h1']
     have HR:=Lib.hid hres
     clear hres
     have hkk:k=21∨k=22:=by omega
     rcases hkk with rfl | rfl
     ·have u1:((21:Int) !=k')=true:=by simpa using h1
      go_enter Tryz.func137,Tryz.ntmps137
      go_wp2_with fail
      obtain⟨w1,hw1⟩:∃w1,w1=(w.alloc (.cells #[.int .i64 21,.int .u64 (n:Int),.string ⟨t.toArray⟩,.slice A1 ks.length c1,.int .i64 o,.slice A2 0 c2] 78)).alloc (.cells #[.int .i64 k',.int .u64 (n':Int),.string ⟨t'.toArray⟩,.slice A3 ks'.length c3,.int .i64 o',.slice A4 0 c4] 78):=⟨_,rfl⟩
      have kw1:New w w1:=by rw [hw1];exact((Keep.refl _ _).alloc _).alloc _
      have D1:w1.heap[w.heap.size]? =some (.cells #[.int .i64 21,.int .u64 (n:Int),.string ⟨t.toArray⟩,.slice A1 ks.length c1,.int .i64 o,.slice A2 0 c2] 78 (0,0)):=by rw [hw1];exact blk_alloc (blk_new w _) _
      have D2:w1.heap[w.heap.size+1]? =some (.cells #[.int .i64 k',.int .u64 (n':Int),.string ⟨t'.toArray⟩,.slice A3 ks'.length c3,.int .i64 o',.slice A4 0 c4] 78 (0,0)):=by rw [hw1];simpa using blk_new (w.alloc (.cells #[.int .i64 21,.int .u64 (n:Int),.string ⟨t.toArray⟩,.slice A1 ks.length c1,.int .i64 o,.slice A2 0 c2] 78)) (.cells #[.int .i64 k',.int .u64 (n':Int),.string ⟨t'.toArray⟩,.slice A3 ks'.length c3,.int .i64 o',.slice A4 0 c4] 78)
      rw [←hw1]
      clear hw1
      have x0:=(blk_cell D1 0).trans rfl
      have x3:=(blk_cell D1 3).trans rfl
      have y0:=(blk_cell D2 0).trans rfl
      have y3:=(blk_cell D2 3).trans rfl
      have x0':=fun q os=>cell_regrown x0 q os
      have x3':=fun q os=>cell_regrown x3 q os
      have y0':=fun q os=>cell_regrown y0 q os
      have y3':=fun q os=>cell_regrown y3 q os
      refine wp_region_quiet_below (by kernel_rfl) (by kernel_rfl) ?_
      repeat (go_big_quiet_step (fail))
      refine wpQuiet_nil ?_
      intro _ hw'
      obtain⟨⟨dq,osq⟩,hw''⟩:=hw'
      subst hw''
      go_wp2
      go_ret
      exact⟨by rw [HR.out];rfl,kw1.trans (new_regrown w1 dq osq)⟩
     ·have u1:((22:Int) !=k')=true:=by simpa using h1
      go_enter Tryz.func137,Tryz.ntmps137
      go_wp2_with fail
      obtain⟨w1,hw1⟩:∃w1,w1=(w.alloc (.cells #[.int .i64 22,.int .u64 (n:Int),.string ⟨t.toArray⟩,.slice A1 ks.length c1,.int .i64 o,.slice A2 0 c2] 78)).alloc (.cells #[.int .i64 k',.int .u64 (n':Int),.string ⟨t'.toArray⟩,.slice A3 ks'.length c3,.int .i64 o',.slice A4 0 c4] 78):=⟨_,rfl⟩
      have kw1:New w w1:=by rw [hw1];exact((Keep.refl _ _).alloc _).alloc _
      have D1:w1.heap[w.heap.size]? =some (.cells #[.int .i64 22,.int .u64 (n:Int),.string ⟨t.toArray⟩,.slice A1 ks.length c1,.int .i64 o,.slice A2 0 c2] 78 (0,0)):=by rw [hw1];exact blk_alloc (blk_new w _) _
      have D2:w1.heap[w.heap.size+1]? =some (.cells #[.int .i64 k',.int .u64 (n':Int),.string ⟨t'.toArray⟩,.slice A3 ks'.length c3,.int .i64 o',.slice A4 0 c4] 78 (0,0)):=by rw [hw1];simpa using blk_new (w.alloc (.cells #[.int .i64 22,.int .u64 (n:Int),.string ⟨t.toArray⟩,.slice A1 ks.length c1,.int .i64 o,.slice A2 0 c2] 78)) (.cells #[.int .i64 k',.int .u64 (n':Int),.string ⟨t'.toArray⟩,.slice A3 ks'.length c3,.int .i64 o',.slice A4 0 c4] 78)
      rw [←hw1]
      clear hw1
      have x0:=(blk_cell D1 0).trans rfl
      have x3:=(blk_cell D1 3).trans rfl
      have y0:=(blk_cell D2 0).trans rfl
      have y3:=(blk_cell D2 3).trans rfl
      have x0':=fun q os=>cell_regrown x0 q os
      have x3':=fun q os=>cell_regrown x3 q os
      have y0':=fun q os=>cell_regrown y0 q os
      have y3':=fun q os=>cell_regrown y3 q os
      refine wp_region_quiet_below (by kernel_rfl) (by kernel_rfl) ?_
      repeat (go_big_quiet_step (fail))
      refine wpQuiet_nil ?_
      intro _ hw'
      obtain⟨⟨dq,osq⟩,hw''⟩:=hw'
      subst hw''
      go_wp2
      go_ret
      exact⟨by rw [HR.out];rfl,kw1.trans (new_regrown w1 dq osq)⟩
    subst h1
    by_cases h4:ks.length=ks'.length
    case neg=>
     have hkk:k=21∨k=22:=by omega
     have hres:sameL (.mk k n t ks o []) (.mk k n' t' ks' o' [])=false:=by
      rcases hkk with rfl | rfl<;>simp [sameL,V.kind,V.kids,h4]
     have HR:=Lib.hid hres
     clear hres
     rcases hkk with rfl | rfl
     ·have u1:((ks.length:Int) !=ks'.length)=true:=by simp;omega
      go_enter Tryz.func137,Tryz.ntmps137
      go_wp2_with fail
      obtain⟨w1,hw1⟩:∃w1,w1=(w.alloc (.cells #[.int .i64 21,.int .u64 (n:Int),.string ⟨t.toArray⟩,.slice A1 ks.length c1,.int .i64 o,.slice A2 0 c2] 78)).alloc (.cells #[.int .i64 21,.int .u64 (n':Int),.string ⟨t'.toArray⟩,.slice A3 ks'.length c3,.int .i64 o',.slice A4 0 c4] 78):=⟨_,rfl⟩
      have kw1:New w w1:=by rw [hw1];exact((Keep.refl _ _).alloc _).alloc _
      have D1:w1.heap[w.heap.size]? =some (.cells #[.int .i64 21,.int .u64 (n:Int),.string ⟨t.toArray⟩,.slice A1 ks.length c1,.int .i64 o,.slice A2 0 c2] 78 (0,0)):=by rw [hw1];exact blk_alloc (blk_new w _) _
      have D2:w1.heap[w.heap.size+1]? =some (.cells #[.int .i64 21,.int .u64 (n':Int),.string ⟨t'.toArray⟩,.slice A3 ks'.length c3,.int .i64 o',.slice A4 0 c4] 78 (0,0)):=by rw [hw1];simpa using blk_new (w.alloc (.cells #[.int .i64 21,.int .u64 (n:Int),.string ⟨t.toArray⟩,.slice A1 ks.length c1,.int .i64 o,.slice A2 0 c2] 78)) (.cells #[.int .i64 21,.int .u64 (n':Int),.string ⟨t'.toArray⟩,.slice A3 ks'.length c3,.int .i64 o',.slice A4 0 c4] 78)
      rw [←hw1]
      clear hw1
      have x0:=(blk_cell D1 0).trans rfl
      have x3:=(blk_cell D1 3).trans rfl
      have y0:=(blk_cell D2 0).trans rfl
      have y3:=(blk_cell D2 3).trans rfl
      have x0':=fun q os=>cell_regrown x0 q os
      have x3':=fun q os=>cell_regrown x3 q os
      have y0':=fun q os=>cell_regrown y0 q os
      have y3':=fun q os=>cell_regrown y3 q os
      refine wp_region_quiet_below (by kernel_rfl) (by kernel_rfl) ?_
      repeat (go_big_quiet_step (fail))
      refine wpQuiet_nil ?_
      intro _ hw'
      obtain⟨⟨dq,osq⟩,hw''⟩:=hw'
      subst hw''
      go_wp2
      go_ret
      exact⟨by rw [HR.out];rfl,kw1.trans (new_regrown w1 dq osq)⟩
     ·have u1:((ks.length:Int) !=ks'.length)=true:=by simp;omega
      go_enter Tryz.func137,Tryz.ntmps137
      go_wp2_with fail
      obtain⟨w1,hw1⟩:∃w1,w1=(w.alloc (.cells #[.int .i64 22,.int .u64 (n:Int),.string ⟨t.toArray⟩,.slice A1 ks.length c1,.int .i64 o,.slice A2 0 c2] 78)).alloc (.cells #[.int .i64 22,.int .u64 (n':Int),.string ⟨t'.toArray⟩,.slice A3 ks'.length c3,.int .i64 o',.slice A4 0 c4] 78):=⟨_,rfl⟩
      have kw1:New w w1:=by rw [hw1];exact((Keep.refl _ _).alloc _).alloc _
      have D1:w1.heap[w.heap.size]? =some (.cells #[.int .i64 22,.int .u64 (n:Int),.string ⟨t.toArray⟩,.slice A1 ks.length c1,.int .i64 o,.slice A2 0 c2] 78 (0,0)):=by rw [hw1];exact blk_alloc (blk_new w _) _
      have D2:w1.heap[w.heap.size+1]? =some (.cells #[.int .i64 22,.int .u64 (n':Int),.string ⟨t'.toArray⟩,.slice A3 ks'.length c3,.int .i64 o',.slice A4 0 c4] 78 (0,0)):=by rw [hw1];simpa using blk_new (w.alloc (.cells #[.int .i64 22,.int .u64 (n:Int),.string ⟨t.toArray⟩,.slice A1 ks.length c1,.int .i64 o,.slice A2 0 c2] 78)) (.cells #[.int .i64 22,.int .u64 (n':Int),.string ⟨t'.toArray⟩,.slice A3 ks'.length c3,.int .i64 o',.slice A4 0 c4] 78)
      rw [←hw1]
      clear hw1
      have x0:=(blk_cell D1 0).trans rfl
      have x3:=(blk_cell D1 3).trans rfl
      have y0:=(blk_cell D2 0).trans rfl
      have y3:=(blk_cell D2 3).trans rfl
      have x0':=fun q os=>cell_regrown x0 q os
      have x3':=fun q os=>cell_regrown x3 q os
      have y0':=fun q os=>cell_regrown y0 q os
      have y3':=fun q os=>cell_regrown y3 q os
      refine wp_region_quiet_below (by kernel_rfl) (by kernel_rfl) ?_
      repeat (go_big_quiet_step (fail))
      refine wpQuiet_nil ?_
      intro _ hw'
      obtain⟨⟨dq,osq⟩,hw''⟩:=hw'
      subst hw''
      go_wp2
      go_ret
      exact⟨by rw [HR.out];rfl,kw1.trans (new_regrown w1 dq osq)⟩
    obtain⟨m,hm⟩:∃m,m=ks.length:=⟨_,rfl⟩
    rw [←h4]at HK' ⊢
    rw [←hm]at HK HK' hmb ⊢
    have M1:=Lib.hid hm
    have M3:=Lib.hid (hm.trans h4)
    have hk2:k=21∨k=22:=by omega
    have hfin1:k=21→sameL (.mk k n t ks o []) (.mk k n' t' ks' o' [])=sameLs ks ks':=by
     rintro rfl
     simp [sameL,V.kind,V.kids,V.desc,h4]
    have hfin2:k=22→sameL (.mk k n t ks o []) (.mk k n' t' ks' o' [])=sameM ks ks':=by
     rintro rfl
     simp [sameL,V.kind,V.kids,V.desc,h4]
    clear hm h4 hk
    rcases hk2 with rfl | rfl
    ·have HF:=Lib.hid (hfin1 rfl)
     clear hfin1 hfin2
     go_enter Tryz.func137,Tryz.ntmps137
     go_wp2_with fail
     obtain⟨w1,hw1⟩:∃w1,w1=(w.alloc (.cells #[.int .i64 21,.int .u64 (n:Int),.string ⟨t.toArray⟩,.slice A1 m c1,.int .i64 o,.slice A2 0 c2] 78)).alloc (.cells #[.int .i64 21,.int .u64 (n':Int),.string ⟨t'.toArray⟩,.slice A3 m c3,.int .i64 o',.slice A4 0 c4] 78):=⟨_,rfl⟩
     have kw1:New w w1:=by rw [hw1];exact((Keep.refl _ _).alloc _).alloc _
     have B1:w1.heap[w.heap.size]? =some (.cells #[.int .i64 21,.int .u64 (n:Int),.string ⟨t.toArray⟩,.slice A1 m c1,.int .i64 o,.slice A2 0 c2] 78 (0,0)):=by rw [hw1];exact blk_alloc (blk_new w _) _
     have B2:w1.heap[w.heap.size+1]? =some (.cells #[.int .i64 21,.int .u64 (n':Int),.string ⟨t'.toArray⟩,.slice A3 m c3,.int .i64 o',.slice A4 0 c4] 78 (0,0)):=by rw [hw1];simpa using blk_new (w.alloc (.cells #[.int .i64 21,.int .u64 (n:Int),.string ⟨t.toArray⟩,.slice A1 m c1,.int .i64 o,.slice A2 0 c2] 78)) (.cells #[.int .i64 21,.int .u64 (n':Int),.string ⟨t'.toArray⟩,.slice A3 m c3,.int .i64 o',.slice A4 0 c4] 78)
     rw [←hw1]
     clear hw1
     have x0:=(blk_cell B1 0).trans rfl
     have x3:=(blk_cell B1 3).trans rfl
     have x5:=(blk_cell B1 5).trans rfl
     have y0:=(blk_cell B2 0).trans rfl
     have y3:=(blk_cell B2 3).trans rfl
     have y5:=(blk_cell B2 5).trans rfl
     have x0':=fun q os=>cell_regrown x0 q os
     have x3':=fun q os=>cell_regrown x3 q os
     have x5':=fun q os=>cell_regrown x5 q os
     have y0':=fun q os=>cell_regrown y0 q os
     have y3':=fun q os=>cell_regrown y3 q os
     have y5':=fun q os=>cell_regrown y5 q os
     refine wp_region_quiet_below (by kernel_rfl) (by kernel_rfl) ?_
     repeat (go_big_quiet_step (fail))
     refine wpQuiet_nil ?_
     intro _ hw'
     obtain⟨⟨dq,osq⟩,hw''⟩:=hw'
     have kq:=new_regrown w1 dq osq
     rw [←hw'']at kq
     have kw2:=kw1.trans kq
     have C1:=kq.blk B1 trivial
     have C2:=kq.blk B2 trivial
     clear x0 x3 x5 y0 y3 y5 x0' x3' x5' y0' y3' y5' B1 B2 hw'' kw1 kq
     rename_i w2
     have x0:=(blk_cell C1 0).trans rfl
     have x3:=(blk_cell C1 3).trans rfl
     go_wp2_with fail
     go_loopg [67] m (fun kk s67 wr=>∃j:Nat,j+kk=m∧s67=.int .i64 (j:Int)∧New w wr∧wr.heap[w.heap.size]? =some (.cells #[.int .i64 21,.int .u64 (n:Int),.string ⟨t.toArray⟩,.slice A1 m c1,.int .i64 o,.slice A2 0 c2] 78 (0,0))∧wr.heap[w.heap.size+1]? =some (.cells #[.int .i64 21,.int .u64 (n':Int),.string ⟨t'.toArray⟩,.slice A3 m c3,.int .i64 o',.slice A4 0 c4] 78 (0,0))∧sameLs ks ks'=sameLs (ks.drop j) (ks'.drop j))
     case atStart=>exact⟨0,by omega,rfl,kw2,C1,C2,rfl⟩
     case round=>
      obtain⟨j,hj,rfl,kr,hb1,hb2,hsm⟩:=hrel
      have SM:=Lib.hid hsm
      clear hsm
      rcases gk with _ | kk
      ·obtain rfl:j=m:=by omega
       have hv:sameLs ks ks'=true:=by
        rw [SM.out,M1.out,List.drop_length]
        rfl
       have HV:=Lib.hid hv
       clear hv
       go_wp2
       go_ret
       exact⟨by rw [HF.out,HV.out];rfl,kr⟩
      ·have hjn:j<m:=by omega
       have tj:decide (j<m)=true:=by simpa using hjn
       have hj1:j<ks.length:=by rw [←M1.out];exact hjn
       have hj2:j<ks'.length:=by rw [←M3.out];exact hjn
       have d3:=(blk_cell hb1 3).trans rfl
       have e3:=(blk_cell hb2 3).trans rfl
       obtain⟨d,i,rfl,-,-,-,hat⟩:=(HK.out.keep kr).at2 (fun h=>by rw [h]at hj1;simp at hj1)
       obtain⟨d',i',rfl,-,-,-,hat'⟩:=(HK'.out.keep kr).at2 (fun h=>by rw [h]at hj2;simp at hj2)
       obtain⟨a0,a1,a2,a3,a4,a5,hva,g0,g1,g2,g3,g4,g5⟩:=hat j hj1
       obtain⟨b0,b1,b2,b3,b4,b5,hvb,f0,f1,f2,f3,f4,f5⟩:=hat' j hj2
       have hle:cnt ks[j]≤N:=Nat.le_trans (cnts_get ks j hj1) hNk
       have hcall:=fun w' (k':New wr w')=>IH.out ks[j] ks'[j] hle (NA.out.get j hj1) (NB.out.get j hj2) w' _ _ (hva.keep k') (hvb.keep k')
       have HC:=Lib.hid hcall
       clear hva hvb hat hat' hcall
       have hst:=sameLs_step j hj1 hj2
       obtain⟨bb,hbb⟩:∃bb,bb=sameL ks[j] ks'[j]:=⟨_,rfl⟩
       rw [←hbb]at hst
       have HBB:=Lib.hid hbb
       have HST:=Lib.hid hst
       clear hbb hst
       have d3':=fun q os=>cell_regrown d3 q os
       have e3':=fun q os=>cell_regrown e3 q os
       have g0':=fun q os=>cell_regrown g0 q os
       have g1':=fun q os=>cell_regrown g1 q os
       have g2':=fun q os=>cell_regrown g2 q os
       have g3':=fun q os=>cell_regrown g3 q os
       have g4':=fun q os=>cell_regrown g4 q os
       have g5':=fun q os=>cell_regrown g5 q os
       have f0':=fun q os=>cell_regrown f0 q os
       have f1':=fun q os=>cell_regrown f1 q os
       have f2':=fun q os=>cell_regrown f2 q os
       have f3':=fun q os=>cell_regrown f3 q os
       have f4':=fun q os=>cell_regrown f4 q os
       have f5':=fun q os=>cell_regrown f5 q os
       have cQ:=fun q os=>regrown_new (v:=.bool bb) ((HC.out _ (new_regrown wr q os)).mono fun e w' h=>⟨by rw [HBB.out];exact h.1,h.2⟩)
       go_wp2_with fail
       refine wp_region_quiet_below (by kernel_rfl) (by kernel_rfl) ?_
       repeat (go_big_quiet_step (first | exact cQ _ _))
       refine wpQuiet_nil ?_
       intro _ hw'
       obtain⟨⟨dq,osq⟩,hw''⟩:=hw'
       subst hw''
       have kr4:=new_regrown wr dq osq
       have hb14:=kr4.blk hb1 trivial
       have hb24:=kr4.blk hb2 trivial
       have kr5:=kr.trans kr4
       cases bb
       ·go_wp2
        go_ret
        refine⟨?_,kr5⟩
        rw [HF.out,SM.out,HST.out]
        rfl
       ·go_wp2
        go_roundg kk
        case measure=>omega
        case rel=>
         refine⟨j+1,by omega,congrArg _ (by omega),kr5,hb14,hb24,?_⟩
         rw [SM.out,HST.out,Bool.true_and]
    ·exact loose_map N IH n n' t t' ks ks' o o' m A1 A2 A3 A4 c1 c2 c3 c4 w hn hn' HK HK' NA NB hNk hmb M1 M3 (hfin2 rfl)
end Go.Proofs.YtfoegolfadhmjaaGreatDoor
