/- spec.SameValue. -/
import Derived.Test.YtfoegolfadhmjaaGreatDoorZ04
import Derived.Lib.QuietBelow
set_option linter.all false
set_option maxRecDepth 100000
set_option maxHeartbeats 8000000
namespace Go.Proofs.YtfoegolfadhmjaaGreatDoor
open Go.RowKit Go.WideShapes Go.Sort
theorem sameVs_step{a b:List V}(j:Nat)(ha:j<a.length)(hb:j<b.length):sameVs (a.drop j) (b.drop j)=(sameV a[j] b[j]&&sameVs (a.drop (j+1)) (b.drop (j+1))):=by
 rw [List.drop_eq_getElem_cons ha,List.drop_eq_getElem_cons hb]
 simp [sameVs]
theorem cnts_get:∀(l:List V) (j:Nat) (hj:j<l.length),cnt l[j]≤cnts l
 | a::l,0,_=>by simp [cnts]
 | a::l,j+1,hj=>by
   have:=cnts_get l j (by simpa using hj)
   simp only [cnts,List.getElem_cons_succ]
   omega
theorem LM.at2{w:World}{l:List V}{A:Option Addr}{n c:Nat}(h:LM w l (.slice A n c))(hne:l≠[]):∃d i,A=some ⟨d,i,none⟩∧n=l.length∧n≤c∧c≤maxLen∧∀j (hj:j<l.length),∃a0 a1 a2 a3 a4 a5,VM w l[j] (.agg #[a0,a1,a2,a3,a4,a5])∧w.cell? ⟨d,i+j*6,none⟩=some a0∧w.cell? ⟨d,i+j*6+1,none⟩=some a1∧w.cell? ⟨d,i+j*6+2,none⟩=some a2∧w.cell? ⟨d,i+j*6+3,none⟩=some a3∧w.cell? ⟨d,i+j*6+4,none⟩=some a4∧w.cell? ⟨d,i+j*6+5,none⟩=some a5:=by
 obtain⟨d,i,c',he,h1,h2,h3⟩:=h.at hne
 injection he with e1 e2 e3
 subst e1;subst e2;subst e3
 exact⟨d,i,rfl,rfl,h1,h2,h3⟩
theorem regrown_new{f:FuncId}{args:Array Value}{w:World}{d:Nat}{os:Array Obj}{v:Value}(h:Calls Tryz.prog f args (grow (redrawn w d) os) fun e w'=>e=.returned v∧New (grow (redrawn w d) os) w'):
 Calls Tryz.prog f args (grow (redrawn w d) os) fun e w''=>e=.returned v∧∃p:Regrown,w''=grow (redrawn w p.d) p.os:=Calls.regrown_of (h.mono fun _ _ ⟨a,b⟩=>⟨a,b.below⟩)
theorem new_regrown(w:World)(d:Nat)(os:Array Obj):New w (grow (redrawn w d) os):=Keep.of_below (below_regrown w d os)
theorem same_val(N:Nat):∀(a b:V),cnt a≤N→∀(w:World) (x y:Value),VM w a x→VM w b y→Calls Tryz.prog 32 #[x,y] w fun e w'=>e=.returned (.bool (sameV a b))∧New w w':=by
 induction N with
 | zero=>
   intro a b h
   cases a
   simp only [cnt]at h
   omega
 | succ N ih=>
   intro a b hN w x y hx hy
   obtain⟨k,n,t,ks,o,ds⟩:=a
   obtain⟨k',n',t',ks',o',ds'⟩:=b
   obtain⟨sk,sd,rfl,hn,hks,hds⟩:=hx.inv
   obtain⟨sk',sd',rfl,hn',hks',hds'⟩:=hy.inv
   obtain⟨A1,c1,rfl,_,_⟩:=hks.shape
   obtain⟨A2,c2,rfl,_,_⟩:=hds.shape
   obtain⟨A3,c3,rfl,_,_⟩:=hks'.shape
   obtain⟨A4,c4,rfl,_,_⟩:=hds'.shape
   have hmb:ks.length≤maxLen:=by omega
   unfold maxLen at hmb
   have HK:=Lib.hid hks
   have HD:=Lib.hid hds
   have HK':=Lib.hid hks'
   have HD':=Lib.hid hds'
   have IH:=Lib.hid ih
   have hNk:cnts ks≤N∧cnts ds≤N:=by simp only [cnt]at hN;omega
   clear hx hy hks hds hks' hds' ih hN
   by_cases h1:k=k'
   case neg=>
    go_enter Tryz.func32,Tryz.ntmps32
    go_wp2
    go_ret
    exact⟨by simp [sameV,h1],((Keep.refl _ _).alloc _).alloc _⟩
   subst h1
   by_cases h2:n=n'
   case neg=>
    go_enter Tryz.func32,Tryz.ntmps32
    go_wp2
    go_ret
    exact⟨by simp [sameV,h2],((Keep.refl _ _).alloc _).alloc _⟩
   subst h2
   by_cases h3:t=t'
   case neg=>
    go_enter Tryz.func32,Tryz.ntmps32
    go_wp2
    go_ret
    exact⟨by simp [sameV,h3],((Keep.refl _ _).alloc _).alloc _⟩
   subst h3
   by_cases h4:ks.length=ks'.length
   case neg=>
    go_enter Tryz.func32,Tryz.ntmps32
    go_wp2
    go_ret
    exact⟨by simp [sameV,h4],((Keep.refl _ _).alloc _).alloc _⟩
   by_cases h5:ds.length=ds'.length
   case neg=>
    go_enter Tryz.func32,Tryz.ntmps32
    go_wp2
    go_ret
    exact⟨by simp [sameV,h5],((Keep.refl _ _).alloc _).alloc _⟩
   have hfin:sameV (.mk k n t ks o ds) (.mk k n t ks' o' ds')=(sameVs ks ks'&&sameD ds ds'):=by simp [sameV,h4,h5]
   have HF:=Lib.hid hfin
   clear hfin
   rw [←h4]at HK' ⊢
   rw [←h5]at HD' ⊢
   obtain⟨m,hm⟩:∃m,m=ks.length:=⟨_,rfl⟩
   obtain⟨md,hmd⟩:∃md,md=ds.length:=⟨_,rfl⟩
   rw [←hm]at HK HK' hmb ⊢
   rw [←hmd]at HD HD' ⊢
   have M1:=Lib.hid hm
   have M2:=Lib.hid hmd
   have M3:=Lib.hid (hm.trans h4)
   have M4:=Lib.hid (hmd.trans h5)
   clear hm hmd h4 h5
   go_enter Tryz.func32,Tryz.ntmps32
   go_wp2_with fail
   go_loopg [46] m (fun kk s46 wr=>∃j:Nat,j+kk=m∧s46=.int .i64 (j:Int)∧New w wr∧wr.heap[w.heap.size]? =some (.cells #[.int .i64 k,.int .u64 (n:Int),.string ⟨t.toArray⟩,.slice A1 m c1,.int .i64 o,.slice A2 md c2] 78 (0,0))∧wr.heap[w.heap.size+1]? =some (.cells #[.int .i64 k,.int .u64 (n:Int),.string ⟨t.toArray⟩,.slice A3 m c3,.int .i64 o',.slice A4 md c4] 78 (0,0))∧sameVs ks ks'=sameVs (ks.drop j) (ks'.drop j))
   case atStart=>
    refine⟨0,by omega,rfl,((Keep.refl _ _).alloc _).alloc _,blk_alloc (blk_new w _) _,?_,rfl⟩
    simpa using blk_new (w.alloc (.cells #[.int .i64 k,.int .u64 (n:Int),.string ⟨t.toArray⟩,.slice A1 m c1,.int .i64 o,.slice A2 md c2] 78)) (.cells #[.int .i64 k,.int .u64 (n:Int),.string ⟨t.toArray⟩,.slice A3 m c3,.int .i64 o',.slice A4 md c4] 78)
   case round=>
    obtain⟨j,hj,rfl,kr,hb1,hb2,hsm⟩:=hrel
    have SM:=Lib.hid hsm
    clear hsm
    rcases gk with _ | kk
    ·obtain rfl:j=m:=by omega
     have hv:sameVs ks ks'=true:=by
      rw [SM.out,M1.out,List.drop_length]
      rfl
     have HV:=Lib.hid hv
     clear hv
     have d5:=(blk_cell hb1 5).trans rfl
     have e5:=(blk_cell hb2 5).trans rfl
     by_cases hd0:md=0
     ·subst hd0
      have d5':=fun q os=>cell_regrown d5 q os
      have e5':=fun q os=>cell_regrown e5 q os
      go_wp2_with fail
      refine wp_region_quiet_below (by kernel_rfl) (by kernel_rfl) ?_
      repeat (go_big_quiet_step (fail))
      refine wpQuiet_nil ?_
      intro _ hw'
      obtain⟨⟨dq,osq⟩,hw''⟩:=hw'
      subst hw''
      go_wp2
      go_ret
      refine⟨?_,kr.trans (new_regrown wr dq osq)⟩
      have:ds=[]:=List.eq_nil_of_length_eq_zero M2.out.symm
      rw [HF.out,HV.out,this]
      rfl
     ·have hne:ds≠[]:=fun h=>hd0 (by rw [M2.out,h];rfl)
      have hne':ds'≠[]:=fun h=>hd0 (by rw [M4.out,h];rfl)
      obtain⟨d,i,rfl,-,-,-,hat⟩:=(HD.out.keep kr).at2 hne
      obtain⟨d',i',rfl,-,-,-,hat'⟩:=(HD'.out.keep kr).at2 hne'
      obtain⟨a0,a1,a2,a3,a4,a5,hva,g0,g1,g2,g3,g4,g5⟩:=hat 0 (List.length_pos_iff.2 hne)
      obtain⟨b0,b1,b2,b3,b4,b5,hvb,f0,f1,f2,f3,f4,f5⟩:=hat' 0 (List.length_pos_iff.2 hne')
      simp only [Nat.zero_mul,Nat.add_zero]at g0 g1 g2 g3 g4 g5 f0 f1 f2 f3 f4 f5
      have t0:((md:Int)==0)=false:=by simpa using hd0
      have hpos:0<md:=by omega
      have HVA:=Lib.hid hva
      have HVB:=Lib.hid hvb
      clear hva hvb hat hat'
      have hcall:=fun w' (k':New wr w')=>IH.out ds[0] ds'[0] (Nat.le_trans (cnts_get ds 0 (List.length_pos_iff.2 hne)) hNk.2) w' _ _ (HVA.out.keep k') (HVB.out.keep k')
      have HC:=Lib.hid hcall
      clear hcall
      have d5':=fun q os=>cell_regrown d5 q os
      have e5':=fun q os=>cell_regrown e5 q os
      have g0':=fun q os=>cell_regrown g0 q os
      have g1':=fun q os=>cell_regrown g1 q os
      have g2':=fun q os=>cell_regrown g2 q os
      have g3':=fun q os=>cell_regrown g3 q os
      have g4':=fun q os=>cell_regrown g4 q os
      have g5':=fun q os=>cell_regrown g5 q os
      have f0':=fun q os=>cell_regrown f0 q os
      have f1':=fun q os=>cell_regrown f1 q os
      have f2':=fun q os=>cell_regrown f2 q os
      have f3':=fun q os=>cell_regrown f3 q os
      have f4':=fun q os=>cell_regrown f4 q os
      have f5':=fun q os=>cell_regrown f5 q os
      have cQ:=fun q os=>regrown_new (HC.out _ (new_regrown wr q os))
      go_wp2_with fail
      refine wp_region_quiet_below (by kernel_rfl) (by kernel_rfl) ?_
      repeat (go_big_quiet_step (first | exact cQ _ _))
      refine wpQuiet_nil ?_
      intro _ hw'
      obtain⟨⟨dq,osq⟩,hw''⟩:=hw'
      subst hw''
      go_wp2
      go_ret
      refine⟨?_,kr.trans (new_regrown wr dq osq)⟩
      rw [HF.out,HV.out]
      match ds,ds',hne,hne' with
      | a::r,b::r',_,_=>rfl
    ·have hjn:j<m:=by omega
     have tj:decide (j<m)=true:=by simpa using hjn
     have hj1:j<ks.length:=by rw [←M1.out];exact hjn
     have hj2:j<ks'.length:=by rw [←M3.out];exact hjn
     have d3:=(blk_cell hb1 3).trans rfl
     have e3:=(blk_cell hb2 3).trans rfl
     obtain⟨d,i,rfl,-,-,-,hat⟩:=(HK.out.keep kr).at2 (fun h=>by rw [h]at hj1;simp at hj1)
     obtain⟨d',i',rfl,-,-,-,hat'⟩:=(HK'.out.keep kr).at2 (fun h=>by rw [h]at hj2;simp at hj2)
     obtain⟨a0,a1,a2,a3,a4,a5,hva,g0,g1,g2,g3,g4,g5⟩:=hat j hj1
     obtain⟨b0,b1,b2,b3,b4,b5,hvb,f0,f1,f2,f3,f4,f5⟩:=hat' j hj2
     have hle:cnt ks[j]≤N:=Nat.le_trans (cnts_get ks j hj1) hNk.1
     have hcall:=fun w' (k':New wr w')=>IH.out ks[j] ks'[j] hle w' _ _ (hva.keep k') (hvb.keep k')
     have HC:=Lib.hid hcall
     clear hva hvb hat hat' hcall
     have hst:=sameVs_step j hj1 hj2
     obtain⟨bb,hbb⟩:∃bb,bb=sameV ks[j] ks'[j]:=⟨_,rfl⟩
     rw [←hbb]at hst
     have HBB:=Lib.hid hbb
     have HST:=Lib.hid hst
     clear hbb hst
     have d3':=fun q os=>cell_regrown d3 q os
     have e3':=fun q os=>cell_regrown e3 q os
     have g0':=fun q os=>cell_regrown g0 q os
     have g1':=fun q os=>cell_regrown g1 q os
     have g2':=fun q os=>cell_regrown g2 q os
     have g3':=fun q os=>cell_regrown g3 q os
     have g4':=fun q os=>cell_regrown g4 q os
     have g5':=fun q os=>cell_regrown g5 q os
     have f0':=fun q os=>cell_regrown f0 q os
     have f1':=fun q os=>cell_regrown f1 q os
     have f2':=fun q os=>cell_regrown f2 q os
     have f3':=fun q os=>cell_regrown f3 q os
     have f4':=fun q os=>cell_regrown f4 q os
     have f5':=fun q os=>cell_regrown f5 q os
     have cQ:=fun q os=>regrown_new (v:=.bool bb) ((HC.out _ (new_regrown wr q os)).mono fun e w' h=>⟨by rw [HBB.out];exact h.1,h.2⟩)
     go_wp2_with fail
     refine wp_region_quiet_below (by kernel_rfl) (by kernel_rfl) ?_
     repeat (go_big_quiet_step (first | exact cQ _ _))
     refine wpQuiet_nil ?_
     intro _ hw'
     obtain⟨⟨dq,osq⟩,hw''⟩:=hw'
     subst hw''
     have kr4:=new_regrown wr dq osq
     have hb14:=kr4.blk hb1 trivial
     have hb24:=kr4.blk hb2 trivial
     have kr5:=kr.trans kr4
     cases bb
     ·go_wp2
      go_ret
      refine⟨?_,kr5⟩
      rw [HF.out,SM.out,HST.out]
      rfl
     ·go_wp2
      go_roundg kk
      case measure=>omega
      case rel=>
       refine⟨j+1,by omega,congrArg _ (by omega),kr5,hb14,hb24,?_⟩
       rw [SM.out,HST.out,Bool.true_and]
end Go.Proofs.YtfoegolfadhmjaaGreatDoor
