/- spec.arrayFits. -/
import Derived.Test.YtfoegolfadhmjaaGreatDoorZ21
import Derived.Test.YtfoegolfadhmjaaGreatDoorZ28
set_option linter.all false
set_option maxRecDepth 100000
set_option maxHeartbeats 16000000
namespace Go.Proofs.YtfoegolfadhmjaaGreatDoor
open Go.RowKit Go.WideShapes Go.Sort
theorem VM.kidsM{w:World}{v:V}{a0 a1 a2 a3 a4 a5:Value}(h:VM w v (.agg #[a0,a1,a2,a3,a4,a5])):LM w v.kids a3∧LM w v.desc a5:=by
 obtain⟨k,n,t,ks,o,ds⟩:=v
 obtain⟨sk,sd,he,-,hk,hd⟩:=h.inv
 simp only [Value.agg.injEq,Array.mk.injEq,List.cons.injEq,and_true]at he
 obtain⟨rfl,rfl,rfl,rfl,rfl,rfl⟩:=he
 exact⟨hk,hd⟩
def Alike1(ks:List V)(j:Nat):Prop:=∀i (h:i<ks.length),i<j→ks[i].kind=(ks.headD (.mk 0 0 [] [] 0 [])).kind∧ks[i].desc.length=(ks.headD (.mk 0 0 [] [] 0 [])).desc.length
def AlikeA(ks:List V):Prop:=∀v∈ks,∀u∈ks,v.kind=u.kind∧v.desc.length=u.desc.length
theorem Alike1.all{ks:List V}(h:Alike1 ks ks.length):AlikeA ks:=by
 intro v hv u hu
 obtain⟨i,hi,rfl⟩:=List.getElem_of_mem hv
 obtain⟨j,hj,rfl⟩:=List.getElem_of_mem hu
 have h1:=h i hi hi
 have h2:=h j hj hj
 exact⟨h1.1.trans h2.1.symm,h1.2.trans h2.2.symm⟩
theorem Alike1.step{ks:List V}{j:Nat}(h:Alike1 ks j)(hj:j<ks.length)(hj0:0<ks.length)(e:ks[j].kind=ks[0].kind∧ks[j].desc.length=ks[0].desc.length):Alike1 ks (j+1):=by
 have e0:ks.headD (.mk 0 0 [] [] 0 [])=ks[0]:=by cases ks with | nil=>simp at hj0 | cons a r=>rfl
 intro i hi hlt
 rcases Nat.lt_or_ge i j with h1 | h1
 ·exact h i hi h1
 ·obtain rfl:i=j:=by omega
  rw [e0]
  exact e
theorem arrFits_is(k:Int)(n:Nat)(t:List UInt8)(ks:List V)(o:Int)(ds:List V)(w:World)(x:Value)(hx:VM w (.mk k n t ks o ds) x):Calls Tryz.prog 141 #[x] w (Yes (AlikeA ks) w):=by
 obtain⟨sk,sd,rfl,hn,hks,hds⟩:=hx.inv
 obtain⟨A1,c1,rfl,_,_⟩:=hks.shape
 obtain⟨A2,c2,rfl,_,_⟩:=hds.shape
 have hml:ks.length≤maxLen:=by omega
 unfold maxLen at hml
 obtain⟨m,hm⟩:∃m,m=ks.length:=⟨_,rfl⟩
 obtain⟨b2,hb2⟩:∃b,b=ds.length:=⟨_,rfl⟩
 rw [←hm]at hks hml ⊢
 rw [←hb2]
 have M:=Lib.hid hm
 have HK:=Lib.hid hks
 clear hx hks hds hm hb2
 by_cases hm0:m=0
 ·subst hm0
  have hv:AlikeA ks:=by
   have:ks=[]:=List.eq_nil_of_length_eq_zero M.out.symm
   rw [this];intro v hv;cases hv
  have HV:=Lib.hid hv
  clear hv
  go_enter Tryz.func141,Tryz.ntmps141
  go_wp2
  all_goals
   go_ret
   exact⟨_,rfl,(Keep.refl _ _).alloc _,fun _=>HV.out⟩
 have hpos:0<m:=by omega
 have t0:((m:Int)==0)=false:=by simp;omega
 have hj0:0<ks.length:=by rw [←M.out];exact hpos
 have HJ0:=Lib.hid hj0
 clear hj0
 go_enter Tryz.func141,Tryz.ntmps141
 go_wp2_with fail
 go_loopg [20] m (fun kk s20 wr=>∃j:Nat,j+kk=m∧s20=.int .i64 (j:Int)∧New w wr∧wr.heap[w.heap.size]? =some (.cells #[.int .i64 k,.int .u64 (n:Int),.string ⟨t.toArray⟩,.slice A1 m c1,.int .i64 o,.slice A2 b2 c2] 78 (0,0))∧Alike1 ks j)
 case atStart=>exact⟨0,by omega,rfl,(Keep.refl _ _).alloc _,blk_new w _,fun i h hlt=>absurd hlt (by omega)⟩
 case round=>
  obtain⟨j,hj,rfl,kr,hb,hal⟩:=hrel
  rcases gk with _ | kk
  ·obtain rfl:m=j:=by omega
   rw [M.out]at hal
   have HV:=Lib.hid hal.all
   have b4:=(blk_cell hb 4).trans rfl
   clear hal
   go_wp2
   go_ret
   exact⟨_,rfl,kr,fun _=>HV.out⟩
  ·have hjn:j<m:=by omega
   have tj:decide (j<m)=true:=by simpa using hjn
   have hj1:j<ks.length:=by rw [←M.out];exact hjn
   have STEP:=Lib.hid (hal.step hj1 HJ0.out)
   obtain⟨d,i,hAe,-,-,-,hat⟩:=(HK.out.keep kr).at2 (fun h=>by rw [h]at hj1;simp at hj1)
   cases hAe
   obtain⟨a0,a1,a2,a3,a4,a5,hva,g0,g1,g2,g3,g4,g5⟩:=hat j hj1
   obtain⟨e0,e1,e2,e3,e4,e5,hve,y0,y1,y2,y3,y4,y5⟩:=hat 0 HJ0.out
   simp only [Nat.zero_mul,Nat.add_zero]at y0 y1 y2 y3 y4 y5
   obtain⟨-,HDA⟩:=hva.kidsM
   obtain⟨-,HDE⟩:=hve.kidsM
   obtain⟨A3,c3,o3,A4,c4,heq,-,-⟩:=hva.parts'
   simp only [Value.agg.injEq,Array.mk.injEq,List.cons.injEq,and_true]at heq
   obtain⟨rfl,rfl,rfl,rfl,rfl,rfl⟩:=heq
   obtain⟨A5,c5,o5,A6,c6,heq,-,-⟩:=hve.parts'
   simp only [Value.agg.injEq,Array.mk.injEq,List.cons.injEq,and_true]at heq
   obtain⟨rfl,rfl,rfl,rfl,rfl,rfl⟩:=heq
   obtain⟨u,hu⟩:∃u,u=ks[j]:=⟨_,rfl⟩
   obtain⟨v0,hv0⟩:∃v0,v0=ks[0]'HJ0.out:=⟨_,rfl⟩
   rw [←hu]at g0 g1 g2 g3 g5 HDA STEP
   rw [←hv0]at y0 y1 y2 y3 y5 HDE STEP
   clear hva hve hat hu hv0 hal hj1
   obtain⟨mu,hmu⟩:∃mu,mu=u.desc.length:=⟨_,rfl⟩
   obtain⟨mv,hmv⟩:∃mv,mv=v0.desc.length:=⟨_,rfl⟩
   rw [←hmu]at g5 HDA STEP
   rw [←hmv]at y5 HDE STEP
   have MU:=Lib.hid hmu
   have MV:=Lib.hid hmv
   clear hmu hmv
   have kA:=(Keep.refl (fun _=>True) wr).alloc (.cells #[.int .i64 u.kind,.int .u64 (u.num:Int),.string ⟨u.text.toArray⟩,.slice A3 u.kids.length c3,.int .i64 o3,.slice A4 mu c4] 78)
   have krA:=kr.trans kA
   have hbA:=kA.blk hb trivial
   have x3:=(blk_cell hbA 3).trans rfl
   have hkb:=blk_new wr (.cells #[.int .i64 u.kind,.int .u64 (u.num:Int),.string ⟨u.text.toArray⟩,.slice A3 u.kids.length c3,.int .i64 o3,.slice A4 mu c4] 78)
   have z0:=(blk_cell hkb 0).trans rfl
   have z5:=(blk_cell hkb 5).trans rfl
   have w0:=kA.cell y0 trivial
   have w5:=kA.cell y5 trivial
   have x3':=fun q os=>cell_regrown x3 q os
   have z0':=fun q os=>cell_regrown z0 q os
   have z5':=fun q os=>cell_regrown z5 q os
   have w0':=fun q os=>cell_regrown w0 q os
   have w5':=fun q os=>cell_regrown w5 q os
   clear hbA hkb
   by_cases hkk:u.kind=v0.kind
   case neg=>
    have t1:(u.kind==v0.kind)=false:=by simpa using hkk
    have t1':(u.kind !=v0.kind)=true:=by simpa using hkk
    go_wp2_with fail
    refine wp_region_quiet_below (by kernel_rfl) (by kernel_rfl) ?_
    repeat (go_big_quiet_step (fail))
    refine wpQuiet_nil ?_
    intro _ hw'
    obtain⟨⟨dq,osq⟩,hw''⟩:=hw'
    subst hw''
    have kr4:=(krA.trans (new_regrown _ dq osq))
    go_wp2
    go_ret
    exact Yes.no kr4
   have t1:(u.kind==v0.kind)=true:=by simpa using hkk
   have t1':(u.kind !=v0.kind)=false:=by simpa using hkk
   have HKK:=Lib.hid hkk
   clear hkk
   by_cases hdd:mu=mv
   case neg=>
    have t2:((mu:Int)==(mv:Int))=false:=by simp;omega
    have t2':((mu:Int) !=(mv:Int))=true:=by simp;omega
    go_wp2_with fail
    refine wp_region_quiet_below (by kernel_rfl) (by kernel_rfl) ?_
    repeat (go_big_quiet_step (fail))
    refine wpQuiet_nil ?_
    intro _ hw'
    obtain⟨⟨dq,osq⟩,hw''⟩:=hw'
    subst hw''
    have kr4:=(krA.trans (new_regrown _ dq osq))
    go_wp2
    go_ret
    exact Yes.no kr4
   subst hdd
   by_cases h1:mu=1
   case neg=>
    have t3:((mu:Int)==1)=false:=by simp;omega
    go_wp2_with fail
    refine wp_region_quiet_below (by kernel_rfl) (by kernel_rfl) ?_
    repeat (go_big_quiet_step (fail))
    refine wpQuiet_nil ?_
    intro _ hw'
    obtain⟨⟨dq,osq⟩,hw''⟩:=hw'
    subst hw''
    have kr4:=(krA.trans (new_regrown _ dq osq))
    go_wp2
    go_roundg kk
    case measure=>omega
    case rel=>exact⟨j+1,by omega,congrArg _ (by omega),kr4,(new_regrown _ dq osq).blk (kA.blk hb trivial) trivial,STEP.out ⟨HKK.out,(by first | rfl | trivial)⟩⟩
   subst h1
   obtain⟨p,hp⟩:∃p,u.desc=[p]:=List.length_eq_one_iff.1 MU.out.symm
   obtain⟨q,hq⟩:∃q,v0.desc=[q]:=List.length_eq_one_iff.1 MV.out.symm
   rw [hp]at HDA
   rw [hq]at HDE
   obtain⟨da,ia,hAe,-,-,-,hata⟩:=HDA.at2 (by simp)
   cases hAe
   obtain⟨de,ie,hAe,-,-,-,hate⟩:=HDE.at2 (by simp)
   cases hAe
   obtain⟨p0,p1,p2,p3,p4,p5,hvp,r0,r1,r2,r3,r4,r5⟩:=hata 0 (by simp)
   obtain⟨q0,q1,q2,q3,q4,q5,hvq,s0,s1,s2,s3,s4,s5⟩:=hate 0 (by simp)
   simp only [List.getElem_cons_zero,Nat.zero_mul,Nat.add_zero]at hvp hvq r0 r1 r2 r3 r4 r5 s0 s1 s2 s3 s4 s5
   obtain⟨bb,hbb⟩:∃bb,bb=sameV p q:=⟨_,rfl⟩
   have cQ:=fun dq os=>regrown_new (v:=.bool bb) ((same_val _ p q (Nat.le_refl _) (grow (redrawn (wr.alloc (.cells #[.int .i64 u.kind,.int .u64 (u.num:Int),.string ⟨u.text.toArray⟩,.slice A3 u.kids.length c3,.int .i64 o3,.slice (some ⟨da,ia,none⟩) 1 c4] 78)) dq) os) _ _ (hvp.keep (kA.trans (new_regrown _ dq os))) (hvq.keep (kA.trans (new_regrown _ dq os)))).mono fun e w' h=>⟨by rw [hbb];exact h.1,h.2⟩)
   have CQ:=Lib.hid cQ
   have r0':=fun q os=>cell_regrown (kA.cell r0 trivial) q os
   have s0':=fun q os=>cell_regrown (kA.cell s0 trivial) q os
   have r1':=fun q os=>cell_regrown (kA.cell r1 trivial) q os
   have s1':=fun q os=>cell_regrown (kA.cell s1 trivial) q os
   have r2':=fun q os=>cell_regrown (kA.cell r2 trivial) q os
   have s2':=fun q os=>cell_regrown (kA.cell s2 trivial) q os
   have r3':=fun q os=>cell_regrown (kA.cell r3 trivial) q os
   have s3':=fun q os=>cell_regrown (kA.cell s3 trivial) q os
   have r4':=fun q os=>cell_regrown (kA.cell r4 trivial) q os
   have s4':=fun q os=>cell_regrown (kA.cell s4 trivial) q os
   have r5':=fun q os=>cell_regrown (kA.cell r5 trivial) q os
   have s5':=fun q os=>cell_regrown (kA.cell s5 trivial) q os
   clear hata hate hvp hvq HDA HDE cQ hbb hp hq
   have cQ:=CQ.out
   go_wp2_with fail
   refine wp_region_quiet_below (by kernel_rfl) (by kernel_rfl) ?_
   repeat (go_big_quiet_step (first | exact cQ _ _))
   refine wpQuiet_nil ?_
   intro _ hw'
   obtain⟨⟨dq,osq⟩,hw''⟩:=hw'
   subst hw''
   have kr4:=(krA.trans (new_regrown _ dq osq))
   cases bb
   ·go_wp2
    go_ret
    exact Yes.no kr4
   ·go_wp2
    go_roundg kk
    case measure=>omega
    case rel=>exact⟨j+1,by omega,congrArg _ (by omega),kr4,(new_regrown _ dq osq).blk (kA.blk hb trivial) trivial,STEP.out ⟨HKK.out,(by first | rfl | trivial)⟩⟩
end Go.Proofs.YtfoegolfadhmjaaGreatDoor
