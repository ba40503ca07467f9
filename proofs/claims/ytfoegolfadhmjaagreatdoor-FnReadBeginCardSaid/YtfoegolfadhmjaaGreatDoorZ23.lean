/- Regions of spec.numbered that put a short form ahead: one invariant. -/
import Derived.Test.YtfoegolfadhmjaaGreatDoorZ15
import Derived.Test.YtfoegolfadhmjaaGreatDoorZ21
set_option linter.all false
set_option maxRecDepth 100000
set_option maxHeartbeats 4000000
namespace Go.Proofs.YtfoegolfadhmjaaGreatDoor
open Go.RowKit Go.WideShapes
theorem rep_off(n i:Nat):(Array.replicate n false).getD i false=false:=by
 simp only [Array.getD_eq_getD_getElem?,Array.getElem?_replicate]
 split<;>rfl
theorem fixed_is:FixOK:=by
 intro k w
 have hb:=fun w=>boolSize_is k w
 go_enter Tryz.func135,Tryz.ntmps135
 go_wp2
 refine region_inv (by kernel_rfl) (FixI w k) ?low ?start ?step ?fin
 case low=>kernel_rfl
 case start=>
  refine⟨rfl,rfl,rfl,(Keep.refl _ w).drew,fun h=>?_,fun i _ _ h=>?_,fun h=>?_,fun q _ h=>?_⟩
  all_goals (rw [rep_off]at h;cases h)
 case fin=>
  rename_i hK
  intro L a w' hall hI
  refine hK _ _ (wp_ret ?_)
  have h2:=hI.sl (23,2,.int .i64 (fixedV k)) (by unfold fixT;simp) (hall 23 (by simp))
  have hn:=hI.nw
  have hdf:=hI.df
  exact bodyPost_ret (results_tmp rfl _ _ _) hdf ⟨congrArg Ending.returned h2,hn⟩
 case step=>
  intro i o L a w' ho hd hL hs hI
  have hi:=(Array.getElem?_eq_some_iff.1 ho).1
  simp only [List.size_toArray,List.length_cons,List.length_nil]at hi hs
  have hi':i=0∨i=1∨i=2∨i=3∨i=4∨i=5∨i=6∨i=7∨i=8∨i=9∨i=10∨i=11∨i=12∨i=13∨i=14∨i=15∨i=16∨i=17∨i=18∨i=19∨i=20∨i=21∨i=22∨i=23:=by omega
  clear hi
  rcases hi' with rfl | rfl | rfl | rfl | rfl | rfl | rfl | rfl | rfl | rfl | rfl | rfl | rfl | rfl | rfl | rfl | rfl | rfl | rfl | rfl | rfl | rfl | rfl | rfl
  ·have ho':=ho
   simp only [List.getElem?_toArray,List.getElem?_cons_zero,List.getElem?_cons_succ,Option.some.injEq]at ho
   refine wpOp_in ho' (by rw [←ho]) ?_
   subst ho
   clear ho'
   simp only [Oper.wp,execOp,Sem.run_bind,make294,Result.andThen_ok,Sem.run_pure,Oper.upon_value]
   exact hI.make hs hL
  ·have ho':=ho
   simp only [List.getElem?_toArray,List.getElem?_cons_zero,List.getElem?_cons_succ,Option.some.injEq]at ho
   refine wpOp_in ho' (by rw [←ho]) ?_
   subst ho
   clear ho'
   obtain⟨m,w2,e1,e2,e3⟩:=hI.ins hs (j:=0) (kk:=2) (vv:=1) rfl (hd ⟨0,.data⟩ (by simp) rfl) hL
   have e4:a.eval (.const (.int .i64 2))=.int .i64 2:=rfl
   have e5:a.eval (.const (.int .i64 1))=.int .i64 1:=rfl
   simp only [Oper.wp,execOp,Sem.run_bind,e1,e4,e5,e2,Result.andThen_ok,Sem.run_pure,Oper.upon_skip]
   exact e3
  ·have ho':=ho
   simp only [List.getElem?_toArray,List.getElem?_cons_zero,List.getElem?_cons_succ,Option.some.injEq]at ho
   refine wpOp_in ho' (by rw [←ho]) ?_
   subst ho
   clear ho'
   obtain⟨m,w2,e1,e2,e3⟩:=hI.ins hs (j:=1) (kk:=6) (vv:=1) rfl (hd ⟨0,.data⟩ (by simp) rfl) hL
   have e4:a.eval (.const (.int .i64 6))=.int .i64 6:=rfl
   have e5:a.eval (.const (.int .i64 1))=.int .i64 1:=rfl
   simp only [Oper.wp,execOp,Sem.run_bind,e1,e4,e5,e2,Result.andThen_ok,Sem.run_pure,Oper.upon_skip]
   exact e3
  ·have ho':=ho
   simp only [List.getElem?_toArray,List.getElem?_cons_zero,List.getElem?_cons_succ,Option.some.injEq]at ho
   refine wpOp_in ho' (by rw [←ho]) ?_
   subst ho
   clear ho'
   obtain⟨m,w2,e1,e2,e3⟩:=hI.ins hs (j:=2) (kk:=3) (vv:=2) rfl (hd ⟨0,.data⟩ (by simp) rfl) hL
   have e4:a.eval (.const (.int .i64 3))=.int .i64 3:=rfl
   have e5:a.eval (.const (.int .i64 2))=.int .i64 2:=rfl
   simp only [Oper.wp,execOp,Sem.run_bind,e1,e4,e5,e2,Result.andThen_ok,Sem.run_pure,Oper.upon_skip]
   exact e3
  ·have ho':=ho
   simp only [List.getElem?_toArray,List.getElem?_cons_zero,List.getElem?_cons_succ,Option.some.injEq]at ho
   refine wpOp_in ho' (by rw [←ho]) ?_
   subst ho
   clear ho'
   obtain⟨m,w2,e1,e2,e3⟩:=hI.ins hs (j:=3) (kk:=7) (vv:=2) rfl (hd ⟨0,.data⟩ (by simp) rfl) hL
   have e4:a.eval (.const (.int .i64 7))=.int .i64 7:=rfl
   have e5:a.eval (.const (.int .i64 2))=.int .i64 2:=rfl
   simp only [Oper.wp,execOp,Sem.run_bind,e1,e4,e5,e2,Result.andThen_ok,Sem.run_pure,Oper.upon_skip]
   exact e3
  ·have ho':=ho
   simp only [List.getElem?_toArray,List.getElem?_cons_zero,List.getElem?_cons_succ,Option.some.injEq]at ho
   refine wpOp_in ho' (by rw [←ho]) ?_
   subst ho
   clear ho'
   obtain⟨m,w2,e1,e2,e3⟩:=hI.ins hs (j:=4) (kk:=4) (vv:=4) rfl (hd ⟨0,.data⟩ (by simp) rfl) hL
   have e4:a.eval (.const (.int .i64 4))=.int .i64 4:=rfl
   have e5:a.eval (.const (.int .i64 4))=.int .i64 4:=rfl
   simp only [Oper.wp,execOp,Sem.run_bind,e1,e4,e5,e2,Result.andThen_ok,Sem.run_pure,Oper.upon_skip]
   exact e3
  ·have ho':=ho
   simp only [List.getElem?_toArray,List.getElem?_cons_zero,List.getElem?_cons_succ,Option.some.injEq]at ho
   refine wpOp_in ho' (by rw [←ho]) ?_
   subst ho
   clear ho'
   obtain⟨m,w2,e1,e2,e3⟩:=hI.ins hs (j:=5) (kk:=8) (vv:=4) rfl (hd ⟨0,.data⟩ (by simp) rfl) hL
   have e4:a.eval (.const (.int .i64 8))=.int .i64 8:=rfl
   have e5:a.eval (.const (.int .i64 4))=.int .i64 4:=rfl
   simp only [Oper.wp,execOp,Sem.run_bind,e1,e4,e5,e2,Result.andThen_ok,Sem.run_pure,Oper.upon_skip]
   exact e3
  ·have ho':=ho
   simp only [List.getElem?_toArray,List.getElem?_cons_zero,List.getElem?_cons_succ,Option.some.injEq]at ho
   refine wpOp_in ho' (by rw [←ho]) ?_
   subst ho
   clear ho'
   obtain⟨m,w2,e1,e2,e3⟩:=hI.ins hs (j:=6) (kk:=10) (vv:=4) rfl (hd ⟨0,.data⟩ (by simp) rfl) hL
   have e4:a.eval (.const (.int .i64 10))=.int .i64 10:=rfl
   have e5:a.eval (.const (.int .i64 4))=.int .i64 4:=rfl
   simp only [Oper.wp,execOp,Sem.run_bind,e1,e4,e5,e2,Result.andThen_ok,Sem.run_pure,Oper.upon_skip]
   exact e3
  ·have ho':=ho
   simp only [List.getElem?_toArray,List.getElem?_cons_zero,List.getElem?_cons_succ,Option.some.injEq]at ho
   refine wpOp_in ho' (by rw [←ho]) ?_
   subst ho
   clear ho'
   obtain⟨m,w2,e1,e2,e3⟩:=hI.ins hs (j:=7) (kk:=12) (vv:=4) rfl (hd ⟨0,.data⟩ (by simp) rfl) hL
   have e4:a.eval (.const (.int .i64 12))=.int .i64 12:=rfl
   have e5:a.eval (.const (.int .i64 4))=.int .i64 4:=rfl
   simp only [Oper.wp,execOp,Sem.run_bind,e1,e4,e5,e2,Result.andThen_ok,Sem.run_pure,Oper.upon_skip]
   exact e3
  ·have ho':=ho
   simp only [List.getElem?_toArray,List.getElem?_cons_zero,List.getElem?_cons_succ,Option.some.injEq]at ho
   refine wpOp_in ho' (by rw [←ho]) ?_
   subst ho
   clear ho'
   obtain⟨m,w2,e1,e2,e3⟩:=hI.ins hs (j:=8) (kk:=15) (vv:=4) rfl (hd ⟨0,.data⟩ (by simp) rfl) hL
   have e4:a.eval (.const (.int .i64 15))=.int .i64 15:=rfl
   have e5:a.eval (.const (.int .i64 4))=.int .i64 4:=rfl
   simp only [Oper.wp,execOp,Sem.run_bind,e1,e4,e5,e2,Result.andThen_ok,Sem.run_pure,Oper.upon_skip]
   exact e3
  ·have ho':=ho
   simp only [List.getElem?_toArray,List.getElem?_cons_zero,List.getElem?_cons_succ,Option.some.injEq]at ho
   refine wpOp_in ho' (by rw [←ho]) ?_
   subst ho
   clear ho'
   obtain⟨m,w2,e1,e2,e3⟩:=hI.ins hs (j:=9) (kk:=5) (vv:=8) rfl (hd ⟨0,.data⟩ (by simp) rfl) hL
   have e4:a.eval (.const (.int .i64 5))=.int .i64 5:=rfl
   have e5:a.eval (.const (.int .i64 8))=.int .i64 8:=rfl
   simp only [Oper.wp,execOp,Sem.run_bind,e1,e4,e5,e2,Result.andThen_ok,Sem.run_pure,Oper.upon_skip]
   exact e3
  ·have ho':=ho
   simp only [List.getElem?_toArray,List.getElem?_cons_zero,List.getElem?_cons_succ,Option.some.injEq]at ho
   refine wpOp_in ho' (by rw [←ho]) ?_
   subst ho
   clear ho'
   obtain⟨m,w2,e1,e2,e3⟩:=hI.ins hs (j:=10) (kk:=9) (vv:=8) rfl (hd ⟨0,.data⟩ (by simp) rfl) hL
   have e4:a.eval (.const (.int .i64 9))=.int .i64 9:=rfl
   have e5:a.eval (.const (.int .i64 8))=.int .i64 8:=rfl
   simp only [Oper.wp,execOp,Sem.run_bind,e1,e4,e5,e2,Result.andThen_ok,Sem.run_pure,Oper.upon_skip]
   exact e3
  ·have ho':=ho
   simp only [List.getElem?_toArray,List.getElem?_cons_zero,List.getElem?_cons_succ,Option.some.injEq]at ho
   refine wpOp_in ho' (by rw [←ho]) ?_
   subst ho
   clear ho'
   obtain⟨m,w2,e1,e2,e3⟩:=hI.ins hs (j:=11) (kk:=11) (vv:=8) rfl (hd ⟨0,.data⟩ (by simp) rfl) hL
   have e4:a.eval (.const (.int .i64 11))=.int .i64 11:=rfl
   have e5:a.eval (.const (.int .i64 8))=.int .i64 8:=rfl
   simp only [Oper.wp,execOp,Sem.run_bind,e1,e4,e5,e2,Result.andThen_ok,Sem.run_pure,Oper.upon_skip]
   exact e3
  ·have ho':=ho
   simp only [List.getElem?_toArray,List.getElem?_cons_zero,List.getElem?_cons_succ,Option.some.injEq]at ho
   refine wpOp_in ho' (by rw [←ho]) ?_
   subst ho
   clear ho'
   obtain⟨m,w2,e1,e2,e3⟩:=hI.ins hs (j:=12) (kk:=13) (vv:=8) rfl (hd ⟨0,.data⟩ (by simp) rfl) hL
   have e4:a.eval (.const (.int .i64 13))=.int .i64 13:=rfl
   have e5:a.eval (.const (.int .i64 8))=.int .i64 8:=rfl
   simp only [Oper.wp,execOp,Sem.run_bind,e1,e4,e5,e2,Result.andThen_ok,Sem.run_pure,Oper.upon_skip]
   exact e3
  ·have ho':=ho
   simp only [List.getElem?_toArray,List.getElem?_cons_zero,List.getElem?_cons_succ,Option.some.injEq]at ho
   refine wpOp_in ho' (by rw [←ho]) ?_
   subst ho
   clear ho'
   obtain⟨m,w2,e1,e2,e3⟩:=hI.ins hs (j:=13) (kk:=16) (vv:=8) rfl (hd ⟨0,.data⟩ (by simp) rfl) hL
   have e4:a.eval (.const (.int .i64 16))=.int .i64 16:=rfl
   have e5:a.eval (.const (.int .i64 8))=.int .i64 8:=rfl
   simp only [Oper.wp,execOp,Sem.run_bind,e1,e4,e5,e2,Result.andThen_ok,Sem.run_pure,Oper.upon_skip]
   exact e3
  ·have ho':=ho
   simp only [List.getElem?_toArray,List.getElem?_cons_zero,List.getElem?_cons_succ,Option.some.injEq]at ho
   refine wpOp_in ho' (by rw [←ho]) ?_
   subst ho
   clear ho'
   obtain⟨m,w2,e1,e2,e3⟩:=hI.ins hs (j:=14) (kk:=14) (vv:=16) rfl (hd ⟨0,.data⟩ (by simp) rfl) hL
   have e4:a.eval (.const (.int .i64 14))=.int .i64 14:=rfl
   have e5:a.eval (.const (.int .i64 16))=.int .i64 16:=rfl
   simp only [Oper.wp,execOp,Sem.run_bind,e1,e4,e5,e2,Result.andThen_ok,Sem.run_pure,Oper.upon_skip]
   exact e3
  ·have ho':=ho
   simp only [List.getElem?_toArray,List.getElem?_cons_zero,List.getElem?_cons_succ,Option.some.injEq]at ho
   refine wpOp_in ho' (by rw [←ho]) ?_
   subst ho
   clear ho'
   obtain⟨m,w2,e1,e2,e3⟩:=hI.ins hs (j:=15) (kk:=17) (vv:=16) rfl (hd ⟨0,.data⟩ (by simp) rfl) hL
   have e4:a.eval (.const (.int .i64 17))=.int .i64 17:=rfl
   have e5:a.eval (.const (.int .i64 16))=.int .i64 16:=rfl
   simp only [Oper.wp,execOp,Sem.run_bind,e1,e4,e5,e2,Result.andThen_ok,Sem.run_pure,Oper.upon_skip]
   exact e3
  ·have ho':=ho
   simp only [List.getElem?_toArray,List.getElem?_cons_zero,List.getElem?_cons_succ,Option.some.injEq]at ho
   refine wpOp_in ho' (by rw [←ho]) ?_
   subst ho
   clear ho'
   simp only [Oper.wp,execOp,Sem.run_bind,Result.andThen_ok,Sem.run_pure,Oper.upon_value]
   refine hI.move hs fun j hj=>?_
   have hj':j=0∨j=1∨j=2∨j=3∨j=4∨j=5∨j=6∨j=7∨j=8∨j=9∨j=10∨j=11∨j=12∨j=13∨j=14∨j=15∨j=16:=by omega
   rcases hj' with rfl | rfl | rfl | rfl | rfl | rfl | rfl | rfl | rfl | rfl | rfl | rfl | rfl | rfl | rfl | rfl | rfl<;>exact hd ⟨_,.data⟩ (by simp) rfl
  ·have ho':=ho
   simp only [List.getElem?_toArray,List.getElem?_cons_zero,List.getElem?_cons_succ,Option.some.injEq]at ho
   refine wpOp_in ho' (by rw [←ho]) ?_
   subst ho
   clear ho'
   have e0:=hI.t0
   simp only [Oper.wp,execOp,Sem.run_bind,e0,Result.andThen_ok,Sem.run_pure,Oper.upon_value]
   exact hI.calm hs (Keep.refl _ _) (by decide) (by decide) (by decide) (by decide) (by decide) (by decide) (by unfold fixT;simp)
  ·have ho':=ho
   simp only [List.getElem?_toArray,List.getElem?_cons_zero,List.getElem?_cons_succ,Option.some.injEq]at ho
   refine wpOp_in ho' (by rw [←ho]) ?_
   subst ho
   clear ho'
   obtain⟨m,e1,e2⟩:=hI.look (hd ⟨17,.data⟩ (by simp) rfl)
   have e0:=hI.sl (18,5,.int .i64 k) (by unfold fixT;simp) (hd ⟨18,.data⟩ (by simp) rfl)
   simp only [Oper.wp,execOp,Sem.run_bind,e0,e1,e2,Result.andThen_ok,Sem.run_pure,Oper.upon_value]
   exact hI.calm hs (Keep.refl _ _) (by decide) (by decide) (by decide) (by decide) (by decide) (by decide) (by unfold fixT;simp)
  ·have ho':=ho
   simp only [List.getElem?_toArray,List.getElem?_cons_zero,List.getElem?_cons_succ,Option.some.injEq]at ho
   refine wpOp_in ho' (by rw [←ho]) ?_
   subst ho
   clear ho'
   have e0:=hI.t0
   simp only [Oper.wp,execOp,Sem.run_bind,e0,Result.andThen_ok,Sem.run_pure,Oper.upon_value]
   exact hI.calm hs (Keep.refl _ _) (by decide) (by decide) (by decide) (by decide) (by decide) (by decide) (by unfold fixT;simp)
  ·have ho':=ho
   simp only [List.getElem?_toArray,List.getElem?_cons_zero,List.getElem?_cons_succ,Option.some.injEq]at ho
   refine wpOp_in ho' (by rw [←ho]) ?_
   subst ho
   clear ho'
   have e0:=hI.sl (20,7,.int .i64 k) (by unfold fixT;simp) (hd ⟨20,.data⟩ (by simp) rfl)
   have hr:(execOp a.eval { dst:=some 8,op:=Op.call { callee:=Callee.value (Operand.func 207),args:=#[Operand.tmp 7],argTypes:=#[3] },type:=3,pos:= "amqp.go:13",after:=#[{ on:=20,ground:=Ground.data }],guard:=none }).run Tryz.prog w'=.ok (.enter 207 #[.int .i64 k]) w':=by
    simp [execOp,resolve,go_sem]
    simpa [Act.eval]using e0
   simp only [Oper.wp,hr,Oper.upon]
   refine(hb w').mono ?_
   rintro e w2 ⟨rfl,rfl⟩
   exact hI.calm hs (Keep.refl _ _) (by decide) (by decide) (by decide) (by decide) (by decide) (by decide) (by unfold fixT;simp)
  ·have ho':=ho
   simp only [List.getElem?_toArray,List.getElem?_cons_zero,List.getElem?_cons_succ,Option.some.injEq]at ho
   refine wpOp_in ho' (by rw [←ho]) ?_
   subst ho
   clear ho'
   have e0:a.eval (.tmp 6)=.int .i64 ((sizeL.lookup k).getD 0):=hI.sl (19,6,_) (by unfold fixT;simp) (hd ⟨19,.data⟩ (by simp) rfl)
   have e1:a.eval (.tmp 8)=.int .i64 (bsz k):=hI.sl (21,8,_) (by unfold fixT;simp) (hd ⟨21,.data⟩ (by simp) rfl)
   have hw:IntKind.i64.wrap ((sizeL.lookup k).getD 0-bsz k)=fixedV k:=by
    have h1:=sizeL_le k
    have h2:=bsz_le k
    rw [IntWalk.i64_in _ (by omega)]
    rfl
   have hr:(execOp a.eval { dst:=some 9,op:=Op.binOp BinOp.sub 3 (Operand.tmp 6) (Operand.tmp 8) 3,type:=3,pos:= "amqp.go:13",after:=#[{ on:=19,ground:=Ground.data },{ on:=21,ground:=Ground.data }],guard:=none }).run Tryz.prog w'=.ok (.value (.int .i64 (fixedV k))) w':=by
    simp only [execOp,e0,e1]
    simp [go_sem,hw]
   simp only [Oper.wp,hr,Oper.upon_value]
   exact hI.calm hs (Keep.refl _ _) (by decide) (by decide) (by decide) (by decide) (by decide) (by decide) (by unfold fixT;simp)
  ·have ho':=ho
   simp only [List.getElem?_toArray,List.getElem?_cons_zero,List.getElem?_cons_succ,Option.some.injEq]at ho
   refine wpOp_in ho' (by rw [←ho]) ?_
   subst ho
   clear ho'
   have e0:=hI.sl (22,9,_) (by unfold fixT;simp;rfl) (hd ⟨22,.data⟩ (by simp) rfl)
   simp only [Oper.wp,execOp,Sem.run_bind,e0,Result.andThen_ok,Sem.run_pure,Oper.upon_value]
   exact hI.calm hs (Keep.refl _ _) (by decide) (by decide) (by decide) (by decide) (by decide) (by decide) (by unfold fixT;simp)
structure Agrees(F:Act)(mask:List Nat)(a:Act):Prop where
 defers:a.defers=F.defers
 size:a.tmps.size=F.tmps.size
 same:∀t,t∉mask→a.tmps[t]? =F.tmps[t]?
theorem Agrees.refl(F:Act)(mask:List Nat):Agrees F mask F:=⟨rfl,rfl,fun _ _=>rfl⟩
theorem Agrees.put{F a:Act}{mask:List Nat}(h:Agrees F mask a){d:Nat}(hd:d∈mask){v:Value}:Agrees F mask (a.put (some d) v):=by
 refine⟨h.defers,(put_size a (some d) v).trans h.size,fun t ht=>?_⟩
 have:d≠t:=fun e=>ht (e▸hd)
 simp only [Act.put,Array.getElem?_setIfInBounds_ne this]
 exact h.same t ht
theorem Agrees.keep{F a:Act}{mask:List Nat}(h:Agrees F mask a)(t:Nat)(ht:t∉mask):F.eval (.tmp t)=a.eval (.tmp t):=by
 simp only [Act.eval,Array.getD_eq_getD_getElem?,h.same t ht]
def setAll(a:Act)(l:List Value):List Nat→List Value
 | []=>l
 | d::m=>(setAll a l m).set d (a.eval (.tmp d))
theorem setAll_len(a:Act)(l:List Value):∀m,(setAll a l m).length=l.length
 | []=>rfl
 | d::m=>by rw [setAll,List.length_set,setAll_len a l m]
theorem Agrees.eq{l:List Value}{df:List Deferred}{a:Act}{mask:List Nat}(h:Agrees ⟨l.toArray,df⟩ mask a):a=⟨(setAll a l mask).toArray,df⟩:=by
 obtain⟨t,d⟩:=a
 have hd:d=df:=h.defers
 subst hd
 refine congrArg (fun x=>Act.mk x d) ?_
 apply Array.ext_getElem?
 intro i
 show t[i]? =_
 rw [show((setAll ⟨t,d⟩ l mask).toArray)[i]? =(setAll ⟨t,d⟩ l mask)[i]? from List.getElem?_toArray ..]
 have hs:t.size=l.length:=by simpa using h.size
 have key:∀m,(i∈m→(setAll ⟨t,d⟩ l m)[i]? =t[i]?)∧(i∉m→(setAll ⟨t,d⟩ l m)[i]? =l[i]?):=by
  intro m
  induction m with
  | nil=>exact⟨fun h=>by simp at h,fun _=>rfl⟩
  | cons x m ih=>
    by_cases e:x=i
    ·subst e
     refine⟨fun _=>?_,fun h=>absurd (List.mem_cons_self ..) h⟩
     rw [setAll]
     by_cases hx:x<l.length
     ·rw [List.getElem?_set_self (by rw [setAll_len];exact hx),Array.getElem?_eq_getElem (by omega)]
      simp [Act.eval,Array.getD,show x<t.size by omega]
     ·rw [List.getElem?_eq_none (by rw [List.length_set,setAll_len];omega),Array.getElem?_eq_none (by omega)]
    ·rw [setAll,List.getElem?_set_ne e]
     exact⟨fun h=>ih.1 ((List.mem_cons.1 h).elim (fun h=>absurd h.symm e) id),fun h=>ih.2 fun h'=>h (List.mem_cons_of_mem _ h')⟩
 by_cases hm:i∈mask
 ·exact((key mask).1 hm).symm
 ·rw [(key mask).2 hm]
  simpa using h.same i hm
def up{α:Type}(f:Nat→α)(i:Nat)(b:α):Nat→α:=fun j=>if i=j then b else f j
theorem build143(c:Int)(A:Option Addr)(m cc:Nat)(w:World):(Instr.build 143 #[(0,.int .i64 c),(1,.slice A m cc)]).run Tryz.prog w=.ok (.agg #[.int .i64 c,.slice A m cc]) w:=by kernel_rfl
theorem slice143(c:Int)(A:Option Addr)(m cc:Nat)(w:World):(Instr.buildSlice 140 1 #[(0,.agg #[.int .i64 c,.slice A m cc])]).run Tryz.prog w=.ok (.slice (some ⟨w.heap.size,0,none⟩) 1 1) (w.alloc (.cells #[.int .i64 c,.slice A m cc] 143)):=by kernel_rfl
theorem up_L{L:Array Bool}{i:Nat}(h:i<L.size):(fun j=>(L.setIfInBounds i true).getD j false)=up (fun j=>L.getD j false) i true:=by
 funext j
 rw [getD_set h]
 rfl
theorem up_x{a:Act}{d:Nat}{v:Value}(h:d<a.tmps.size):(fun t=>(a.put (some d) v).eval (.tmp t))=up (fun t=>a.eval (.tmp t)) d v:=by
 funext t
 rw [eval_put h]
 rfl
structure Ins(k1 c1 k2 c2:Int)(w0:World)(base B n:Nat)(k:Int)(c:UInt8)(s0:Value)(fs:List (UInt8×List UInt8))(l:Nat→Bool)(x:Nat→Value)(w:World):Prop where
 nw:New w0 w
 mp:l 0=true→l 6=false→∃m q,x 0=.map (some m)∧w0.heap.size≤m∧IntMap w m q∧(∀p,p∈q↔(p=(k1,c1)∧l 1=true)∨(p=(k2,c2)∧l 2=true))∧(l 3=true→x 1=.map (some m))
 d1:l 1=true→l 0=true
 d2:l 2=true→l 0=true
 d3:l 3=true→l 1=true∧l 2=true
 d6:l 6=true→l 3=true
 d9:l 9=true→l 6=true∧l 8=true
 d10:l 10=true→l 9=true
 d12:l 12=true→l 10=true∧l 11=true
 d13:l 13=true→l 12=true
 t4:l 4=true→x 2=.pointer (some ⟨B,0,none⟩)
 t5:l 5=true→x 3=.int .i64 k
 t6:l 6=true→x 4=.int .i64 (c.toNat:Int)
 t7:l 7=true→x 5=.int .u64 (n:Int)
 t11:l 11=true→x 9=s0
 by8:l 8=true→l 9=false→∃S:Nat→Prop,Dep S w (fun w=>SlB w (x 6) (beB 1 n))∧(∀b,S b→w0.heap.size≤b)∧(∀m,l 0=true→l 6=false→x 0=.map (some m)→¬S m)
 p9:l 9=true→l 10=false→∃v,x 7=.agg #[.int .i64 (c.toNat:Int),v]∧Dep (fun b=>w0.heap.size≤b) w (fun w=>SlB w v (beB 1 n))
 p10:l 10=true→l 12=false→RowG 143 2 Pcs w w0.heap.size (x 8) [(c,beB 1 n)]
 p12:l 12=true→RowG 143 2 Pcs w base (x 10) ((c,beB 1 n)::fs)
 q6:l 13=false→x 11=s0
 p13:l 13=true→x 11=x 10
def rl(Z j:Nat):Nat:=if j=11 then 6 else Z+j
theorem up_rl{a:Act}{Z j:Nat}{v:Value}(hZ:6<Z)(h:rl Z j<a.tmps.size):(fun t=>(a.put (some (rl Z j)) v).eval (.tmp (rl Z t)))=up (fun t=>a.eval (.tmp (rl Z t))) j v:=by
 funext t
 rw [eval_put h]
 unfold up
 by_cases e:j=t
 ·rw [if_pos e,if_pos (by rw [e])]
 ·rw [if_neg e,if_neg]
  unfold rl
  split<;>split<;>omega
section
variable {k1 c1 k2 c2:Int} {w0:World} {base B n:Nat} {k:Int} {c:UInt8} {s0:Value} {fs:List (UInt8×List UInt8)} {l:Nat→Bool} {x:Nat→Value} {w:World}
theorem Ins.map_lt(h:Ins k1 c1 k2 c2 w0 base B n k c s0 fs l x w){m:Nat}(a:l 0=true)(b:l 6=false)(e:x 0=.map (some m)):m<w.heap.size:=by
 obtain⟨m',q,e1,e2,e3,_⟩:=h.mp a b
 obtain⟨es,c,hm,_⟩:=e3
 rw [e]at e1
 injection e1 with e1
 injection e1 with e1
 subst e1
 exact lt_blk hm
theorem Ins.world{w':World}(h:Ins k1 c1 k2 c2 w0 base B n k c s0 fs l x w)(kk:New w w'):Ins k1 c1 k2 c2 w0 base B n k c s0 fs l x w':=
 { h with
   nw:=h.nw.trans kk,
   mp:=fun a b=>let ⟨m,q,e1,e2,e3,e4⟩:=h.mp a b;⟨m,q,e1,e2,e3.keep kk,e4⟩,
   by8:=fun a b=>let ⟨S,e1,e2⟩:=h.by8 a b;⟨S,e1.new kk,e2⟩,
   p9:=fun a b=>let ⟨v,e1,e2⟩:=h.p9 a b;⟨v,e1,e2.new kk⟩,
   p10:=fun a b=>(h.p10 a b).keep kk (fun _ _=>trivial),
   p12:=fun a=>(h.p12 a).keep kk (fun _ _=>trivial) }
theorem off_of{a b:Bool}(h:a=true→b=true)(hb:b=false):a=false:=by
 cases a with
 | false=>rfl
 | true=>rw [h rfl]at hb;cases hb
theorem Ins.a0(h:Ins k1 c1 k2 c2 w0 base B n k c s0 fs l x w)(hl:l 0=false):Ins k1 c1 k2 c2 w0 base B n k c s0 fs (up l 0 true) (up x 0 (.map (some w.heap.size))) (w.alloc (.map #[] 0)):=by
 have g:=h.world ((Keep.refl (fun _=>True) w).alloc (.map #[] 0))
 have n1:=off_of h.d1 hl
 have n2:=off_of h.d2 hl
 have n3:=off_of (fun e=>(h.d3 e).1) n1
 exact { g with
  mp:=(by
   intro _ _
   refine⟨w.heap.size,[],by simp [up],h.nw.size,IntMap.new w,fun p=>?_,?_⟩
   ·simp [up,n1,n2]
   ·simp [up,n3]),
  d1:=(by first | (simpa [up]using g.d1) | (intro a;have:=g.d1 (by simpa [up]using a);simp [up,this])),
  d2:=(by first | (simpa [up]using g.d2) | (intro a;have:=g.d2 (by simpa [up]using a);simp [up,this])),
  by8:=(by
   intro h8 h9
   obtain⟨S,e1,e2,e3⟩:=h.by8 (by simpa [up]using h8) (by simpa [up]using h9)
   refine⟨fun b=>S b∧b<w.heap.size,(e1.step (by simp) (fun i hi _=>((Keep.refl (fun _=>True) w).alloc (.map #[] 0)).block i hi trivial) (fun b hb hs=>⟨hs,hb⟩)).imp (fun w' h'=>by simpa [up]using h'),fun b hb=>e2 b hb.1,fun m _ _ hm hS=>?_⟩
   simp [up]at hm
   omega) }
theorem Ins.s1(h:Ins k1 c1 k2 c2 w0 base B n k c s0 fs l x w)(hne:k1≠k2)(h0:l 0=true)(hl:l 1=false):∃m w',x 0=.map (some m)∧(Instr.mapUpdate 294 (.map (some m)) (.int .i64 k1) (.int .i64 c1)).run Tryz.prog w=.ok () w'∧Ins k1 c1 k2 c2 w0 base B n k c s0 fs (up l 1 true) x w':=by
 have n3:=off_of (fun e=>(h.d3 e).1) hl
 have n6:=off_of h.d6 n3
 have n9:=off_of (fun e=>(h.d9 e).1) n6
 have n10:=off_of h.d10 n9
 have n12:=off_of (fun e=>(h.d12 e).1) n10
 obtain⟨m,q,e1,e2,e3,e4,e5⟩:=h.mp h0 n6
 have hno:q.lookup k1=none:=lookup_none_of fun p hp e=>by
  rcases (e4 p).1 hp with⟨rfl,h'⟩ | ⟨rfl,h'⟩
  ·first | (rw [hl]at h';cases h') | exact hne e
  ·first | (rw [hl]at h';cases h') | exact hne e.symm
 obtain⟨w',r1,r2,r3⟩:=e3.upd k1 c1 hno
 have nn:=h.nw.then r3 (fun i hi _=>by show i≠m;omega)
 refine⟨m,w',e1,r1,{ h with
  nw:=(by exact nn),
  mp:=(by
   intro _ _
   refine⟨m,_,e1,e2,r2,fun p=>?_,fun h3=>by simp [up,n3]at h3⟩
   rw [List.mem_append,e4,List.mem_singleton]
   simp [up,hl,or_comm]),
  d1:=(by intro _;simpa [up]using h0),
  d3:=(by first | (simpa [up]using h.d3) | (intro a;have:=h.d3 (by simpa [up]using a);simp [up,this])),
  by8:=(by
   intro h8 h9
   obtain⟨S,b1,b2,b3⟩:=h.by8 (by simpa [up]using h8) (by simpa [up]using h9)
   exact⟨S,b1.keep r3 (fun i _ hi=>by rintro rfl;exact b3 i h0 n6 e1 hi),b2,fun m' hm' h6'=>b3 m' (by simpa [up]using hm') n6⟩),
  p9:=(by intro a;simp [up,n9]at a),
  p10:=(by intro a;simp [up,n10]at a),
  p12:=(by intro a;simp [up,n12]at a) }⟩
theorem Ins.s2(h:Ins k1 c1 k2 c2 w0 base B n k c s0 fs l x w)(hne:k1≠k2)(h0:l 0=true)(hl:l 2=false):∃m w',x 0=.map (some m)∧(Instr.mapUpdate 294 (.map (some m)) (.int .i64 k2) (.int .i64 c2)).run Tryz.prog w=.ok () w'∧Ins k1 c1 k2 c2 w0 base B n k c s0 fs (up l 2 true) x w':=by
 have n3:=off_of (fun e=>(h.d3 e).2) hl
 have n6:=off_of h.d6 n3
 have n9:=off_of (fun e=>(h.d9 e).1) n6
 have n10:=off_of h.d10 n9
 have n12:=off_of (fun e=>(h.d12 e).1) n10
 obtain⟨m,q,e1,e2,e3,e4,e5⟩:=h.mp h0 n6
 have hno:q.lookup k2=none:=lookup_none_of fun p hp e=>by
  rcases (e4 p).1 hp with⟨rfl,h'⟩ | ⟨rfl,h'⟩
  ·first | (rw [hl]at h';cases h') | exact hne e
  ·first | (rw [hl]at h';cases h') | exact hne e.symm
 obtain⟨w',r1,r2,r3⟩:=e3.upd k2 c2 hno
 have nn:=h.nw.then r3 (fun i hi _=>by show i≠m;omega)
 refine⟨m,w',e1,r1,{ h with
  nw:=(by exact nn),
  mp:=(by
   intro _ _
   refine⟨m,_,e1,e2,r2,fun p=>?_,fun h3=>by simp [up,n3]at h3⟩
   rw [List.mem_append,e4,List.mem_singleton]
   simp [up,hl,or_comm]),
  d2:=(by intro _;simpa [up]using h0),
  d3:=(by first | (simpa [up]using h.d3) | (intro a;have:=h.d3 (by simpa [up]using a);simp [up,this])),
  by8:=(by
   intro h8 h9
   obtain⟨S,b1,b2,b3⟩:=h.by8 (by simpa [up]using h8) (by simpa [up]using h9)
   exact⟨S,b1.keep r3 (fun i _ hi=>by rintro rfl;exact b3 i h0 n6 e1 hi),b2,fun m' hm' h6'=>b3 m' (by simpa [up]using hm') n6⟩),
  p9:=(by intro a;simp [up,n9]at a),
  p10:=(by intro a;simp [up,n10]at a),
  p12:=(by intro a;simp [up,n12]at a) }⟩
theorem Ins.s3(h:Ins k1 c1 k2 c2 w0 base B n k c s0 fs l x w)(h0:l 0=true)(h1:l 1=true)(h2:l 2=true):Ins k1 c1 k2 c2 w0 base B n k c s0 fs (up l 3 true) (up x 1 (x 0)) w:=by
 exact { h with
  mp:=(by
   intro _ h6
   obtain⟨m,q,e1,e2,e3,e4,e5⟩:=h.mp h0 (by simpa [up]using h6)
   exact⟨m,q,by simpa [up]using e1,e2,e3,by simpa [up]using e4,by simp [up,e1]⟩),
  d3:=(by intro _;simp [up,h1,h2]),
  d6:=(by first | (simpa [up]using h.d6) | (intro a;have:=h.d6 (by simpa [up]using a);simp [up,this])) }
theorem Ins.s4(h:Ins k1 c1 k2 c2 w0 base B n k c s0 fs l x w):Ins k1 c1 k2 c2 w0 base B n k c s0 fs (up l 4 true) (up x 2 (.pointer (some ⟨B,0,none⟩))) w:=by
 exact { h with
  t4:=(by intro _;simp [up]) }
theorem Ins.s5(h:Ins k1 c1 k2 c2 w0 base B n k c s0 fs l x w):Ins k1 c1 k2 c2 w0 base B n k c s0 fs (up l 5 true) (up x 3 (.int .i64 k)) w:=by
 exact { h with
  t5:=(by intro _;simp [up]) }
theorem Ins.s7(h:Ins k1 c1 k2 c2 w0 base B n k c s0 fs l x w):Ins k1 c1 k2 c2 w0 base B n k c s0 fs (up l 7 true) (up x 5 (.int .u64 (n:Int))) w:=by
 exact { h with
  t7:=(by intro _;simp [up]) }
theorem Ins.s11(h:Ins k1 c1 k2 c2 w0 base B n k c s0 fs l x w):Ins k1 c1 k2 c2 w0 base B n k c s0 fs (up l 11 true) (up x 9 (s0)) w:=by
 exact { h with
  d12:=(by first | (simpa [up]using h.d12) | (intro a;have:=h.d12 (by simpa [up]using a);simp [up,this])),
  t11:=(by intro _;simp [up]) }
theorem Ins.s6(h:Ins k1 c1 k2 c2 w0 base B n k c s0 fs l x w)(hne:k1≠k2)(hk:([(k1,c1),(k2,c2)]:List (Int×Int)).lookup k=some (c.toNat:Int))(h3:l 3=true)(hl:l 6=false):(∃m,x 1=.map (some m)∧(Instr.lookup 294 (.map (some m)) (.int .i64 k) false).run Tryz.prog w=.ok (.int .i64 (c.toNat:Int)) w)∧Ins k1 c1 k2 c2 w0 base B n k c s0 fs (up l 6 true) (up x 4 (.int .i64 (c.toNat:Int))) w:=by
 obtain⟨h1,h2⟩:=h.d3 h3
 obtain⟨m,q,e1,e2,e3,e4,e5⟩:=h.mp (h.d1 h1) hl
 refine⟨⟨m,e5 h3,?_⟩,?_⟩
 ·rw [e3.look k,lookup_same (l':=[(k1,c1),(k2,c2)]) (fun p=>by rw [e4];simp [h1,h2]) (fun p hp q hq e=>by
   simp only [List.mem_cons,List.mem_nil_iff,or_false]at hp hq
   rcases hp with rfl | rfl<;>rcases hq with rfl | rfl<;>first | rfl | exact absurd e hne | exact absurd e.symm hne) k,hk]
  rfl
 ·exact { h with
  mp:=(by intro _ a;simp [up]at a),
  d6:=(by intro _;simpa [up]using h3),
  d9:=(by first | (simpa [up]using h.d9) | (intro a;have:=h.d9 (by simpa [up]using a);simp [up,this])),
  t6:=(by intro _;simp [up]),
  by8:=(by intro a b;obtain⟨S,e1,e2,_⟩:=h.by8 (by simpa [up]using a) (by simpa [up]using b);exact⟨S,e1.imp (fun w h=>by simpa [up]using h),e2,fun m _ a=>by simp [up]at a⟩) }
theorem Ins.s8{v:Value}(h:Ins k1 c1 k2 c2 w0 base B n k c s0 fs l x w){b0:Nat}(hb:w0.heap.size≤b0)(hm:∀m,l 0=true→l 6=false→x 0=.map (some m)→m<b0)(hv:Dep (fun b=>b0≤b) w (fun w=>SlB w v (beB 1 n)))(hl:l 8=false):Ins k1 c1 k2 c2 w0 base B n k c s0 fs (up l 8 true) (up x 6 v) w:=by
 have n9:=off_of (fun e=>(h.d9 e).2) hl
 exact { h with
  d9:=(by intro a;simp [up,n9]at a),
  by8:=(by
   intro _ _
   exact⟨fun b=>b0≤b,hv.imp (fun w' h'=>by simpa [up]using h'),fun b hb'=>Nat.le_trans hb hb',fun m a a' b hS=>by have:=hm m (by simpa [up]using a) (by simpa [up]using a') (by simpa [up]using b);omega⟩) }
theorem Ins.s9(h:Ins k1 c1 k2 c2 w0 base B n k c s0 fs l x w)(h6:l 6=true)(h8:l 8=true)(hl:l 9=false):Ins k1 c1 k2 c2 w0 base B n k c s0 fs (up l 9 true) (up x 7 (.agg #[x 4,x 6])) w:=by
 have n10:=off_of h.d10 hl
 exact { h with
  d9:=(by intro _;simp [up,h6,h8]),
  d10:=(by first | (simpa [up]using h.d10) | (intro a;have:=h.d10 (by simpa [up]using a);simp [up,this])),
  by8:=(by intro _ a;simp [up]at a),
  p9:=(by
   intro _ _
   obtain⟨S,e1,e2,_⟩:=h.by8 h8 hl
   exact⟨x 6,by simp [up,h.t6 h6],e1.mono fun b _ hb=>e2 b hb⟩) }
theorem Ins.s10(h:Ins k1 c1 k2 c2 w0 base B n k c s0 fs l x w)(h9:l 9=true)(hl:l 10=false):∃v,x 7=.agg #[.int .i64 (c.toNat:Int),v]∧(∃A m cc,v=.slice A m cc)∧Ins k1 c1 k2 c2 w0 base B n k c s0 fs (up l 10 true) (up x 8 (.slice (some ⟨w.heap.size,0,none⟩) 1 1)) (w.alloc (.cells #[.int .i64 (c.toNat:Int),v] 143)):=by
 have n12:=off_of (fun e=>(h.d12 e).1) hl
 obtain⟨v,e1,e2⟩:=h.p9 h9 hl
 have kN:=(Keep.refl (fun _=>True) w).alloc (.cells #[.int .i64 (c.toNat:Int),v] 143)
 have g:=h.world kN
 refine⟨v,e1,(let ⟨A,cc,e,_⟩:=e2.here;⟨A,_,cc,e⟩),{ g with
  d10:=(by intro _;simp [up,h9]),
  d12:=(by first | (simpa [up]using g.d12) | (intro a;have:=g.d12 (by simpa [up]using a);simp [up,this])),
  p9:=(by intro _ a;simp [up]at a),
  p10:=(by
   intro _ _
   refine⟨[.int .i64 (c.toNat:Int),v],⟨rfl,.inr ⟨w.heap.size,1,#[.int .i64 (c.toNat:Int),v],by simp [up],h.nw.size,blk_new w _,Nat.le_refl _,by unfold maxLen;omega,rfl,rfl⟩⟩,?_⟩
   exact(e2.step kN.size (fun i hi _=>kN.block i hi trivial) (fun b hb hok=>⟨hok,fun e=>by simp [up,Value.ownBlock]at e;omega⟩)).imp fun w h=>Pcs.cons h.toC .nil) }⟩
theorem Ins.s12(h:Ins k1 c1 k2 c2 w0 base B n k c s0 fs l x w)(hb:base≤w0.heap.size)(hrow:RowG 143 2 Pcs w0 base s0 fs)(hfs:0<fs.length)(hfs2:fs.length≤1000)(h10:l 10=true)(h11:l 11=true)(hl:l 12=false):∃r w',(Builtin.append_ #[140,140] 140 #[x 8,s0]).run Tryz.prog w=.ok r w'∧Ins k1 c1 k2 c2 w0 base B n k c s0 fs (up l 12 true) (up x 10 r) w':=by
 have h9:=h.d10 h10
 obtain⟨h6,h8⟩:=h.d9 h9
 have n13:=off_of h.d13 hl
 have row:=h.p10 h10 hl
 have kk:=h.nw
 obtain⟨cells,ho,hd⟩:=hrow
 have hsl:=(slG_own ho).keep kk
 obtain⟨A,cc,hs0⟩:∃A cc,s0=.slice A fs.length cc:=(let ⟨A,cc,e,_⟩:=hsl.shape;⟨A,cc,e⟩)
 have hs1:=hs0
 rw [hs0]at hsl
 obtain⟨d,i,hA,_,_,_,hcell⟩:=hsl.at (by omega)
 have hlen:=pieceCells.len hd.here
 have hown:=row.far
 obtain⟨g,cap,w',hr,hrow',k',hg⟩:=(row.mono hb).step pieceCells (vs:=fs) Tryz.underlying140 info143 rfl (by omega) (by omega) d i cc cells (fun j u hj=>hcell j u (by rw [←hlen];exact(List.getElem?_eq_some_iff.1 hj).1) hj)
  (hd.step kk.size (fun i hi _=>kk.block i hi trivial) (fun b hb' hok=>⟨hok.1,hown b hb'⟩)) hfs (by simp;omega) (Nat.le_trans hb kk.size)
 have nn:=kk.then k' (fun i hi _=>hown i hi)
 refine⟨_,w',by rw [hs0,hA];exact hr,{ h with
  nw:=(by exact nn),
  mp:=(by intro _ a;simp [up,h6]at a),
  d12:=(by intro _;simp [up,h10,h11]),
  d13:=(by intro a;simp [up,n13]at a),
  by8:=(by intro _ a;simp [up,h9]at a),
  p9:=(by intro _ a;simp [up,h10]at a),
  p10:=(by intro _ a;simp [up]at a),
  p12:=(by
   intro _
   have e:up x 10 (.slice (some ⟨g,0,none⟩) ([(c,beB 1 n)].length+fs.length) cap) 10=.slice (some ⟨g,0,none⟩) ([(c,beB 1 n)].length+fs.length) cap:=by simp [up]
   rw [e]
   exact hrow'),
  p13:=(by intro a;simp [up,n13]at a) }⟩
theorem Ins.s13(h:Ins k1 c1 k2 c2 w0 base B n k c s0 fs l x w)(h12:l 12=true):Ins k1 c1 k2 c2 w0 base B n k c s0 fs (up l 13 true) (up x 11 (x 10)) w:=by
 exact { h with
  d13:=(by intro _;simp [up,h12]),
  q6:=(by intro a;simp [up]at a),
  p13:=(by intro _;simp [up]) }
end
theorem ins_region_8{Q:Exit→Act→World→Prop}{F:Act}{w:World}{base B n:Nat}{k:Int}{c:UInt8}{s0:Value}{fs:List (UInt8×List UInt8)}(hF:F.tmps.size=73)(t1:F.eval (.tmp 1)=.pointer (some ⟨B,0,none⟩))(t3:F.eval (.tmp 3)=.int .u64 (n:Int))(t6:F.eval (.tmp 6)=s0)
 (hB:w.cell? ⟨B,0,none⟩=some (.int .i64 k)) (hn:n<18446744073709551616) (hk:([(4,82),(5,83)]:List (Int×Int)).lookup k=some (c.toNat:Int)) (hb:base≤w.heap.size) (hrow:RowG 143 2 Pcs w base s0 fs) (hfs:0<fs.length) (hfs2:fs.length≤1000)
 (hQ:∀a' w',Agrees F [6,30,31,32,33,34,35,36,37,38,39,40] a'→New w w'→RowG 143 2 Pcs w' base (a'.eval (.tmp 6)) ((c,beB 1 n)::fs)→Q .normal a' w'):
 (Code.region 8 #[{ dst:=some 30,op:=Op.makeMap 294 none,type:=294,pos:= "amqp.go:43",after:=#[],guard:=none },{ dst:=none,op:=Op.insert 294 (Operand.tmp 30) (Operand.const (Value.int IntKind.i64 4)) (Operand.const (Value.int IntKind.i64 82)),type:=0,pos:= "amqp.go:43",after:=#[{ on:=0,ground:=Ground.data }],guard:=none },{ dst:=none,op:=Op.insert 294 (Operand.tmp 30) (Operand.const (Value.int IntKind.i64 5)) (Operand.const (Value.int IntKind.i64 83)),type:=0,pos:= "amqp.go:43",after:=#[{ on:=0,ground:=Ground.data }],guard:=none },{ dst:=some 31,op:=Op.move (Operand.tmp 30),type:=294,pos:= "amqp.go:43",after:=#[{ on:=0,ground:=Ground.data },{ on:=1,ground:=Ground.data },{ on:=2,ground:=Ground.data }],guard:=none },{ dst:=some 32,op:=Op.fieldAddr 78 (Operand.tmp 1) 0,type:=0,pos:= "amqp.go:43",after:=#[],guard:=none },{ dst:=some 33,op:=Op.load 3 (Operand.tmp 32),type:=3,pos:= "amqp.go:43",after:=#[{ on:=4,ground:=Ground.data }],guard:=none },{ dst:=some 34,op:=Op.lookup 294 (Operand.tmp 31) (Operand.tmp 33) false,type:=3,pos:= "amqp.go:43",after:=#[{ on:=3,ground:=Ground.data },{ on:=5,ground:=Ground.data }],guard:=none },{ dst:=some 35,op:=Op.move (Operand.tmp 3),type:=26,pos:= "amqp.go:43",after:=#[],guard:=none },{ dst:=some 36,op:=Op.call { callee:=Callee.value (Operand.func 133),args:=#[Operand.tmp 35,Operand.const (Value.int IntKind.i64 1)],argTypes:=#[26,3] },type:=27,pos:= "amqp.go:43",after:=#[{ on:=7,ground:=Ground.data }],guard:=none },{ dst:=some 37,op:=Op.build 143 #[(0,Operand.tmp 34),(1,Operand.tmp 36)],type:=143,pos:= "amqp.go:43",after:=#[{ on:=6,ground:=Ground.data },{ on:=8,ground:=Ground.data }],guard:=none },{ dst:=some 38,op:=Op.buildSlice 140 1 #[(0,Operand.tmp 37)],type:=140,pos:= "amqp.go:43",after:=#[{ on:=9,ground:=Ground.data }],guard:=none },{ dst:=some 39,op:=Op.move (Operand.tmp 6),type:=140,pos:= "amqp.go:43",after:=#[],guard:=none },{ dst:=some 40,op:=Op.call { callee:=Callee.builtin Builtin.append,args:=#[Operand.tmp 38,Operand.tmp 39],argTypes:=#[140,140] },type:=140,pos:= "amqp.go:43",after:=#[{ on:=10,ground:=Ground.data },{ on:=11,ground:=Ground.data },{ on:=8,ground:=Ground.chain }],guard:=none },{ dst:=some 6,op:=Op.assign (Operand.tmp 40),type:=140,pos:= "amqp.go:43",after:=#[{ on:=12,ground:=Ground.data },{ on:=12,ground:=Ground.chain },{ on:=0,ground:=Ground.phase },{ on:=1,ground:=Ground.phase },{ on:=2,ground:=Ground.phase },{ on:=3,ground:=Ground.phase },{ on:=4,ground:=Ground.phase },{ on:=5,ground:=Ground.phase },{ on:=6,ground:=Ground.phase },{ on:=7,ground:=Ground.phase },{ on:=8,ground:=Ground.phase },{ on:=9,ground:=Ground.phase },{ on:=10,ground:=Ground.phase },{ on:=11,ground:=Ground.phase },{ on:=12,ground:=Ground.phase }],guard:=none }] true).wp Tryz.prog Q F w:=by
 refine region_inv (by kernel_rfl) (fun L a w'=>Agrees F [6,30,31,32,33,34,35,36,37,38,39,40] a∧Ins 4 82 5 83 w base B n k c s0 fs (fun j=>L.getD j false) (fun t=>a.eval (.tmp (rl 30 t))) w') (by kernel_rfl) ?start ?step ?fin
 case start=>
  refine⟨Agrees.refl F _,?_⟩
  constructor
  case nw=>exact(Keep.refl _ w).drew
  case q6=>intro _;exact t6
  all_goals (intro a;try simp only [rep_off]at a;cases a)
 case fin=>
  intro L a w' hall hI
  have h12:=hI.2.p12 (hall 12 (by simp))
  rw [←hI.2.p13 (hall 13 (by simp))]at h12
  exact hQ a w' hI.1 hI.2.nw h12
 case step=>
  intro i o L a w' ho hd hL hs hI
  have hi:=(Array.getElem?_eq_some_iff.1 ho).1
  simp only [List.size_toArray,List.length_cons,List.length_nil]at hi hs
  have kput:∀i,i<14→∀j,rl 30 j<73→rl 30 j∈[6,30,31,32,33,34,35,36,37,38,39,40]→∀(v:Value) {w2:World},Ins 4 82 5 83 w base B n k c s0 fs (up (fun j=>L.getD j false) i true) (up (fun t=>a.eval (.tmp (rl 30 t))) j v) w2→Agrees F [6,30,31,32,33,34,35,36,37,38,39,40] (a.put (some (rl 30 j)) v)∧Ins 4 82 5 83 w base B n k c s0 fs (fun j=>(L.setIfInBounds i true).getD j false) (fun t=>(a.put (some (rl 30 j)) v).eval (.tmp (rl 30 t))) w2:=fun i hi j hd hm v w2 h=>⟨hI.1.put hm,by rw [up_L (by omega),up_rl (by decide) (by rw [hI.1.size,hF];exact hd)];exact h⟩
  have kno:∀i,i<14→∀{w2:World},Ins 4 82 5 83 w base B n k c s0 fs (up (fun j=>L.getD j false) i true) (fun t=>a.eval (.tmp (rl 30 t))) w2→Agrees F [6,30,31,32,33,34,35,36,37,38,39,40] (a.put none undef)∧Ins 4 82 5 83 w base B n k c s0 fs (fun j=>(L.setIfInBounds i true).getD j false) (fun t=>(a.put none undef).eval (.tmp (rl 30 t))) w2:=fun i hi w2 h=>⟨hI.1,by rw [up_L (by omega)];exact h⟩
  have hi':i=0∨i=1∨i=2∨i=3∨i=4∨i=5∨i=6∨i=7∨i=8∨i=9∨i=10∨i=11∨i=12∨i=13:=by omega
  clear hi
  rcases hi' with rfl | rfl | rfl | rfl | rfl | rfl | rfl | rfl | rfl | rfl | rfl | rfl | rfl | rfl
  ·have ho':=ho
   simp only [List.getElem?_toArray,List.getElem?_cons_zero,List.getElem?_cons_succ,Option.some.injEq]at ho
   refine wpOp_in ho' (by rw [←ho]) ?_
   subst ho
   clear ho'
   simp only [Oper.wp,execOp,Sem.run_bind,make294,Result.andThen_ok,Sem.run_pure,Oper.upon_value]
   exact kput 0 (by decide) 0 (by decide) (by decide) _ (hI.2.a0 hL)
  ·have ho':=ho
   simp only [List.getElem?_toArray,List.getElem?_cons_zero,List.getElem?_cons_succ,Option.some.injEq]at ho
   refine wpOp_in ho' (by rw [←ho]) ?_
   subst ho
   clear ho'
   obtain⟨m,w2,e1,e2,e3⟩:=hI.2.s1 (by decide) (hd ⟨0,.data⟩ (by simp) rfl) hL
   have e1:a.eval (.tmp 30)=.map (some m):=e1
   have e4:a.eval (.const (.int .i64 4))=.int .i64 4:=rfl
   have e5:a.eval (.const (.int .i64 82))=.int .i64 82:=rfl
   simp only [Oper.wp,execOp,Sem.run_bind,e1,e4,e5,e2,Result.andThen_ok,Sem.run_pure,Oper.upon_skip]
   exact kno 1 (by decide) e3
  ·have ho':=ho
   simp only [List.getElem?_toArray,List.getElem?_cons_zero,List.getElem?_cons_succ,Option.some.injEq]at ho
   refine wpOp_in ho' (by rw [←ho]) ?_
   subst ho
   clear ho'
   obtain⟨m,w2,e1,e2,e3⟩:=hI.2.s2 (by decide) (hd ⟨0,.data⟩ (by simp) rfl) hL
   have e1:a.eval (.tmp 30)=.map (some m):=e1
   have e4:a.eval (.const (.int .i64 5))=.int .i64 5:=rfl
   have e5:a.eval (.const (.int .i64 83))=.int .i64 83:=rfl
   simp only [Oper.wp,execOp,Sem.run_bind,e1,e4,e5,e2,Result.andThen_ok,Sem.run_pure,Oper.upon_skip]
   exact kno 2 (by decide) e3
  ·have ho':=ho
   simp only [List.getElem?_toArray,List.getElem?_cons_zero,List.getElem?_cons_succ,Option.some.injEq]at ho
   refine wpOp_in ho' (by rw [←ho]) ?_
   subst ho
   clear ho'
   simp only [Oper.wp,execOp,Sem.run_bind,Result.andThen_ok,Sem.run_pure,Oper.upon_value]
   exact kput 3 (by decide) 1 (by decide) (by decide) _ (hI.2.s3 (hd ⟨0,.data⟩ (by simp) rfl) (hd ⟨1,.data⟩ (by simp) rfl) (hd ⟨2,.data⟩ (by simp) rfl))
  ·have ho':=ho
   simp only [List.getElem?_toArray,List.getElem?_cons_zero,List.getElem?_cons_succ,Option.some.injEq]at ho
   refine wpOp_in ho' (by rw [←ho]) ?_
   subst ho
   clear ho'
   have e0:a.eval (.tmp 1)=.pointer (some ⟨B,0,none⟩):=hI.1.keep 1 (by decide)▸t1
   have hr:(execOp a.eval { dst:=some 32,op:=Op.fieldAddr 78 (Operand.tmp 1) 0,type:=0,pos:= "amqp.go:43",after:=#[],guard:=none }).run Tryz.prog w'=.ok (.value (.pointer (some ⟨B,0,none⟩))) w':=by
    simp only [execOp,e0]
    simp [go_sem]
   simp only [Oper.wp,hr,Oper.upon_value]
   exact kput 4 (by decide) 2 (by decide) (by decide) _ hI.2.s4
  ·have ho':=ho
   simp only [List.getElem?_toArray,List.getElem?_cons_zero,List.getElem?_cons_succ,Option.some.injEq]at ho
   refine wpOp_in ho' (by rw [←ho]) ?_
   subst ho
   clear ho'
   have e0:a.eval (.tmp 32)=.pointer (some ⟨B,0,none⟩):=hI.2.t4 (hd ⟨4,.data⟩ (by simp) rfl)
   have hB':=hI.2.nw.cell hB trivial
   have hr:(execOp a.eval { dst:=some 33,op:=Op.load 3 (Operand.tmp 32),type:=3,pos:= "amqp.go:43",after:=#[{ on:=4,ground:=Ground.data }],guard:=none }).run Tryz.prog w'=.ok (.value (.int .i64 k)) w':=by
    simp only [execOp,e0]
    simp [go_sem,hB']
   simp only [Oper.wp,hr,Oper.upon_value]
   exact kput 5 (by decide) 3 (by decide) (by decide) _ hI.2.s5
  ·have ho':=ho
   simp only [List.getElem?_toArray,List.getElem?_cons_zero,List.getElem?_cons_succ,Option.some.injEq]at ho
   refine wpOp_in ho' (by rw [←ho]) ?_
   subst ho
   clear ho'
   obtain⟨⟨m,e1,e2⟩,e3⟩:=hI.2.s6 (by decide) hk (hd ⟨3,.data⟩ (by simp) rfl) hL
   have e0:a.eval (.tmp 33)=.int .i64 k:=hI.2.t5 (hd ⟨5,.data⟩ (by simp) rfl)
   have e1:a.eval (.tmp 31)=.map (some m):=e1
   simp only [Oper.wp,execOp,Sem.run_bind,e0,e1,e2,Result.andThen_ok,Sem.run_pure,Oper.upon_value]
   exact kput 6 (by decide) 4 (by decide) (by decide) _ e3
  ·have ho':=ho
   simp only [List.getElem?_toArray,List.getElem?_cons_zero,List.getElem?_cons_succ,Option.some.injEq]at ho
   refine wpOp_in ho' (by rw [←ho]) ?_
   subst ho
   clear ho'
   have e0:a.eval (.tmp 3)=.int .u64 (n:Int):=hI.1.keep 3 (by decide)▸t3
   simp only [Oper.wp,execOp,Sem.run_bind,e0,Result.andThen_ok,Sem.run_pure,Oper.upon_value]
   exact kput 7 (by decide) 5 (by decide) (by decide) _ hI.2.s7
  ·have ho':=ho
   simp only [List.getElem?_toArray,List.getElem?_cons_zero,List.getElem?_cons_succ,Option.some.injEq]at ho
   refine wpOp_in ho' (by rw [←ho]) ?_
   subst ho
   clear ho'
   have e0:a.eval (.tmp 35)=.int .u64 (n:Int):=hI.2.t7 (hd ⟨7,.data⟩ (by simp) rfl)
   have hr:(execOp a.eval { dst:=some 36,op:=Op.call { callee:=Callee.value (Operand.func 133),args:=#[Operand.tmp 35,Operand.const (Value.int IntKind.i64 1)],argTypes:=#[26,3] },type:=27,pos:= "amqp.go:43",after:=#[{ on:=7,ground:=Ground.data }],guard:=none }).run Tryz.prog w'=.ok (.enter 133 #[.int .u64 (n:Int),.int .i64 1]) w':=by
    simp [execOp,resolve,go_sem]
    simpa [Act.eval]using e0
   simp only [Oper.wp,hr,Oper.upon]
   refine(big_is n 1 hn (by decide) w').mono ?_
   rintro e w2 ⟨v,rfl,kv,hv⟩
   exact kput 8 (by decide) 6 (by decide) (by decide) _ ((hI.2.world kv).s8 hI.2.nw.size (fun m a a' b=>(hI.2.map_lt a a' b)) hv.out hL)
  ·have ho':=ho
   simp only [List.getElem?_toArray,List.getElem?_cons_zero,List.getElem?_cons_succ,Option.some.injEq]at ho
   refine wpOp_in ho' (by rw [←ho]) ?_
   subst ho
   clear ho'
   have e6:a.eval (.tmp 34)=.int .i64 (c.toNat:Int):=hI.2.t6 (hd ⟨6,.data⟩ (by simp) rfl)
   have e8:∃A m cc,a.eval (.tmp 36)=.slice A m cc:=(let ⟨S,e1,_⟩:=hI.2.by8 (hd ⟨8,.data⟩ (by simp) rfl) hL;let ⟨A,cc,e,_⟩:=e1.here;⟨A,_,cc,e⟩)
   obtain⟨A,m,cc,e8⟩:=e8
   have e9:Ins 4 82 5 83 w base B n k c s0 fs (up (fun j=>L.getD j false) 9 true) (up (fun t=>a.eval (.tmp (rl 30 t))) 7 (.agg #[a.eval (.tmp 34),a.eval (.tmp 36)])) w':=hI.2.s9 (hd ⟨6,.data⟩ (by simp) rfl) (hd ⟨8,.data⟩ (by simp) rfl) hL
   rw [e6,e8]at e9
   have hr:(execOp a.eval { dst:=some 37,op:=Op.build 143 #[(0,Operand.tmp 34),(1,Operand.tmp 36)],type:=143,pos:= "amqp.go:43",after:=#[{ on:=6,ground:=Ground.data },{ on:=8,ground:=Ground.data }],guard:=none }).run Tryz.prog w'=.ok (.value (.agg #[.int .i64 (c.toNat:Int),.slice A m cc])) w':=by
    simp only [execOp,List.map_toArray,List.map_cons,List.map_nil,e6,e8,Sem.run_bind,build143,Result.andThen_ok,Sem.run_pure]
   simp only [Oper.wp,hr,Oper.upon_value]
   exact kput 9 (by decide) 7 (by decide) (by decide) _ e9
  ·have ho':=ho
   simp only [List.getElem?_toArray,List.getElem?_cons_zero,List.getElem?_cons_succ,Option.some.injEq]at ho
   refine wpOp_in ho' (by rw [←ho]) ?_
   subst ho
   clear ho'
   obtain⟨v,e1,e2,e3⟩:=hI.2.s10 (hd ⟨9,.data⟩ (by simp) rfl) hL
   have e1:a.eval (.tmp 37)=.agg #[.int .i64 (c.toNat:Int),v]:=e1
   have hr:(execOp a.eval { dst:=some 38,op:=Op.buildSlice 140 1 #[(0,Operand.tmp 37)],type:=140,pos:= "amqp.go:43",after:=#[{ on:=9,ground:=Ground.data }],guard:=none }).run Tryz.prog w'=.ok (.value (.slice (some ⟨w'.heap.size,0,none⟩) 1 1)) (w'.alloc (.cells #[.int .i64 (c.toNat:Int),v] 143)):=by
    obtain⟨A,m,cc,rfl⟩:=e2
    simp only [execOp,List.map_toArray,List.map_cons,List.map_nil,e1,Sem.run_bind,slice143,Result.andThen_ok,Sem.run_pure]
   simp only [Oper.wp,hr,Oper.upon_value]
   exact kput 10 (by decide) 8 (by decide) (by decide) _ e3
  ·have ho':=ho
   simp only [List.getElem?_toArray,List.getElem?_cons_zero,List.getElem?_cons_succ,Option.some.injEq]at ho
   refine wpOp_in ho' (by rw [←ho]) ?_
   subst ho
   clear ho'
   have e0:a.eval (.tmp 6)=s0:=hI.2.q6 (off_of (fun e=>(hI.2.d12 (hI.2.d13 e)).2) hL)
   simp only [Oper.wp,execOp,Sem.run_bind,e0,Result.andThen_ok,Sem.run_pure,Oper.upon_value]
   exact kput 11 (by decide) 9 (by decide) (by decide) _ hI.2.s11
  ·have ho':=ho
   simp only [List.getElem?_toArray,List.getElem?_cons_zero,List.getElem?_cons_succ,Option.some.injEq]at ho
   refine wpOp_in ho' (by rw [←ho]) ?_
   subst ho
   clear ho'
   obtain⟨r,w2,e1,e2⟩:=hI.2.s12 hb hrow hfs hfs2 (hd ⟨10,.data⟩ (by simp) rfl) (hd ⟨11,.data⟩ (by simp) rfl) hL
   have e0:a.eval (.tmp 39)=s0:=hI.2.t11 (hd ⟨11,.data⟩ (by simp) rfl)
   have e1:(Builtin.append_ #[140,140] 140 #[a.eval (.tmp 38),s0]).run Tryz.prog w'=.ok r w2:=e1
   have hr:(execOp a.eval { dst:=some 40,op:=Op.call { callee:=Callee.builtin Builtin.append,args:=#[Operand.tmp 38,Operand.tmp 39],argTypes:=#[140,140] },type:=140,pos:= "amqp.go:43",after:=#[{ on:=10,ground:=Ground.data },{ on:=11,ground:=Ground.data },{ on:=8,ground:=Ground.chain }],guard:=none }).run Tryz.prog w'=.ok (.value r) w2:=by
    unfold execOp
    simp only [resolve,invoke,builtin,Sem.run_bind,Sem.run_pure,Result.andThen_ok,List.map_toArray,List.map_cons,List.map_nil,e0,e1]
   simp only [Oper.wp,hr,Oper.upon_value]
   exact kput 12 (by decide) 10 (by decide) (by decide) _ e2
  ·have ho':=ho
   simp only [List.getElem?_toArray,List.getElem?_cons_zero,List.getElem?_cons_succ,Option.some.injEq]at ho
   refine wpOp_in ho' (by rw [←ho]) ?_
   subst ho
   clear ho'
   simp only [Oper.wp,execOp,Sem.run_bind,Result.andThen_ok,Sem.run_pure,Oper.upon_value]
   exact kput 13 (by decide) 11 (by decide) (by decide) _ (hI.2.s13 (hd ⟨12,.data⟩ (by simp) rfl))
theorem ins_region_14{Q:Exit→Act→World→Prop}{F:Act}{w:World}{base B n:Nat}{k:Int}{c:UInt8}{s0:Value}{fs:List (UInt8×List UInt8)}(hF:F.tmps.size=73)(t1:F.eval (.tmp 1)=.pointer (some ⟨B,0,none⟩))(t3:F.eval (.tmp 3)=.int .u64 (n:Int))(t6:F.eval (.tmp 6)=s0)
 (hB:w.cell? ⟨B,0,none⟩=some (.int .i64 k)) (hn:n<18446744073709551616) (hk:([(8,84),(9,85)]:List (Int×Int)).lookup k=some (c.toNat:Int)) (hb:base≤w.heap.size) (hrow:RowG 143 2 Pcs w base s0 fs) (hfs:0<fs.length) (hfs2:fs.length≤1000)
 (hQ:∀a' w',Agrees F [6,61,62,63,64,65,66,67,68,69,70,71] a'→New w w'→RowG 143 2 Pcs w' base (a'.eval (.tmp 6)) ((c,beB 1 n)::fs)→Q .normal a' w'):
 (Code.region 14 #[{ dst:=some 61,op:=Op.makeMap 294 none,type:=294,pos:= "amqp.go:50",after:=#[],guard:=none },{ dst:=none,op:=Op.insert 294 (Operand.tmp 61) (Operand.const (Value.int IntKind.i64 8)) (Operand.const (Value.int IntKind.i64 84)),type:=0,pos:= "amqp.go:50",after:=#[{ on:=0,ground:=Ground.data }],guard:=none },{ dst:=none,op:=Op.insert 294 (Operand.tmp 61) (Operand.const (Value.int IntKind.i64 9)) (Operand.const (Value.int IntKind.i64 85)),type:=0,pos:= "amqp.go:50",after:=#[{ on:=0,ground:=Ground.data }],guard:=none },{ dst:=some 62,op:=Op.move (Operand.tmp 61),type:=294,pos:= "amqp.go:50",after:=#[{ on:=0,ground:=Ground.data },{ on:=1,ground:=Ground.data },{ on:=2,ground:=Ground.data }],guard:=none },{ dst:=some 63,op:=Op.fieldAddr 78 (Operand.tmp 1) 0,type:=0,pos:= "amqp.go:50",after:=#[],guard:=none },{ dst:=some 64,op:=Op.load 3 (Operand.tmp 63),type:=3,pos:= "amqp.go:50",after:=#[{ on:=4,ground:=Ground.data }],guard:=none },{ dst:=some 65,op:=Op.lookup 294 (Operand.tmp 62) (Operand.tmp 64) false,type:=3,pos:= "amqp.go:50",after:=#[{ on:=3,ground:=Ground.data },{ on:=5,ground:=Ground.data }],guard:=none },{ dst:=some 66,op:=Op.move (Operand.tmp 3),type:=26,pos:= "amqp.go:50",after:=#[],guard:=none },{ dst:=some 67,op:=Op.call { callee:=Callee.value (Operand.func 133),args:=#[Operand.tmp 66,Operand.const (Value.int IntKind.i64 1)],argTypes:=#[26,3] },type:=27,pos:= "amqp.go:50",after:=#[{ on:=7,ground:=Ground.data }],guard:=none },{ dst:=some 68,op:=Op.build 143 #[(0,Operand.tmp 65),(1,Operand.tmp 67)],type:=143,pos:= "amqp.go:50",after:=#[{ on:=6,ground:=Ground.data },{ on:=8,ground:=Ground.data }],guard:=none },{ dst:=some 69,op:=Op.buildSlice 140 1 #[(0,Operand.tmp 68)],type:=140,pos:= "amqp.go:50",after:=#[{ on:=9,ground:=Ground.data }],guard:=none },{ dst:=some 70,op:=Op.move (Operand.tmp 6),type:=140,pos:= "amqp.go:50",after:=#[],guard:=none },{ dst:=some 71,op:=Op.call { callee:=Callee.builtin Builtin.append,args:=#[Operand.tmp 69,Operand.tmp 70],argTypes:=#[140,140] },type:=140,pos:= "amqp.go:50",after:=#[{ on:=10,ground:=Ground.data },{ on:=11,ground:=Ground.data },{ on:=8,ground:=Ground.chain }],guard:=none },{ dst:=some 6,op:=Op.assign (Operand.tmp 71),type:=140,pos:= "amqp.go:50",after:=#[{ on:=12,ground:=Ground.data },{ on:=12,ground:=Ground.chain },{ on:=0,ground:=Ground.phase },{ on:=1,ground:=Ground.phase },{ on:=2,ground:=Ground.phase },{ on:=3,ground:=Ground.phase },{ on:=4,ground:=Ground.phase },{ on:=5,ground:=Ground.phase },{ on:=6,ground:=Ground.phase },{ on:=7,ground:=Ground.phase },{ on:=8,ground:=Ground.phase },{ on:=9,ground:=Ground.phase },{ on:=10,ground:=Ground.phase },{ on:=11,ground:=Ground.phase },{ on:=12,ground:=Ground.phase }],guard:=none }] true).wp Tryz.prog Q F w:=by
 refine region_inv (by kernel_rfl) (fun L a w'=>Agrees F [6,61,62,63,64,65,66,67,68,69,70,71] a∧Ins 8 84 9 85 w base B n k c s0 fs (fun j=>L.getD j false) (fun t=>a.eval (.tmp (rl 61 t))) w') (by kernel_rfl) ?start ?step ?fin
 case start=>
  refine⟨Agrees.refl F _,?_⟩
  constructor
  case nw=>exact(Keep.refl _ w).drew
  case q6=>intro _;exact t6
  all_goals (intro a;try simp only [rep_off]at a;cases a)
 case fin=>
  intro L a w' hall hI
  have h12:=hI.2.p12 (hall 12 (by simp))
  rw [←hI.2.p13 (hall 13 (by simp))]at h12
  exact hQ a w' hI.1 hI.2.nw h12
 case step=>
  intro i o L a w' ho hd hL hs hI
  have hi:=(Array.getElem?_eq_some_iff.1 ho).1
  simp only [List.size_toArray,List.length_cons,List.length_nil]at hi hs
  have kput:∀i,i<14→∀j,rl 61 j<73→rl 61 j∈[6,61,62,63,64,65,66,67,68,69,70,71]→∀(v:Value) {w2:World},Ins 8 84 9 85 w base B n k c s0 fs (up (fun j=>L.getD j false) i true) (up (fun t=>a.eval (.tmp (rl 61 t))) j v) w2→Agrees F [6,61,62,63,64,65,66,67,68,69,70,71] (a.put (some (rl 61 j)) v)∧Ins 8 84 9 85 w base B n k c s0 fs (fun j=>(L.setIfInBounds i true).getD j false) (fun t=>(a.put (some (rl 61 j)) v).eval (.tmp (rl 61 t))) w2:=fun i hi j hd hm v w2 h=>⟨hI.1.put hm,by rw [up_L (by omega),up_rl (by decide) (by rw [hI.1.size,hF];exact hd)];exact h⟩
  have kno:∀i,i<14→∀{w2:World},Ins 8 84 9 85 w base B n k c s0 fs (up (fun j=>L.getD j false) i true) (fun t=>a.eval (.tmp (rl 61 t))) w2→Agrees F [6,61,62,63,64,65,66,67,68,69,70,71] (a.put none undef)∧Ins 8 84 9 85 w base B n k c s0 fs (fun j=>(L.setIfInBounds i true).getD j false) (fun t=>(a.put none undef).eval (.tmp (rl 61 t))) w2:=fun i hi w2 h=>⟨hI.1,by rw [up_L (by omega)];exact h⟩
  have hi':i=0∨i=1∨i=2∨i=3∨i=4∨i=5∨i=6∨i=7∨i=8∨i=9∨i=10∨i=11∨i=12∨i=13:=by omega
  clear hi
  rcases hi' with rfl | rfl | rfl | rfl | rfl | rfl | rfl | rfl | rfl | rfl | rfl | rfl | rfl | rfl
  ·have ho':=ho
   simp only [List.getElem?_toArray,List.getElem?_cons_zero,List.getElem?_cons_succ,Option.some.injEq]at ho
   refine wpOp_in ho' (by rw [←ho]) ?_
   subst ho
   clear ho'
   simp only [Oper.wp,execOp,Sem.run_bind,make294,Result.andThen_ok,Sem.run_pure,Oper.upon_value]
   exact kput 0 (by decide) 0 (by decide) (by decide) _ (hI.2.a0 hL)
  ·have ho':=ho
   simp only [List.getElem?_toArray,List.getElem?_cons_zero,List.getElem?_cons_succ,Option.some.injEq]at ho
   refine wpOp_in ho' (by rw [←ho]) ?_
   subst ho
   clear ho'
   obtain⟨m,w2,e1,e2,e3⟩:=hI.2.s1 (by decide) (hd ⟨0,.data⟩ (by simp) rfl) hL
   have e1:a.eval (.tmp 61)=.map (some m):=e1
   have e4:a.eval (.const (.int .i64 8))=.int .i64 8:=rfl
   have e5:a.eval (.const (.int .i64 84))=.int .i64 84:=rfl
   simp only [Oper.wp,execOp,Sem.run_bind,e1,e4,e5,e2,Result.andThen_ok,Sem.run_pure,Oper.upon_skip]
   exact kno 1 (by decide) e3
  ·have ho':=ho
   simp only [List.getElem?_toArray,List.getElem?_cons_zero,List.getElem?_cons_succ,Option.some.injEq]at ho
   refine wpOp_in ho' (by rw [←ho]) ?_
   subst ho
   clear ho'
   obtain⟨m,w2,e1,e2,e3⟩:=hI.2.s2 (by decide) (hd ⟨0,.data⟩ (by simp) rfl) hL
   have e1:a.eval (.tmp 61)=.map (some m):=e1
   have e4:a.eval (.const (.int .i64 9))=.int .i64 9:=rfl
   have e5:a.eval (.const (.int .i64 85))=.int .i64 85:=rfl
   simp only [Oper.wp,execOp,Sem.run_bind,e1,e4,e5,e2,Result.andThen_ok,Sem.run_pure,Oper.upon_skip]
   exact kno 2 (by decide) e3
  ·have ho':=ho
   simp only [List.getElem?_toArray,List.getElem?_cons_zero,List.getElem?_cons_succ,Option.some.injEq]at ho
   refine wpOp_in ho' (by rw [←ho]) ?_
   subst ho
   clear ho'
   simp only [Oper.wp,execOp,Sem.run_bind,Result.andThen_ok,Sem.run_pure,Oper.upon_value]
   exact kput 3 (by decide) 1 (by decide) (by decide) _ (hI.2.s3 (hd ⟨0,.data⟩ (by simp) rfl) (hd ⟨1,.data⟩ (by simp) rfl) (hd ⟨2,.data⟩ (by simp) rfl))
  ·have ho':=ho
   simp only [List.getElem?_toArray,List.getElem?_cons_zero,List.getElem?_cons_succ,Option.some.injEq]at ho
   refine wpOp_in ho' (by rw [←ho]) ?_
   subst ho
   clear ho'
   have e0:a.eval (.tmp 1)=.pointer (some ⟨B,0,none⟩):=hI.1.keep 1 (by decide)▸t1
   have hr:(execOp a.eval { dst:=some 63,op:=Op.fieldAddr 78 (Operand.tmp 1) 0,type:=0,pos:= "amqp.go:50",after:=#[],guard:=none }).run Tryz.prog w'=.ok (.value (.pointer (some ⟨B,0,none⟩))) w':=by
    simp only [execOp,e0]
    simp [go_sem]
   simp only [Oper.wp,hr,Oper.upon_value]
   exact kput 4 (by decide) 2 (by decide) (by decide) _ hI.2.s4
  ·have ho':=ho
   simp only [List.getElem?_toArray,List.getElem?_cons_zero,List.getElem?_cons_succ,Option.some.injEq]at ho
   refine wpOp_in ho' (by rw [←ho]) ?_
   subst ho
   clear ho'
   have e0:a.eval (.tmp 63)=.pointer (some ⟨B,0,none⟩):=hI.2.t4 (hd ⟨4,.data⟩ (by simp) rfl)
   have hB':=hI.2.nw.cell hB trivial
   have hr:(execOp a.eval { dst:=some 64,op:=Op.load 3 (Operand.tmp 63),type:=3,pos:= "amqp.go:50",after:=#[{ on:=4,ground:=Ground.data }],guard:=none }).run Tryz.prog w'=.ok (.value (.int .i64 k)) w':=by
    simp only [execOp,e0]
    simp [go_sem,hB']
   simp only [Oper.wp,hr,Oper.upon_value]
   exact kput 5 (by decide) 3 (by decide) (by decide) _ hI.2.s5
  ·have ho':=ho
   simp only [List.getElem?_toArray,List.getElem?_cons_zero,List.getElem?_cons_succ,Option.some.injEq]at ho
   refine wpOp_in ho' (by rw [←ho]) ?_
   subst ho
   clear ho'
   obtain⟨⟨m,e1,e2⟩,e3⟩:=hI.2.s6 (by decide) hk (hd ⟨3,.data⟩ (by simp) rfl) hL
   have e0:a.eval (.tmp 64)=.int .i64 k:=hI.2.t5 (hd ⟨5,.data⟩ (by simp) rfl)
   have e1:a.eval (.tmp 62)=.map (some m):=e1
   simp only [Oper.wp,execOp,Sem.run_bind,e0,e1,e2,Result.andThen_ok,Sem.run_pure,Oper.upon_value]
   exact kput 6 (by decide) 4 (by decide) (by decide) _ e3
  ·have ho':=ho
   simp only [List.getElem?_toArray,List.getElem?_cons_zero,List.getElem?_cons_succ,Option.some.injEq]at ho
   refine wpOp_in ho' (by rw [←ho]) ?_
   subst ho
   clear ho'
   have e0:a.eval (.tmp 3)=.int .u64 (n:Int):=hI.1.keep 3 (by decide)▸t3
   simp only [Oper.wp,execOp,Sem.run_bind,e0,Result.andThen_ok,Sem.run_pure,Oper.upon_value]
   exact kput 7 (by decide) 5 (by decide) (by decide) _ hI.2.s7
  ·have ho':=ho
   simp only [List.getElem?_toArray,List.getElem?_cons_zero,List.getElem?_cons_succ,Option.some.injEq]at ho
   refine wpOp_in ho' (by rw [←ho]) ?_
   subst ho
   clear ho'
   have e0:a.eval (.tmp 66)=.int .u64 (n:Int):=hI.2.t7 (hd ⟨7,.data⟩ (by simp) rfl)
   have hr:(execOp a.eval { dst:=some 67,op:=Op.call { callee:=Callee.value (Operand.func 133),args:=#[Operand.tmp 66,Operand.const (Value.int IntKind.i64 1)],argTypes:=#[26,3] },type:=27,pos:= "amqp.go:50",after:=#[{ on:=7,ground:=Ground.data }],guard:=none }).run Tryz.prog w'=.ok (.enter 133 #[.int .u64 (n:Int),.int .i64 1]) w':=by
    simp [execOp,resolve,go_sem]
    simpa [Act.eval]using e0
   simp only [Oper.wp,hr,Oper.upon]
   refine(big_is n 1 hn (by decide) w').mono ?_
   rintro e w2 ⟨v,rfl,kv,hv⟩
   exact kput 8 (by decide) 6 (by decide) (by decide) _ ((hI.2.world kv).s8 hI.2.nw.size (fun m a a' b=>(hI.2.map_lt a a' b)) hv.out hL)
  ·have ho':=ho
   simp only [List.getElem?_toArray,List.getElem?_cons_zero,List.getElem?_cons_succ,Option.some.injEq]at ho
   refine wpOp_in ho' (by rw [←ho]) ?_
   subst ho
   clear ho'
   have e6:a.eval (.tmp 65)=.int .i64 (c.toNat:Int):=hI.2.t6 (hd ⟨6,.data⟩ (by simp) rfl)
   have e8:∃A m cc,a.eval (.tmp 67)=.slice A m cc:=(let ⟨S,e1,_⟩:=hI.2.by8 (hd ⟨8,.data⟩ (by simp) rfl) hL;let ⟨A,cc,e,_⟩:=e1.here;⟨A,_,cc,e⟩)
   obtain⟨A,m,cc,e8⟩:=e8
   have e9:Ins 8 84 9 85 w base B n k c s0 fs (up (fun j=>L.getD j false) 9 true) (up (fun t=>a.eval (.tmp (rl 61 t))) 7 (.agg #[a.eval (.tmp 65),a.eval (.tmp 67)])) w':=hI.2.s9 (hd ⟨6,.data⟩ (by simp) rfl) (hd ⟨8,.data⟩ (by simp) rfl) hL
   rw [e6,e8]at e9
   have hr:(execOp a.eval { dst:=some 68,op:=Op.build 143 #[(0,Operand.tmp 65),(1,Operand.tmp 67)],type:=143,pos:= "amqp.go:50",after:=#[{ on:=6,ground:=Ground.data },{ on:=8,ground:=Ground.data }],guard:=none }).run Tryz.prog w'=.ok (.value (.agg #[.int .i64 (c.toNat:Int),.slice A m cc])) w':=by
    simp only [execOp,List.map_toArray,List.map_cons,List.map_nil,e6,e8,Sem.run_bind,build143,Result.andThen_ok,Sem.run_pure]
   simp only [Oper.wp,hr,Oper.upon_value]
   exact kput 9 (by decide) 7 (by decide) (by decide) _ e9
  ·have ho':=ho
   simp only [List.getElem?_toArray,List.getElem?_cons_zero,List.getElem?_cons_succ,Option.some.injEq]at ho
   refine wpOp_in ho' (by rw [←ho]) ?_
   subst ho
   clear ho'
   obtain⟨v,e1,e2,e3⟩:=hI.2.s10 (hd ⟨9,.data⟩ (by simp) rfl) hL
   have e1:a.eval (.tmp 68)=.agg #[.int .i64 (c.toNat:Int),v]:=e1
   have hr:(execOp a.eval { dst:=some 69,op:=Op.buildSlice 140 1 #[(0,Operand.tmp 68)],type:=140,pos:= "amqp.go:50",after:=#[{ on:=9,ground:=Ground.data }],guard:=none }).run Tryz.prog w'=.ok (.value (.slice (some ⟨w'.heap.size,0,none⟩) 1 1)) (w'.alloc (.cells #[.int .i64 (c.toNat:Int),v] 143)):=by
    obtain⟨A,m,cc,rfl⟩:=e2
    simp only [execOp,List.map_toArray,List.map_cons,List.map_nil,e1,Sem.run_bind,slice143,Result.andThen_ok,Sem.run_pure]
   simp only [Oper.wp,hr,Oper.upon_value]
   exact kput 10 (by decide) 8 (by decide) (by decide) _ e3
  ·have ho':=ho
   simp only [List.getElem?_toArray,List.getElem?_cons_zero,List.getElem?_cons_succ,Option.some.injEq]at ho
   refine wpOp_in ho' (by rw [←ho]) ?_
   subst ho
   clear ho'
   have e0:a.eval (.tmp 6)=s0:=hI.2.q6 (off_of (fun e=>(hI.2.d12 (hI.2.d13 e)).2) hL)
   simp only [Oper.wp,execOp,Sem.run_bind,e0,Result.andThen_ok,Sem.run_pure,Oper.upon_value]
   exact kput 11 (by decide) 9 (by decide) (by decide) _ hI.2.s11
  ·have ho':=ho
   simp only [List.getElem?_toArray,List.getElem?_cons_zero,List.getElem?_cons_succ,Option.some.injEq]at ho
   refine wpOp_in ho' (by rw [←ho]) ?_
   subst ho
   clear ho'
   obtain⟨r,w2,e1,e2⟩:=hI.2.s12 hb hrow hfs hfs2 (hd ⟨10,.data⟩ (by simp) rfl) (hd ⟨11,.data⟩ (by simp) rfl) hL
   have e0:a.eval (.tmp 70)=s0:=hI.2.t11 (hd ⟨11,.data⟩ (by simp) rfl)
   have e1:(Builtin.append_ #[140,140] 140 #[a.eval (.tmp 69),s0]).run Tryz.prog w'=.ok r w2:=e1
   have hr:(execOp a.eval { dst:=some 71,op:=Op.call { callee:=Callee.builtin Builtin.append,args:=#[Operand.tmp 69,Operand.tmp 70],argTypes:=#[140,140] },type:=140,pos:= "amqp.go:50",after:=#[{ on:=10,ground:=Ground.data },{ on:=11,ground:=Ground.data },{ on:=8,ground:=Ground.chain }],guard:=none }).run Tryz.prog w'=.ok (.value r) w2:=by
    unfold execOp
    simp only [resolve,invoke,builtin,Sem.run_bind,Sem.run_pure,Result.andThen_ok,List.map_toArray,List.map_cons,List.map_nil,e0,e1]
   simp only [Oper.wp,hr,Oper.upon_value]
   exact kput 12 (by decide) 10 (by decide) (by decide) _ e2
  ·have ho':=ho
   simp only [List.getElem?_toArray,List.getElem?_cons_zero,List.getElem?_cons_succ,Option.some.injEq]at ho
   refine wpOp_in ho' (by rw [←ho]) ?_
   subst ho
   clear ho'
   simp only [Oper.wp,execOp,Sem.run_bind,Result.andThen_ok,Sem.run_pure,Oper.upon_value]
   exact kput 13 (by decide) 11 (by decide) (by decide) _ (hI.2.s13 (hd ⟨12,.data⟩ (by simp) rfl))
end Go.Proofs.YtfoegolfadhmjaaGreatDoor
