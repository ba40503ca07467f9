/- spec.valueFits, the walk. -/
import Derived.Test.YtfoegolfadhmjaaGreatDoorZ30
import Derived.IntWalk
set_option linter.all false
set_option maxRecDepth 100000
set_option maxHeartbeats 8000000
namespace Go.Proofs.YtfoegolfadhmjaaGreatDoor
open Go.RowKit Go.WideShapes Go.Sort
theorem fits_val(N:Nat):∀(v:V),cnt v≤N→∀(w:World) (VC:Vld w) (x:Value) (lv:Int),0≤lv→lv≤1000→VM w v x→Calls Tryz.prog 65 #[x,.int .i64 lv] w (Yes (FitL [v]) w):=by
 induction N with
 | zero=>intro v h;cases v;simp only [cnt]at h;omega
 | succ N ih=>
   intro v hN w VC x lv hv1 hv2 hx
   obtain⟨k,n,t,ks,o,ds⟩:=v
   have hx0:=hx
   obtain⟨sk,sd,rfl,hn,hks,hds⟩:=hx.inv
   obtain⟨A1,c1,rfl,hl1,hl1'⟩:=hks.shape
   obtain⟨A2,c2,rfl,hl2,hl2'⟩:=hds.shape
   have hml:ks.length≤maxLen:=by omega
   have hmd:ds.length≤maxLen:=by omega
   unfold maxLen at hml hmd
   have hNk:cnts ks≤N∧cnts ds≤N:=by simp only [cnt]at hN;omega
   have HX:=Lib.hid hx0
   have HVC:=Lib.hid VC
   have IH:=Lib.hid ih
   clear hl1 hl1' hl2 hl2' hx hx0 hN VC ih
   obtain⟨a,ha⟩:∃a,a=ks.length:=⟨_,rfl⟩
   obtain⟨b,hb⟩:∃b,b=ds.length:=⟨_,rfl⟩
   rw [←ha]at hml hks HX ⊢
   rw [←hb]at hmd hds HX ⊢
   have M1:=Lib.hid ha
   have M2:=Lib.hid hb
   have HK:=Lib.hid hks
   have HD:=Lib.hid hds
   have hbox:=Lib.hid (blk_new w (.cells #[.int .i64 k,.int .u64 (n:Int),.string ⟨t.toArray⟩,.slice A1 a c1,.int .i64 o,.slice A2 b c2] 78))
   have kA:=(Keep.refl (fun _=>True) w).alloc (.cells #[.int .i64 k,.int .u64 (n:Int),.string ⟨t.toArray⟩,.slice A1 a c1,.int .i64 o,.slice A2 b c2] 78)
   clear ha hb hks hds
   go_enter Tryz.func65,Tryz.ntmps65
   go_upto_region 1 with fail
   go_cut [5] (fun s5 wc=>s5=.bool (decide (k=21∨k=22∨k=23))∧wc=w.alloc (.cells #[.int .i64 k,.int .u64 (n:Int),.string ⟨t.toArray⟩,.slice A1 a c1,.int .i64 o,.slice A2 b c2] 78))
   case first=>as_aux_lemma=>
    rcases (show k=21∨k=22∨k=23∨(k≠21∧k≠22∧k≠23) by omega)with rfl | rfl | rfl | ⟨hc1,hc2,hc3⟩
    all_goals
     try have e21:(k==21)=false:=by simp;omega
     try have e22:(k==22)=false:=by simp;omega
     try have e23:(k==23)=false:=by simp;omega
     go_wp2
     go_meet
     exact⟨by first | rfl | exact congrArg Value.bool (Eq.symm (decide_eq_false (by omega))) | exact congrArg Value.bool (Eq.symm (decide_eq_true (by omega))),rfl⟩
   case rest=>
    obtain⟨h5,hwc⟩:=hcut
    obtain rfl:=hwc.symm
    obtain⟨K,hK⟩:∃K:Bool,K=decide (k=21∨k=22∨k=23):=⟨_,rfl⟩
    rw [←hK]at h5
    subst h5
    have HK5:=Lib.hid hK
    clear hK
    go_upto_region 2 with fail
    go_cut [6] (fun s6 wc=>s6=.bool (decide (17≤k∧k≤20∨k=14))∧wc=w.alloc (.cells #[.int .i64 k,.int .u64 (n:Int),.string ⟨t.toArray⟩,.slice A1 a c1,.int .i64 o,.slice A2 b c2] 78))
    case first=>as_aux_lemma=>
     rcases (show k=14∨(17≤k∧k≤20)∨(k<17∧k≠14)∨20<k by omega)with rfl | ⟨hc1,hc2⟩ | ⟨hc1,hc2⟩ | hc
     all_goals
      try have e17:decide (17≤k)=false:=by simp;omega
      try have e17:decide (17≤k)=true:=by simp;omega
      try have e20:decide (k≤20)=false:=by simp;omega
      try have e20:decide (k≤20)=true:=by simp;omega
      try have e14:(k==14)=false:=by simp;omega
      go_wp2
      go_meet
      exact⟨by first | rfl | exact congrArg Value.bool (Eq.symm (decide_eq_false (by omega))) | exact congrArg Value.bool (Eq.symm (decide_eq_true (by omega))),rfl⟩
    case rest=>
     obtain⟨h6,hwc⟩:=hcut
     obtain rfl:=hwc.symm
     obtain⟨T,hT⟩:∃T:Bool,T=decide (17≤k∧k≤20∨k=14):=⟨_,rfl⟩
     rw [←hT]at h6
     subst h6
     have HT6:=Lib.hid hT
     clear hT
     go_upto_region 3 with fail
     go_cut [7] (fun s7 wc=>s7=.bool (decide (1≤k∧k≤16∧k≠14))∧wc=w.alloc (.cells #[.int .i64 k,.int .u64 (n:Int),.string ⟨t.toArray⟩,.slice A1 a c1,.int .i64 o,.slice A2 b c2] 78))
     case first=>as_aux_lemma=>
      rcases (show k=14∨(1≤k∧k≤16∧k≠14)∨k<1∨16<k by omega)with rfl | ⟨hc1,hc2,hc3⟩ | hc | hc
      all_goals
       try have e1:decide (1≤k)=false:=by simp;omega
       try have e1:decide (1≤k)=true:=by simp;omega
       try have e16:decide (k≤16)=false:=by simp;omega
       try have e16:decide (k≤16)=true:=by simp;omega
       try have e14:(k !=14)=true:=by simp;omega
       go_wp2
       go_meet
       exact⟨by first | rfl | exact congrArg Value.bool (Eq.symm (decide_eq_false (by omega))) | exact congrArg Value.bool (Eq.symm (decide_eq_true (by omega))),rfl⟩
     case rest=>
      obtain⟨h7,hwc⟩:=hcut
      obtain rfl:=hwc.symm
      obtain⟨U,hU⟩:∃U:Bool,U=decide (1≤k∧k≤16∧k≠14):=⟨_,rfl⟩
      rw [←hU]at h7
      subst h7
      have HU7:=Lib.hid hU
      clear hU
      go_upto_region 4 with fail
      go_cut [106] (fun s106 wc=>∃z:Bool,s106=.bool z∧(z=false→Pass lv k n t a b)∧wc=w.alloc (.cells #[.int .i64 k,.int .u64 (n:Int),.string ⟨t.toArray⟩,.slice A1 a c1,.int .i64 o,.slice A2 b c2] 78))
      case first=>as_aux_lemma=>
       by_cases c1:lv≤0
       ·have fc10:decide (lv≤0)=true:=by simp;omega
        go_wp2
        go_meet
        exact⟨true,rfl,(fun h=>by cases h),rfl⟩
       have fc10:decide (lv≤0)=false:=by simp;omega
       by_cases c2:k<0
       ·have fc20:decide (k<0)=true:=by simp;omega
        go_wp2
        go_meet
        exact⟨true,rfl,(fun h=>by cases h),rfl⟩
       have fc20:decide (k<0)=false:=by simp;omega
       by_cases c3:24≤k
       ·have fc30:decide (24≤k)=true:=by simp;omega
        go_wp2
        go_meet
        exact⟨true,rfl,(fun h=>by cases h),rfl⟩
       have fc30:decide (24≤k)=false:=by simp;omega
       have hKT:=HK5.out
       have hTT:=HT6.out
       have hUU:=HU7.out
       have hcmb:(K=true∧T=false∧U=false)∨(K=false∧T=true∧U=false)∨(K=false∧T=false∧U=true)∨(K=false∧T=false∧U=false):=by
        subst hKT hTT hUU
        simp only [decide_eq_true_eq,decide_eq_false_iff_not]
        omega
       clear hKT hTT hUU
       rcases hcmb with⟨rfl,rfl,rfl⟩ | ⟨rfl,rfl,rfl⟩ | ⟨rfl,rfl,rfl⟩ | ⟨rfl,rfl,rfl⟩
       ·as_aux_lemma=>
         rcases t with _ | ⟨t0,t'⟩
         rotate_left
         ·skip
          go_wp2
          go_meet
          exact⟨true,rfl,(fun h=>by cases h),rfl⟩
         by_cases c6:n≠0
         ·have fc60:((n:Int) !=0)=true:=by simp;omega
          go_wp2
          go_meet
          exact⟨true,rfl,(fun h=>by cases h),rfl⟩
         have fc60:((n:Int) !=0)=false:=by simp;omega
         have fc6z:((n:Int)==0)=true:=by simp;omega
         by_cases c7:1<b
         ·have fc70:decide (1<b)=true:=by simp;omega
          have fc71:decide ((1:Int)<(b:Int))=true:=by simp;omega
          go_wp2
          go_meet
          exact⟨true,rfl,(fun h=>by cases h),rfl⟩
         have fc70:decide (1<b)=false:=by simp;omega
         have fc71:decide ((1:Int)<(b:Int))=false:=by simp;omega
         by_cases c8:1000<a
         ·have fc80:decide (1000<a)=true:=by simp;omega
          have fc81:decide ((1000:Int)<(a:Int))=true:=by simp;omega
          go_wp2
          go_meet
          exact⟨true,rfl,(fun h=>by cases h),rfl⟩
         have fc80:decide (1000<a)=false:=by simp;omega
         have fc81:decide ((1000:Int)<(a:Int))=false:=by simp;omega
         have PASS:=Lib.hid (show Pass lv k n [] a b from⟨by omega,by omega,by omega,fun _=>(by have:=HK5.out;simp at this;omega),fun h=>rfl,fun h=>by omega,by omega,by omega,by simp⟩)
         go_wp2
         go_meet
         exact⟨false,rfl,(fun _=>PASS.out),rfl⟩
       ·as_aux_lemma=>
         by_cases c4:0<a
         ·have fc40:decide (0<a)=true:=by simp;omega
          have fc41:decide ((0:Int)<(a:Int))=true:=by simp;omega
          go_wp2
          go_meet
          exact⟨true,rfl,(fun h=>by cases h),rfl⟩
         have fc40:decide (0<a)=false:=by simp;omega
         have fc41:decide ((0:Int)<(a:Int))=false:=by simp;omega
         by_cases c6:n≠0
         ·have fc60:((n:Int) !=0)=true:=by simp;omega
          go_wp2
          go_meet
          exact⟨true,rfl,(fun h=>by cases h),rfl⟩
         have fc60:((n:Int) !=0)=false:=by simp;omega
         have fc6z:((n:Int)==0)=true:=by simp;omega
         by_cases c7:1<b
         ·have fc70:decide (1<b)=true:=by simp;omega
          have fc71:decide ((1:Int)<(b:Int))=true:=by simp;omega
          go_wp2
          go_meet
          exact⟨true,rfl,(fun h=>by cases h),rfl⟩
         have fc70:decide (1<b)=false:=by simp;omega
         have fc71:decide ((1:Int)<(b:Int))=false:=by simp;omega
         have fc80:decide (1000<a)=false:=by simp;omega
         have fc81:decide ((1000:Int)<(a:Int))=false:=by simp;omega
         have hsz:(⟨t.toArray⟩:ByteArray).size=t.length:=rfl
         by_cases c9:131072<t.length
         ·have fc90:decide (131072<t.length)=true:=by simp;omega
          have fc91:decide ((131072:Int)<(t.length:Int))=true:=by simp;omega
          go_wp2
          go_meet
          exact⟨true,rfl,(fun h=>by cases h),rfl⟩
         have fc90:decide (131072<t.length)=false:=by simp;omega
         have fc91:decide ((131072:Int)<(t.length:Int))=false:=by simp;omega
         have PASS:=Lib.hid (show Pass lv k n t a b from⟨by omega,by omega,by omega,fun _=>by omega,fun h=>absurd (by have:=HT6.out;simp at this;omega) h,fun h=>by omega,by omega,by omega,by omega⟩)
         go_wp2
         go_meet
         exact⟨false,rfl,(fun _=>PASS.out),rfl⟩
       ·as_aux_lemma=>
         by_cases c4:0<a
         ·have fc40:decide (0<a)=true:=by simp;omega
          have fc41:decide ((0:Int)<(a:Int))=true:=by simp;omega
          go_wp2
          go_meet
          exact⟨true,rfl,(fun h=>by cases h),rfl⟩
         have fc40:decide (0<a)=false:=by simp;omega
         have fc41:decide ((0:Int)<(a:Int))=false:=by simp;omega
         rcases t with _ | ⟨t0,t'⟩
         rotate_left
         ·skip
          go_wp2
          go_meet
          exact⟨true,rfl,(fun h=>by cases h),rfl⟩
         by_cases c7:1<b
         ·have fc70:decide (1<b)=true:=by simp;omega
          have fc71:decide ((1:Int)<(b:Int))=true:=by simp;omega
          go_wp2
          go_meet
          exact⟨true,rfl,(fun h=>by cases h),rfl⟩
         have fc70:decide (1<b)=false:=by simp;omega
         have fc71:decide ((1:Int)<(b:Int))=false:=by simp;omega
         have fc80:decide (1000<a)=false:=by simp;omega
         have fc81:decide ((1000:Int)<(a:Int))=false:=by simp;omega
         have PASS:=Lib.hid (show Pass lv k n [] a b from⟨by omega,by omega,by omega,fun _=>by omega,fun h=>rfl,fun h=>absurd (by have:=HU7.out;simp at this;omega) h,by omega,by omega,by simp⟩)
         go_wp2
         go_meet
         exact⟨false,rfl,(fun _=>PASS.out),rfl⟩
       ·as_aux_lemma=>
         by_cases c4:0<a
         ·have fc40:decide (0<a)=true:=by simp;omega
          have fc41:decide ((0:Int)<(a:Int))=true:=by simp;omega
          go_wp2
          go_meet
          exact⟨true,rfl,(fun h=>by cases h),rfl⟩
         have fc40:decide (0<a)=false:=by simp;omega
         have fc41:decide ((0:Int)<(a:Int))=false:=by simp;omega
         rcases t with _ | ⟨t0,t'⟩
         rotate_left
         ·skip
          go_wp2
          go_meet
          exact⟨true,rfl,(fun h=>by cases h),rfl⟩
         by_cases c6:n≠0
         ·have fc60:((n:Int) !=0)=true:=by simp;omega
          go_wp2
          go_meet
          exact⟨true,rfl,(fun h=>by cases h),rfl⟩
         have fc60:((n:Int) !=0)=false:=by simp;omega
         have fc6z:((n:Int)==0)=true:=by simp;omega
         by_cases c7:1<b
         ·have fc70:decide (1<b)=true:=by simp;omega
          have fc71:decide ((1:Int)<(b:Int))=true:=by simp;omega
          go_wp2
          go_meet
          exact⟨true,rfl,(fun h=>by cases h),rfl⟩
         have fc70:decide (1<b)=false:=by simp;omega
         have fc71:decide ((1:Int)<(b:Int))=false:=by simp;omega
         have fc80:decide (1000<a)=false:=by simp;omega
         have fc81:decide ((1000:Int)<(a:Int))=false:=by simp;omega
         have PASS:=Lib.hid (show Pass lv k n [] a b from⟨by omega,by omega,by omega,fun _=>by omega,fun h=>rfl,fun h=>by omega,by omega,by omega,by simp⟩)
         go_wp2
         go_meet
         exact⟨false,rfl,(fun _=>PASS.out),rfl⟩
      case rest=>
       obtain⟨z,rfl,hz,hwc⟩:=hcut
       obtain rfl:=hwc.symm
       clear HK5 HT6 HU7
       cases z
       case true=>
        go_wp2
        go_ret
        exact Yes.no kA
       have hP:=hz rfl
       have HPS:=Lib.hid hP
       have hlv:0<lv:=hP.1
       have hb1:b≤1:=hP.2.2.2.2.2.2.1
       clear hz hP
       have elv:IntKind.i64.wrap (lv-1)=lv-1:=IntWalk.i64_in _ ⟨by omega,by omega⟩
       go_upto_region 6 with fail
       go_cut [145] (fun s145 wc=>∃z:Bool,s145=.bool z∧(z=false→FitL ds)∧New w wc∧wc.heap[w.heap.size]? =some (.cells #[.int .i64 k,.int .u64 (n:Int),.string ⟨t.toArray⟩,.slice A1 a c1,.int .i64 o,.slice A2 b c2] 78 (0,0)))
       case first=>as_aux_lemma=>
        have c5:=(blk_cell hbox.out 5).trans rfl
        by_cases h1:b=1
        ·subst h1
         obtain⟨dv,hdv⟩:∃dv,ds=[dv]:=List.length_eq_one_iff.1 M2.out.symm
         obtain⟨d2,i2,hAe,-,-,-,hat⟩:=(HD.out.keep kA).at2 (by rw [hdv];simp)
         cases hAe
         obtain⟨e0,e1,e2,e3,e4,e5,hve,g0,g1,g2,g3,g4,g5⟩:=hat 0 (by rw [hdv];simp)
         simp only [hdv,List.getElem_cons_zero,Nat.zero_mul,Nat.add_zero]at hve g0 g1 g2 g3 g4 g5
         obtain⟨A9,c9,o9,A0,c0,heq,-,-⟩:=hve.parts'
         simp only [Value.agg.injEq,Array.mk.injEq,List.cons.injEq,and_true]at heq
         obtain⟨rfl,rfl,rfl,rfl,rfl,rfl⟩:=heq
         have hNd:cnt dv≤N:=by have:=hNk.2;rw [hdv]at this;simp only [cnts]at this;omega
         have hcall:=IH.out dv hNd _ (HVC.out.new kA) _ (lv-1) (by omega) (by omega) hve
         have HC:=Lib.hid hcall
         have HDV:=Lib.hid hdv
         clear hve hat hcall hdv
         go_wp2_with fail
         refine HC.out.mono ?_
         rintro e w2 ⟨bb,rfl,k2,hbb⟩
         have HBB:=Lib.hid (show bb=true→FitL ds by rw [HDV.out];exact hbb)
         have HBX:=Lib.hid (k2.blk hbox.out trivial)
         have c5':=(blk_cell HBX.out 5).trans rfl
         have g0':=k2.cell g0 trivial
         have g5':=k2.cell g5 trivial
         have K2:=Lib.hid (kA.trans k2)
         clear hbb
         cases bb
         ·go_wp2
          go_meet
          exact⟨true,rfl,(fun h=>by cases h),K2.out,HBX.out⟩
         ·by_cases hk5:dv.kind=5
          ·have t5:(dv.kind !=5)=false:=by simpa using hk5
           have t5':(dv.kind==5)=true:=by simpa using hk5
           clear hk5
           go_wp2
           all_goals go_meet
           all_goals exact⟨_,rfl,(fun _=>HBB.out (by first | rfl | trivial)),K2.out,HBX.out⟩
          ·have t5:(dv.kind !=5)=true:=by simpa using hk5
           have t5':(dv.kind==5)=false:=by simpa using hk5
           clear hk5
           by_cases hk20:dv.kind=20
           ·have t20:(dv.kind !=20)=false:=by simpa using hk20
            have t20':(dv.kind==20)=true:=by simpa using hk20
            clear hk20
            go_wp2
            all_goals go_meet
            all_goals exact⟨_,rfl,(fun _=>HBB.out (by first | rfl | trivial)),K2.out,HBX.out⟩
           ·have t20:(dv.kind !=20)=true:=by simpa using hk20
            have t20':(dv.kind==20)=false:=by simpa using hk20
            clear hk20
            go_wp2
            go_meet
            exact⟨true,rfl,(fun h=>by cases h),K2.out,HBX.out⟩
        ·have t1:((b:Int)==1)=false:=by simp;omega
         have hds:ds=[]:=List.eq_nil_of_length_eq_zero (by rw [←M2.out];omega)
         have HDS:=Lib.hid hds
         clear hds
         go_wp2
         go_meet
         exact⟨false,rfl,(fun _=>by rw [HDS.out];exact .nil),kA,hbox.out⟩
       case rest=>
        obtain⟨z,rfl,hz,kc,hbc⟩:=hcut
        cases z
        case true=>
         go_wp2
         go_ret
         exact Yes.no kc
        have HFD:=Lib.hid (hz rfl)
        have c3:=(blk_cell hbc 3).trans rfl
        have HBC:=Lib.hid hbc
        have HKC:=Lib.hid kc
        clear hz hbc
        go_wp2_with fail
        go_loopg [149] a (fun kk s149 wr=>∃j:Nat,j+kk=a∧s149=.int .i64 (j:Int)∧New w wr∧wr.heap[w.heap.size]? =some (.cells #[.int .i64 k,.int .u64 (n:Int),.string ⟨t.toArray⟩,.slice A1 a c1,.int .i64 o,.slice A2 b c2] 78 (0,0))∧FitL (ks.take j))
        case atStart=>exact⟨0,by omega,rfl,HKC.out,HBC.out,by rw [List.take_zero];exact .nil⟩
        case round=>
         obtain⟨j,hj,rfl,kr,hb,hall⟩:=hrel
         have HALL:=Lib.hid hall
         have HBR:=Lib.hid hb
         clear hall hb c3
         rcases gk with _ | kk
         ·obtain rfl:a=j:=by omega
          have z0:=(blk_cell HBR.out 0).trans rfl
          have z1:=(blk_cell HBR.out 1).trans rfl
          have z2:=(blk_cell HBR.out 2).trans rfl
          have z3:=(blk_cell HBR.out 3).trans rfl
          have z4:=(blk_cell HBR.out 4).trans rfl
          have z5:=(blk_cell HBR.out 5).trans rfl
          have HFK:=Lib.hid (show FitL ks by have:=HALL.out;rwa [M1.out,List.take_length]at this)
          have hcall:=content_is k ⟨HPS.out.2.1,HPS.out.2.2.1⟩ n t ks o ds HPS.out.2.2.2.2.2.2.2.2 wr (HVC.out.new kr) _ (HX.out.keep kr)
          have HC:=Lib.hid hcall
          clear hcall
          go_wp2_with fail
          refine HC.out.mono ?_
          rintro e w2 ⟨bb,rfl,k2,hbb⟩
          have HBB:=Lib.hid hbb
          clear hbb
          go_wp2
          go_ret
          refine⟨bb,rfl,kr.trans k2,fun h=>.cons (fitC_of (lv:=lv) (by have:=HPS.out;rwa [M1.out,M2.out]at this) hn (HBB.out h)) HFK.out HFD.out .nil⟩
         ·have hjn:j<a:=by omega
          have tj:decide (j<a)=true:=by simpa using hjn
          have hj1:j<ks.length:=by rw [←M1.out];exact hjn
          obtain⟨d2,i2,hAe,-,-,-,hat⟩:=(HK.out.keep kr).at2 (fun h=>by rw [h]at hj1;simp at hj1)
          cases hAe
          obtain⟨e0,e1,e2,e3,e4,e5,hve,g0,g1,g2,g3,g4,g5⟩:=hat j hj1
          obtain⟨A9,c9,o9,A0,c0,heq,-,-⟩:=hve.parts'
          simp only [Value.agg.injEq,Array.mk.injEq,List.cons.injEq,and_true]at heq
          obtain⟨rfl,rfl,rfl,rfl,rfl,rfl⟩:=heq
          obtain⟨u,hu⟩:∃u,u=ks[j]:=⟨_,rfl⟩
          have htk:ks.take (j+1)=ks.take j++[u]:=by rw [←List.take_append_getElem hj1,hu]
          have hNu:cnt u≤N:=by rw [hu];exact Nat.le_trans (cnts_get ks j hj1) hNk.1
          rw [←hu]at hve g0 g1 g2 g3 g5
          have kE:=(Keep.refl (fun _=>True) wr).alloc (.cells #[.int .i64 u.kind,.int .u64 (u.num:Int),.string ⟨u.text.toArray⟩,.slice A9 u.kids.length c9,.int .i64 o9,.slice A0 u.desc.length c0] 78)
          have HC:=Lib.hid (IH.out u hNu _ (HVC.out.new (kr.trans kE)) _ (lv-1) (by omega) (by omega) (hve.keep kE))
          have HTK:=Lib.hid htk
          clear hve hat hu htk
          go_wp2_with fail
          refine HC.out.mono ?_
          rintro e w2 ⟨bb,rfl,k2,hbb⟩
          have HBB:=Lib.hid hbb
          have K2:=Lib.hid ((kr.trans kE).trans k2)
          clear hbb
          cases bb
          ·go_wp2
           go_ret
           exact Yes.no K2.out
          ·go_wp2
           go_roundg kk
           case measure=>omega
           case rel=>exact⟨j+1,by omega,congrArg _ (by omega),K2.out,k2.blk (kE.blk HBR.out trivial) trivial,by rw [HTK.out];exact HALL.out.append (HBB.out (by first | rfl | trivial))⟩
end Go.Proofs.YtfoegolfadhmjaaGreatDoor
