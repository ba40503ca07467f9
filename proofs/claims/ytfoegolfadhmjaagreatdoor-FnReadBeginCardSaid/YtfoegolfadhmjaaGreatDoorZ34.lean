/- spec.ArrayAsked. -/
import Derived.Test.YtfoegolfadhmjaaGreatDoorZ33
set_option linter.all false
set_option maxRecDepth 100000
set_option maxHeartbeats 8000000
namespace Go.Proofs.YtfoegolfadhmjaaGreatDoor
open Go.RowKit Go.WideShapes Go.Sort
def TextsK(ks:List V)(j:Nat):Prop:=∀i (h:i<ks.length),i<j→18≤ks[i].kind→ks[i].kind≤20→ks[i].text≠[]
theorem TextsK.step{ks:List V}{j:Nat}(h:TextsK ks j)(hj:j<ks.length)(e:18≤ks[j].kind→ks[j].kind≤20→ks[j].text≠[]):TextsK ks (j+1):=by
 intro i hi hlt
 rcases Nat.lt_or_ge i j with h1 | h1
 ·exact h i hi h1
 ·obtain rfl:i=j:=by omega
  exact e
theorem TextsK.all{ks:List V}(h:TextsK ks ks.length):∀v∈ks,18≤v.kind→v.kind≤20→v.text≠[]:=by
 intro v hv
 obtain⟨i,hi,rfl⟩:=List.getElem_of_mem hv
 exact h i hi hi
def TextsA(ks:List V):Prop:=∀v∈ks,18≤v.kind→v.kind≤20→v.text≠[]
theorem asked_is(ks:List V)(w:World)(s:Value)(hs:LM w ks s):Calls Tryz.prog 143 #[s] w (Yes (TextsA ks) w):=by
 obtain⟨A1,c1,rfl,hl1,hl1'⟩:=hs.shape
 have hml:ks.length≤maxLen:=by omega
 unfold maxLen at hml
 obtain⟨a,ha⟩:∃a,a=ks.length:=⟨_,rfl⟩
 rw [←ha]at hml hs ⊢
 have M1:=Lib.hid ha
 have HK:=Lib.hid hs
 clear ha hs hl1 hl1'
 go_enter Tryz.func143,Tryz.ntmps143
 go_wp2_with fail
 go_loopg [3,4,10] a (fun kk s3 s4 s10 wr=>∃(j:Nat) (lo hi:Bool),j+kk=a∧s3=.bool lo∧s4=.bool hi∧s10=.int .i64 (j:Int)∧New w wr∧TextsK ks j)
 case atStart=>exact⟨0,false,false,by omega,rfl,rfl,rfl,Keep.refl _ w,fun i h h0=>absurd h0 (by omega)⟩
 case round=>
  obtain⟨j,lo,hi,hj,rfl,rfl,rfl,kr,hall⟩:=hrel
  rcases gk with _ | kk
  ·obtain rfl:a=j:=by omega
   have HA:=Lib.hid (show TextsA ks from TextsK.all (by rw [←M1.out];exact hall))
   clear hall
   cases lo
   all_goals
    go_wp2
    go_ret
    exact⟨_,rfl,kr,fun _=>HA.out⟩
  ·have hjn:j<a:=by omega
   have tj:decide (j<a)=true:=by simpa using hjn
   have hj1:j<ks.length:=by rw [←M1.out];exact hjn
   obtain⟨d2,i2,hAe,-,-,-,hat⟩:=(HK.out.keep kr).at2 (fun h=>by rw [h]at hj1;simp at hj1)
   cases hAe
   obtain⟨e0,e1,e2,e3,e4,e5,hve,g0,g1,g2,g3,g4,g5⟩:=hat j hj1
   obtain⟨A9,c9,o9,A0,c10,heq,-,-⟩:=hve.parts'
   simp only [Value.agg.injEq,Array.mk.injEq,List.cons.injEq,and_true]at heq
   obtain⟨rfl,rfl,rfl,rfl,rfl,rfl⟩:=heq
   have STEP:=Lib.hid (hall.step hj1)
   obtain⟨u,hu⟩:∃u,u=ks[j]:=⟨_,rfl⟩
   rw [←hu]at g0 g1 g2 g3 g5 STEP
   have kE:=(Keep.refl (fun _=>True) wr).alloc (.cells #[.int .i64 u.kind,.int .u64 (u.num:Int),.string ⟨u.text.toArray⟩,.slice A9 u.kids.length c9,.int .i64 o9,.slice A0 u.desc.length c10] 78)
   have KE:=Lib.hid (kr.trans kE)
   clear hve hat hu hall hj1 kE
   obtain⟨uk,un,ut,uks,uo,uds⟩:=u
   simp only [V.kind,V.num,V.text,V.kids,V.desc]at g0 g1 g2 g3 g5 STEP KE
   go_upto_region 6 with fail
   go_cut [24] (fun s24 wc=>∃b:Bool,s24=.bool b∧wc=wr.alloc (.cells #[.int .i64 uk,.int .u64 (un:Int),.string ⟨ut.toArray⟩,.slice A9 uks.length c9,.int .i64 o9,.slice A0 uds.length c10] 78))
   case first=>
    cases e8:(uk==8)
    ·cases e9:(uk==9)
     all_goals
      go_wp2
      go_meet
      exact⟨_,rfl,rfl⟩
    ·go_wp2
     go_meet
     exact⟨_,rfl,rfl⟩
   case rest=>
    obtain⟨b,rfl,hwc⟩:=hcut
    obtain rfl:=hwc.symm
    go_upto_if 24 with fail
    go_cut [3,4] (fun s3 s4 wc=>∃lo hi:Bool,s3=.bool lo∧s4=.bool hi∧wc=wr.alloc (.cells #[.int .i64 uk,.int .u64 (un:Int),.string ⟨ut.toArray⟩,.slice A9 uks.length c9,.int .i64 o9,.slice A0 uds.length c10] 78))
    case first=>
     cases b
     ·go_wp2
      go_meet
      exact⟨_,_,rfl,rfl,rfl⟩
     ·cases lo<;>cases hi
      all_goals go_wp2
      all_goals go_meet
      all_goals exact⟨_,_,rfl,rfl,rfl⟩
    case rest=>
     obtain⟨lo',hi',rfl,rfl,hwc⟩:=hcut
     obtain rfl:=hwc.symm
     rcases (show uk=16∨(18≤uk∧uk≤20)∨(uk≠16∧uk<18)∨20<uk by omega)with rfl | ⟨h1,h2⟩ | ⟨h1,h2⟩ | h1
     ·have ST:=STEP.out (fun h=>absurd h (by omega))
      cases f1:decide (wrap64 (un:Int)< -9200000000000)
      ·cases f2:decide (9200000000000<wrap64 (un:Int))
       ·go_wp2
        go_roundg kk
        case measure=>omega
        case rel=>exact⟨j+1,_,_,by omega,rfl,rfl,congrArg _ (by omega),KE.out,ST⟩
       ·go_wp2
        go_ret
        exact Yes.no KE.out
      ·go_wp2
       go_ret
       exact Yes.no KE.out
     ·have e16:(uk==16)=false:=by simp;omega
      have e18:decide (18≤uk)=true:=by simp;omega
      have e20:decide (uk≤20)=true:=by simp;omega
      clear h1 h2
      rcases ut with _ | ⟨t0,ut⟩
      ·go_wp2
       go_ret
       exact Yes.no KE.out
      ·have ST:=STEP.out (fun _ _=>by simp)
       go_wp2
       go_roundg kk
       case measure=>omega
       case rel=>exact⟨j+1,_,_,by omega,rfl,rfl,congrArg _ (by omega),KE.out,ST⟩
     ·have ST:=STEP.out (fun h=>absurd h (by omega))
      have e16:(uk==16)=false:=by simp;omega
      have e18:decide (18≤uk)=false:=by simp;omega
      clear h1 h2
      go_wp2
      go_roundg kk
      case measure=>omega
      case rel=>exact⟨j+1,_,_,by omega,rfl,rfl,congrArg _ (by omega),KE.out,ST⟩
     ·have ST:=STEP.out (fun _ h=>absurd h (by omega))
      have e16:(uk==16)=false:=by simp;omega
      have e18:decide (18≤uk)=true:=by simp;omega
      have e20:decide (uk≤20)=false:=by simp;omega
      clear h1
      go_wp2
      go_roundg kk
      case measure=>omega
      case rel=>exact⟨j+1,_,_,by omega,rfl,rfl,congrArg _ (by omega),KE.out,ST⟩
end Go.Proofs.YtfoegolfadhmjaaGreatDoor
