/- laws.askedBegin. -/
import Derived.Test.YtfoegolfadhmjaaGreatDoorZ36
import Derived.Test.YtfoegolfadhmjaaGreatDoorZ37
set_option linter.all false
set_option maxRecDepth 100000
set_option maxHeartbeats 8000000
namespace Go.Proofs.YtfoegolfadhmjaaGreatDoor
open Go.RowKit Go.WideShapes Go.Sort
theorem zzFits2_is(ts:List (List UInt8))(w:World)(s:Value)(hs:Strs w ts s):Calls Tryz.prog 46 #[s] w (Yes (ts.length≤2147483647) w):=by
 obtain⟨A,c,rfl,h1,h2,h3⟩:=hs
 obtain⟨n,hn⟩:∃n,n=ts.length:=⟨_,rfl⟩
 rw [←hn]at h1 ⊢
 have N:=Lib.hid hn
 have HAT:=Lib.hid h3
 clear h3 hn
 cases b0:decide (2147483647<n)
 ·have i0:decide ((2147483647:Int)<(n:Int))=false:=by simp at b0 ⊢;omega
  have hb:n≤2147483647:=by simp at b0;omega
  go_enter Tryz.func46,Tryz.ntmps46
  go_wp2_with fail
  go_loopg [10] n (fun m s10 wr=>∃j:Nat,j+m=n∧s10=.int .i64 (j:Int)∧wr=w)
  case atStart=>exact⟨0,by omega,rfl,rfl⟩
  case round=>
   obtain⟨j,hj,rfl,rfl⟩:=hrel
   cases gk with
   | zero=>
     obtain rfl:j=n:=by omega
     go_wp2
     go_ret
     exact⟨_,rfl,Keep.refl _ _,fun _=>hb⟩
   | succ m=>
     have hjn:j<n:=by omega
     have tj:decide ((j:Int)<n)=true:=by simpa using hjn
     have e4:(j:Int)<n:=by omega
     have hjx:j<ts.length:=by rw [←N.out];exact hjn
     obtain⟨d,i,hA,hat⟩:=HAT.out (fun h=>by rw [h]at hjx;simp at hjx)
     subst hA
     have hcx:=hat j hjx
     obtain⟨x,hx⟩:∃x,x=ts[j]'hjx:=⟨_,rfl⟩
     rw [←hx]at hcx
     have sx:(⟨x.toArray⟩:ByteArray).size=x.length:=rfl
     clear hat hx
     cases b1:decide (2147483647<x.length)
     ·have i1:decide ((2147483647:Int)<(x.length:Int))=false:=by simp at b1 ⊢;omega
      go_wp2
      go_roundg m
      case measure=>omega
      case rel=>exact⟨j+1,by omega,congrArg _ (by omega),rfl⟩
     ·have i1:decide ((2147483647:Int)<(x.length:Int))=true:=by simp at b1 ⊢;omega
      go_wp2
      go_ret
      exact Yes.no (Keep.refl _ _)
 ·have i0:decide ((2147483647:Int)<(n:Int))=true:=by simp at b0 ⊢;omega
  go_enter Tryz.func46,Tryz.ntmps46
  go_wp2
  go_ret
  exact Yes.no (Keep.refl _ _)
theorem zzFits9_is(off des:List (List UInt8))(R C:Option Addr)(rn rc no iw ow hm q e0:Nat)(w:World)(so sd:Value)(ho:Strs w off so)(hd:Strs w des sd):
 Calls Tryz.prog 18 #[.agg #[.slice R rn rc,.int .u32 (no:Int),.int .u32 (iw:Int),.int .u32 (ow:Int),.int .u32 (hm:Int),so,sd,.slice C q e0]] w (Yes (off.length≤2147483647∧des.length≤2147483647) w):=by
 have HO:=Lib.hid (fun W (k:New w W)=>zzFits2_is off W so (ho.keep k))
 have HD:=Lib.hid (fun W (k:New w W)=>zzFits2_is des W sd (hd.keep k))
 obtain⟨A,c,rfl,-⟩:=ho
 obtain⟨B,b,rfl,-⟩:=hd
 obtain⟨n,hn⟩:∃n,n=off.length:=⟨_,rfl⟩
 obtain⟨m,hm'⟩:∃m,m=des.length:=⟨_,rfl⟩
 rw [←hn]at HO ⊢
 rw [←hm']at HD ⊢
 have k0:=(Keep.refl (fun _=>True) w).alloc (.cells #[.slice R rn rc,.int .u32 (no:Int),.int .u32 (iw:Int),.int .u32 (ow:Int),.int .u32 (hm:Int),.slice A n c,.slice B m b,.slice C q e0] 54)
 have HBX:=Lib.hid (blk_new w (.cells #[.slice R rn rc,.int .u32 (no:Int),.int .u32 (iw:Int),.int .u32 (ow:Int),.int .u32 (hm:Int),.slice A n c,.slice B m b,.slice C q e0] 54))
 clear hn hm'
 cases d0:decide (2147483647<rn)
 case true=>
  have i0:decide ((2147483647:Int)<(rn:Int))=true:=by simp at d0 ⊢;omega
  go_enter Tryz.func18,Tryz.ntmps18
  go_wp2
  go_ret
  exact Yes.no k0
 have i0:decide ((2147483647:Int)<(rn:Int))=false:=by simp at d0 ⊢;omega
 go_enter Tryz.func18,Tryz.ntmps18
 go_wp2_with fail
 refine(HO.out _ k0).mono ?_
 rintro e w1 ⟨x,rfl,k1,hx⟩
 have k01:=k0.trans k1
 have hb1:=k1.blk HBX.out trivial
 have z6:=(blk_cell hb1 6).trans rfl
 have z7:=(blk_cell hb1 7).trans rfl
 have HX:=Lib.hid hx
 have HB1:=Lib.hid hb1
 clear hx hb1
 cases x
 ·go_wp2
  go_ret
  exact Yes.no k01
 go_wp2_with fail
 refine(HD.out _ k01).mono ?_
 rintro e w2 ⟨y,rfl,k2,hy⟩
 have k02:=k01.trans k2
 have z7:=(blk_cell (k2.blk HB1.out trivial) 7).trans rfl
 have HY:=Lib.hid hy
 clear hy
 cases y
 ·go_wp2
  go_ret
  exact Yes.no k02
 cases d1:decide (2147483647<q)
 ·have i1:decide ((2147483647:Int)<(q:Int))=false:=by simp at d1 ⊢;omega
  go_wp2
  go_ret
  exact⟨_,rfl,k02,fun _=>⟨HX.out (by first | rfl | trivial),HY.out (by first | rfl | trivial)⟩⟩
 ·have i1:decide ((2147483647:Int)<(q:Int))=true:=by simp at d1 ⊢;omega
  go_wp2
  go_ret
  exact Yes.no k02
def Strss(w:World)(L:List (List (List UInt8)))(d:Nat):Prop:=∀j (hj:j<L.length),∃s,w.cell? ⟨d,j,none⟩=some s∧Strs w L[j] s
theorem full_is(L:List (List (List UInt8)))(hl:L.length≤1000)(w:World)(d:Nat)(hs:Strss w L d):Calls Tryz.prog 53 #[.slice (some ⟨d,0,none⟩) L.length L.length] w (Yes (∀ts∈L,∀t∈ts,t≠[]) w):=by
 obtain⟨n,hn⟩:∃n,n=L.length:=⟨_,rfl⟩
 rw [←hn]at hl ⊢
 have N:=Lib.hid hn
 have HAT:=Lib.hid hs
 clear hn hs
 go_enter Tryz.func53,Tryz.ntmps53
 go_wp2_with fail
 go_loopg [9] n (fun m s9 wr=>∃j:Nat,j+m=n∧s9=.int .i64 (j:Int)∧wr=w∧∀ts∈L.take j,∀t∈ts,t≠[])
 case atStart=>exact⟨0,by omega,rfl,rfl,by simp⟩
 case round=>
  obtain⟨j,hj,rfl,rfl,hP⟩:=hrel
  cases gk with
  | zero=>
    obtain rfl:j=n:=by omega
    go_wp2
    go_ret
    refine⟨_,rfl,Keep.refl _ _,fun _=>?_⟩
    rw [N.out,List.take_length]at hP
    exact hP
  | succ m=>
    have hjn:j<n:=by omega
    have tj:decide ((j:Int)<n)=true:=by simpa using hjn
    have e4:(j:Int)<n:=by omega
    have hjx:j<L.length:=by rw [←N.out];exact hjn
    obtain⟨s,hcs,hst⟩:=HAT.out j hjx
    obtain⟨ts,hts⟩:∃ts,ts=L[j]'hjx:=⟨_,rfl⟩
    rw [←hts]at hst
    obtain⟨A,c,rfl,h1,h2,h3⟩:=hst
    obtain⟨q,hq⟩:∃q,q=ts.length:=⟨_,rfl⟩
    rw [←hq]at h1 hcs
    have Q:=Lib.hid hq
    have H3:=Lib.hid h3
    have HP:=Lib.hid hP
    have HTS:=Lib.hid hts
    clear hq h3 hP hts
    go_wp2_with fail
    go_loopg [15] q (fun k s15 wx=>∃i:Nat,i+k=q∧s15=.int .i64 (i:Int)∧wx=wr∧∀t∈ts.take i,t≠[])
    case atStart=>exact⟨0,by omega,rfl,rfl,by simp⟩
    case round=>
     obtain⟨i,hi,rfl,rfl,hT⟩:=hrel
     cases gk with
     | zero=>
       obtain rfl:i=q:=by omega
       rw [Q.out,List.take_length]at hT
       have HT:=Lib.hid hT
       clear hT
       go_wp2
       go_roundg m
       case measure=>omega
       case rel=>
        refine⟨j+1,by omega,congrArg _ (by omega),rfl,fun us hu t ht=>?_⟩
        rw [←List.take_append_getElem hjx,List.mem_append,List.mem_singleton,←HTS.out]at hu
        rcases hu with hu | rfl
        ·exact HP.out us hu t ht
        ·exact HT.out t ht
     | succ k=>
       have hiq:i<q:=by omega
       have ti:decide ((i:Int)<q)=true:=by simpa using hiq
       have e5:(i:Int)<q:=by omega
       have hix:i<ts.length:=by rw [←Q.out];exact hiq
       obtain⟨d2,i2,hA,hat⟩:=H3.out (fun h=>by rw [h]at hix;simp at hix)
       subst hA
       have hcx:=hat i hix
       obtain⟨x,hx⟩:∃x,x=ts[i]'hix:=⟨_,rfl⟩
       rw [←hx]at hcx
       have HX:=Lib.hid hx
       clear hat hx
       have HT:=Lib.hid hT
       clear hT
       rcases x with _ | ⟨y,x⟩
       ·go_wp2
        go_ret
        exact Yes.no (Keep.refl _ _)
       ·go_wp2
        go_roundg k
        case measure=>omega
        case rel=>
         refine⟨i+1,by omega,congrArg _ (by omega),rfl,fun t ht=>?_⟩
         rw [←List.take_append_getElem hix,List.mem_append,List.mem_singleton,←HX.out]at ht
         rcases ht with ht | rfl
         ·exact HT.out t ht
         ·simp
theorem askedBegin_is(rem:List Nat)(no iw ow hm:Nat)(off des:List (List UInt8))(props:List V)(w:World)(VC:Vld w)(sr so sd sp:Value)(hr0:U16s w rem sr)(hso:Strs w off so)(hsd:Strs w des sd)(hsp:LM w props sp):
 Calls Tryz.prog 21 #[.agg #[sr,.int .u32 (no:Int),.int .u32 (iw:Int),.int .u32 (ow:Int),.int .u32 (hm:Int),so,sd,sp]] w (Yes (rem.length≤1∧0<hm∧(∀t∈off,t≠[])∧(∀t∈des,t≠[])∧MapA (fun k=>k=20) props) w):=by
 have HSO:=Lib.hid hso
 have HSD:=Lib.hid hsd
 have HV:=Lib.hid VC
 have HP:=Lib.hid hsp
 obtain⟨C,e0,rfl,-,-⟩:=hsp.shape
 obtain⟨R,rc,rfl,-⟩:=hr0
 obtain⟨A,c,rfl,-⟩:=hso
 obtain⟨B,b,rfl,-⟩:=hsd
 obtain⟨rn,hrn⟩:∃x,x=rem.length:=⟨_,rfl⟩
 obtain⟨n,hn⟩:∃x,x=off.length:=⟨_,rfl⟩
 obtain⟨m,hm0⟩:∃x,x=des.length:=⟨_,rfl⟩
 obtain⟨q,hq⟩:∃x,x=props.length:=⟨_,rfl⟩
 rw [←hrn,←hn,←hm0,←hq]
 rw [←hn]at HSO
 rw [←hm0]at HSD
 rw [←hq]at HP
 have k0:=(Keep.refl (fun _=>True) w).alloc (.cells #[.slice R rn rc,.int .u32 (no:Int),.int .u32 (iw:Int),.int .u32 (ow:Int),.int .u32 (hm:Int),.slice A n c,.slice B m b,.slice C q e0] 54)
 have HBX:=Lib.hid (blk_new w (.cells #[.slice R rn rc,.int .u32 (no:Int),.int .u32 (iw:Int),.int .u32 (ow:Int),.int .u32 (hm:Int),.slice A n c,.slice B m b,.slice C q e0] 54))
 clear VC hsp hrn hn hm0 hq
 cases d0:decide (rn≤1)
 case false=>
  have i0:decide ((rn:Int)≤1)=false:=by simp at d0 ⊢;omega
  go_enter Tryz.func21,Tryz.ntmps21
  go_wp2
  go_ret
  exact Yes.no k0
 have i0:decide ((rn:Int)≤1)=true:=by simp at d0 ⊢;omega
 cases d1:decide (0<hm)
 case false=>
  have i1:decide ((0:Int)<(hm:Int))=false:=by simp at d1 ⊢;omega
  go_enter Tryz.func21,Tryz.ntmps21
  go_wp2
  go_ret
  exact Yes.no k0
 have i1:decide ((0:Int)<(hm:Int))=true:=by simp at d1 ⊢;omega
 have hb0:=HBX.out
 have kD:=k0.alloc (.cells #[.slice A n c,.slice B m b] 52)
 have hD:=blk_new (w.alloc (.cells #[.slice R rn rc,.int .u32 (no:Int),.int .u32 (iw:Int),.int .u32 (ow:Int),.int .u32 (hm:Int),.slice A n c,.slice B m b,.slice C q e0] 54)) (.cells #[.slice A n c,.slice B m b] 52)
 have hF:=full_is [off,des] (by show 2≤1000;omega) _ _ (show Strss _ [off,des] (w.alloc (.cells #[.slice R rn rc,.int .u32 (no:Int),.int .u32 (iw:Int),.int .u32 (ow:Int),.int .u32 (hm:Int),.slice A n c,.slice B m b,.slice C q e0] 54)).heap.size from fun j hj=>by
  match j,hj with
  | 0,_=>exact⟨_,(blk_cell hD 0).trans rfl,HSO.out.keep kD⟩
  | 1,_=>exact⟨_,(blk_cell hD 1).trans rfl,HSD.out.keep kD⟩)
 simp only [List.length_cons,List.length_nil,Nat.zero_add,World.size_alloc]at hF
 have HF:=Lib.hid hF
 have HB1:=Lib.hid (blk_alloc hb0 (.cells #[.slice A n c,.slice B m b] 52))
 clear hF hb0 hD
 go_enter Tryz.func21,Tryz.ntmps21
 go_wp2_with fail
 refine HF.out.mono ?_
 rintro e w1 ⟨x,rfl,k1,hx⟩
 have k01:=kD.trans k1
 have HX:=Lib.hid hx
 have hb1:=k1.blk HB1.out trivial
 have z7:=(blk_cell hb1 7).trans rfl
 clear hx hb1
 cases x
 ·go_wp2
  go_ret
  exact Yes.no k01
 have k02:=k01.alloc (.cells #[.int .i64 20] 3)
 have HM:=Lib.hid (mapAsked_is 20 props _ (HV.out.new k02) _ (HP.out.keep k02) _ (blk_new w1 (.cells #[.int .i64 20] 3)))
 go_wp2_with fail
 refine HM.out.mono ?_
 rintro e w2 ⟨y,rfl,k2,hy⟩
 have HY:=Lib.hid hy
 clear hy
 have hd0:rn≤1:=by simpa using d0
 have hd1:0<hm:=by simpa using d1
 cases y
 ·go_wp2
  go_ret
  exact Yes.no (k02.trans k2)
 ·go_wp2
  go_ret
  have hall:=HX.out (by first | rfl | trivial)
  exact⟨_,rfl,k02.trans k2,fun _=>⟨hd0,hd1,hall off (by simp),hall des (by simp),HY.out (by first | rfl | trivial)⟩⟩
end Go.Proofs.YtfoegolfadhmjaaGreatDoor
