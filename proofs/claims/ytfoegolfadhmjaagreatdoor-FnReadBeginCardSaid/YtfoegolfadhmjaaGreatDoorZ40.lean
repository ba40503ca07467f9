/- spec.Composite.sameKids. -/
import Derived.Test.YtfoegolfadhmjaaGreatDoorZ39
set_option linter.all false
set_option maxRecDepth 100000
set_option maxHeartbeats 16000000
namespace Go.Proofs.YtfoegolfadhmjaaGreatDoor
open Go.RowKit Go.WideShapes Go.Sort
def atN(l:List V)(j:Nat):V:=(l[j]?).getD nul
def SameC(f:V×V)(a b:V):Prop:=∀(W:World) (a0 a1 a2 a3 a4 a5 b0 b1 b2 b3 b4 b5:Value),VM W f.2 (.agg #[b0,b1,b2,b3,b4,b5])→∀(x y:Value),VM W a x→VM W b y→
 Calls Tryz.prog 86 #[.agg #[a0,a1,a2,a3,a4,a5,b0,b1,b2,b3,b4,b5],x,y] W fun e w'=>e=.returned (.bool true)∧New W w'
theorem sameKids_is(c:Nat)(fs:List (V×V))(la lb:List V)(hla:la.length≤fs.length)(hlb:lb.length≤fs.length)(hmx:fs.length≤1000)(hF:∀j (h:j<fs.length),SameC fs[j] (atN la j) (atN lb j))(w:World)(s sa sb:Value)(hs:FM w fs s)(ha:LM w la sa)(hb:LM w lb sb):
 Calls Tryz.prog 63 #[.agg #[.int .u64 (c:Int),s],sa,sb] w fun e w'=>e=.returned (.bool true)∧New w w':=by
 obtain⟨A,cc,rfl,-,-⟩:=hs.shape
 obtain⟨A1,c1,rfl,-,-⟩:=ha.shape
 obtain⟨A2,c2,rfl,-,-⟩:=hb.shape
 obtain⟨n,hn⟩:∃n,n=fs.length:=⟨_,rfl⟩
 obtain⟨lx,hlx⟩:∃n,n=la.length:=⟨_,rfl⟩
 obtain⟨ly,hly⟩:∃n,n=lb.length:=⟨_,rfl⟩
 rw [←hn]at hs hmx hla hlb ⊢
 rw [←hlx]at ha hla ⊢
 rw [←hly]at hb hlb ⊢
 have M:=Lib.hid hn
 have HS:=Lib.hid hs
 have HA:=Lib.hid ha
 have HB:=Lib.hid hb
 have HF:=Lib.hid hF
 have MX:=Lib.hid hlx
 have MY:=Lib.hid hly
 have t1:decide (n<lx)=false:=by simp;omega
 have t2:decide (n<ly)=false:=by simp;omega
 have kA:=(Keep.refl (fun _=>True) w).alloc (.cells #[.int .u64 (c:Int),.slice A n cc] 33)
 clear hs ha hb hF hn hlx hly
 go_enter Tryz.func63,Tryz.ntmps63
 go_wp2_with fail
 go_loopg [28] n (fun kk s28 wr=>∃j:Nat,j+kk=n∧s28=.int .i64 (j:Int)∧New w wr)
 case atStart=>exact⟨0,by omega,rfl,kA⟩
 case round=>
  obtain⟨j,hj,rfl,kr⟩:=hrel
  rcases gk with _ | kk
  ·obtain rfl:n=j:=by omega
   go_wp2
   go_ret
   exact⟨rfl,kr⟩
  have hjn:j<n:=by omega
  have tj:decide (j<n)=true:=by simpa using hjn
  have hjf:j<fs.length:=by rw [←M.out];exact hjn
  have mx:=MX.out
  have my:=MY.out
  obtain⟨d2,i2,hAe,-,-,-,hat⟩:=(HS.out.keep kr).at (fun h=>by rw [h]at hjf;simp at hjf)
  cases hAe
  obtain⟨a0,a1,a2,a3,a4,a5,b0,b1,b2,b3,b4,b5,hva,hvb,g0,g1,g2,g3,g4,g5,g6,g7,g8,g9,g10,g11⟩:=hat j hjf
  obtain⟨A7,c7,o7,A8,c8,heq,-,-⟩:=hva.parts'
  simp only [Value.agg.injEq,Array.mk.injEq,List.cons.injEq,and_true]at heq
  obtain⟨rfl,rfl,rfl,rfl,rfl,rfl⟩:=heq
  obtain⟨B7,e7,p7,B8,e8,heq,-,-⟩:=hvb.parts'
  simp only [Value.agg.injEq,Array.mk.injEq,List.cons.injEq,and_true]at heq
  obtain⟨rfl,rfl,rfl,rfl,rfl,rfl⟩:=heq
  have hsc:=HF.out j hjf
  obtain⟨F,hFe⟩:∃F,F=fs[j]:=⟨_,rfl⟩
  rw [←hFe]at hsc hvb g0 g1 g2 g3 g5 g6 g7 g8 g9 g11
  clear hFe hat hva
  obtain⟨u,v⟩:=F
  simp only at hsc hvb g0 g1 g2 g3 g5 g6 g7 g8 g9 g11
  have HSC:=Lib.hid hsc
  clear hsc
  by_cases hxj:j<lx
  ·by_cases hyj:j<ly
   ·skip
    have hjx:j<la.length:=by omega
    have tx:decide (j<lx)=true:=by simp;omega
    obtain⟨dx,ix,hAe,-,-,-,hatx⟩:=(HA.out.keep kr).at2 (fun h=>by rw [h]at hjx;simp at hjx)
    cases hAe
    obtain⟨x0,x1,x2,x3,x4,x5,hvx,gx0,gx1,gx2,gx3,gx4,gx5⟩:=hatx j hjx
    obtain⟨xA,xc,xB,xp,heq⟩:=hvx.shown
    simp only [Value.agg.injEq,Array.mk.injEq,List.cons.injEq,and_true]at heq
    obtain⟨rfl,rfl,rfl,rfl,rfl,rfl⟩:=heq
    have ex:atN la j=la[j]:=by unfold atN;rw [List.getElem?_eq_getElem hjx];rfl
    rw [←ex]at hvx gx0 gx1 gx2 gx3 gx4 gx5
    have kx0:=fun o1 o2 o3=>cell_alloc (cell_alloc (cell_alloc gx0 o1) o2) o3
    have kx1:=fun o1 o2 o3=>cell_alloc (cell_alloc (cell_alloc gx1 o1) o2) o3
    have kx2:=fun o1 o2 o3=>cell_alloc (cell_alloc (cell_alloc gx2 o1) o2) o3
    have kx3:=fun o1 o2 o3=>cell_alloc (cell_alloc (cell_alloc gx3 o1) o2) o3
    have kx4:=fun o1 o2 o3=>cell_alloc (cell_alloc (cell_alloc gx4 o1) o2) o3
    have kx5:=fun o1 o2 o3=>cell_alloc (cell_alloc (cell_alloc gx5 o1) o2) o3
    have hjy:j<lb.length:=by omega
    have ty:decide (j<ly)=true:=by simp;omega
    obtain⟨dy,iy,hAe,-,-,-,haty⟩:=(HB.out.keep kr).at2 (fun h=>by rw [h]at hjy;simp at hjy)
    cases hAe
    obtain⟨y0,y1,y2,y3,y4,y5,hvy,gy0,gy1,gy2,gy3,gy4,gy5⟩:=haty j hjy
    obtain⟨yA,yc,yB,yp,heq⟩:=hvy.shown
    simp only [Value.agg.injEq,Array.mk.injEq,List.cons.injEq,and_true]at heq
    obtain⟨rfl,rfl,rfl,rfl,rfl,rfl⟩:=heq
    have ey:atN lb j=lb[j]:=by unfold atN;rw [List.getElem?_eq_getElem hjy];rfl
    rw [←ey]at hvy gy0 gy1 gy2 gy3 gy4 gy5
    have ky0:=fun o1 o2 o3=>cell_alloc (cell_alloc (cell_alloc gy0 o1) o2) o3
    have ky1:=fun o1 o2 o3=>cell_alloc (cell_alloc (cell_alloc gy1 o1) o2) o3
    have ky2:=fun o1 o2 o3=>cell_alloc (cell_alloc (cell_alloc gy2 o1) o2) o3
    have ky3:=fun o1 o2 o3=>cell_alloc (cell_alloc (cell_alloc gy3 o1) o2) o3
    have ky4:=fun o1 o2 o3=>cell_alloc (cell_alloc (cell_alloc gy4 o1) o2) o3
    have ky5:=fun o1 o2 o3=>cell_alloc (cell_alloc (cell_alloc gy5 o1) o2) o3
    have kE:=(((Keep.refl (fun _=>True) wr).alloc (.cells #[.int .i64 u.kind,.int .u64 (u.num:Int),.string ⟨u.text.toArray⟩,.slice A7 u.kids.length c7,.int .i64 o7,.slice A8 u.desc.length c8,.int .i64 v.kind,.int .u64 (v.num:Int),.string ⟨v.text.toArray⟩,.slice B7 v.kids.length e7,.int .i64 p7,.slice B8 v.desc.length e8] 81)).alloc (.cells #[.int .i64 (atN la j).kind,.int .u64 ((atN la j).num:Int),.string ⟨(atN la j).text.toArray⟩,.slice xA (atN la j).kids.length xc,.int .i64 (atN la j).of,.slice xB (atN la j).desc.length xp] 78)).alloc (.cells #[.int .i64 (atN lb j).kind,.int .u64 ((atN lb j).num:Int),.string ⟨(atN lb j).text.toArray⟩,.slice yA (atN lb j).kids.length yc,.int .i64 (atN lb j).of,.slice yB (atN lb j).desc.length yp] 78)
    have HC:=Lib.hid (HSC.out _ (.int .i64 u.kind) (.int .u64 (u.num:Int)) (.string ⟨u.text.toArray⟩) (.slice A7 u.kids.length c7) (.int .i64 o7) (.slice A8 u.desc.length c8) _ _ _ _ _ _ (hvb.keep kE) _ _ (hvx.keep kE) (hvy.keep kE))
    clear hvx hvy hvb ex ey mx my
    go_wp2_with fail
    refine HC.out.mono ?_
    rintro e w2 ⟨rfl,k2⟩
    go_wp2
    go_roundg kk
    case measure=>omega
    case rel=>exact⟨j+1,by omega,congrArg _ (by omega),(kr.trans kE).trans k2⟩
   ·skip
    have hjx:j<la.length:=by omega
    have tx:decide (j<lx)=true:=by simp;omega
    obtain⟨dx,ix,hAe,-,-,-,hatx⟩:=(HA.out.keep kr).at2 (fun h=>by rw [h]at hjx;simp at hjx)
    cases hAe
    obtain⟨x0,x1,x2,x3,x4,x5,hvx,gx0,gx1,gx2,gx3,gx4,gx5⟩:=hatx j hjx
    obtain⟨xA,xc,xB,xp,heq⟩:=hvx.shown
    simp only [Value.agg.injEq,Array.mk.injEq,List.cons.injEq,and_true]at heq
    obtain⟨rfl,rfl,rfl,rfl,rfl,rfl⟩:=heq
    have ex:atN la j=la[j]:=by unfold atN;rw [List.getElem?_eq_getElem hjx];rfl
    rw [←ex]at hvx gx0 gx1 gx2 gx3 gx4 gx5
    have kx0:=fun o1 o2 o3=>cell_alloc (cell_alloc (cell_alloc gx0 o1) o2) o3
    have kx1:=fun o1 o2 o3=>cell_alloc (cell_alloc (cell_alloc gx1 o1) o2) o3
    have kx2:=fun o1 o2 o3=>cell_alloc (cell_alloc (cell_alloc gx2 o1) o2) o3
    have kx3:=fun o1 o2 o3=>cell_alloc (cell_alloc (cell_alloc gx3 o1) o2) o3
    have kx4:=fun o1 o2 o3=>cell_alloc (cell_alloc (cell_alloc gx4 o1) o2) o3
    have kx5:=fun o1 o2 o3=>cell_alloc (cell_alloc (cell_alloc gx5 o1) o2) o3
    have ty:decide (j<ly)=false:=by simp;omega
    have ey:atN lb j=nul:=by unfold atN;rw [List.getElem?_eq_none (by omega)];rfl
    have hvy:VM wr (atN lb j) (.agg #[.int .i64 0,.int .u64 0,.string ⟨#[]⟩,.slice none 0 0,.int .i64 0,.slice none 0 0]):=by rw [ey];exact VM.mk (by omega) LM.nil LM.nil
    have kE:=(((Keep.refl (fun _=>True) wr).alloc (.cells #[.int .i64 u.kind,.int .u64 (u.num:Int),.string ⟨u.text.toArray⟩,.slice A7 u.kids.length c7,.int .i64 o7,.slice A8 u.desc.length c8,.int .i64 v.kind,.int .u64 (v.num:Int),.string ⟨v.text.toArray⟩,.slice B7 v.kids.length e7,.int .i64 p7,.slice B8 v.desc.length e8] 81)).alloc (.cells #[.int .i64 (atN la j).kind,.int .u64 ((atN la j).num:Int),.string ⟨(atN la j).text.toArray⟩,.slice xA (atN la j).kids.length xc,.int .i64 (atN la j).of,.slice xB (atN la j).desc.length xp] 78)).alloc (.cells #[.int .i64 0,.int .u64 0,.string ⟨#[]⟩,.slice none 0 0,.int .i64 0,.slice none 0 0] 78)
    have HC:=Lib.hid (HSC.out _ (.int .i64 u.kind) (.int .u64 (u.num:Int)) (.string ⟨u.text.toArray⟩) (.slice A7 u.kids.length c7) (.int .i64 o7) (.slice A8 u.desc.length c8) _ _ _ _ _ _ (hvb.keep kE) _ _ (hvx.keep kE) (hvy.keep kE))
    clear hvx hvy hvb ex ey mx my
    go_wp2_with fail
    refine HC.out.mono ?_
    rintro e w2 ⟨rfl,k2⟩
    go_wp2
    go_roundg kk
    case measure=>omega
    case rel=>exact⟨j+1,by omega,congrArg _ (by omega),(kr.trans kE).trans k2⟩
  ·by_cases hyj:j<ly
   ·skip
    have tx:decide (j<lx)=false:=by simp;omega
    have ex:atN la j=nul:=by unfold atN;rw [List.getElem?_eq_none (by omega)];rfl
    have hvx:VM wr (atN la j) (.agg #[.int .i64 0,.int .u64 0,.string ⟨#[]⟩,.slice none 0 0,.int .i64 0,.slice none 0 0]):=by rw [ex];exact VM.mk (by omega) LM.nil LM.nil
    have hjy:j<lb.length:=by omega
    have ty:decide (j<ly)=true:=by simp;omega
    obtain⟨dy,iy,hAe,-,-,-,haty⟩:=(HB.out.keep kr).at2 (fun h=>by rw [h]at hjy;simp at hjy)
    cases hAe
    obtain⟨y0,y1,y2,y3,y4,y5,hvy,gy0,gy1,gy2,gy3,gy4,gy5⟩:=haty j hjy
    obtain⟨yA,yc,yB,yp,heq⟩:=hvy.shown
    simp only [Value.agg.injEq,Array.mk.injEq,List.cons.injEq,and_true]at heq
    obtain⟨rfl,rfl,rfl,rfl,rfl,rfl⟩:=heq
    have ey:atN lb j=lb[j]:=by unfold atN;rw [List.getElem?_eq_getElem hjy];rfl
    rw [←ey]at hvy gy0 gy1 gy2 gy3 gy4 gy5
    have ky0:=fun o1 o2 o3=>cell_alloc (cell_alloc (cell_alloc gy0 o1) o2) o3
    have ky1:=fun o1 o2 o3=>cell_alloc (cell_alloc (cell_alloc gy1 o1) o2) o3
    have ky2:=fun o1 o2 o3=>cell_alloc (cell_alloc (cell_alloc gy2 o1) o2) o3
    have ky3:=fun o1 o2 o3=>cell_alloc (cell_alloc (cell_alloc gy3 o1) o2) o3
    have ky4:=fun o1 o2 o3=>cell_alloc (cell_alloc (cell_alloc gy4 o1) o2) o3
    have ky5:=fun o1 o2 o3=>cell_alloc (cell_alloc (cell_alloc gy5 o1) o2) o3
    have kE:=(((Keep.refl (fun _=>True) wr).alloc (.cells #[.int .i64 u.kind,.int .u64 (u.num:Int),.string ⟨u.text.toArray⟩,.slice A7 u.kids.length c7,.int .i64 o7,.slice A8 u.desc.length c8,.int .i64 v.kind,.int .u64 (v.num:Int),.string ⟨v.text.toArray⟩,.slice B7 v.kids.length e7,.int .i64 p7,.slice B8 v.desc.length e8] 81)).alloc (.cells #[.int .i64 0,.int .u64 0,.string ⟨#[]⟩,.slice none 0 0,.int .i64 0,.slice none 0 0] 78)).alloc (.cells #[.int .i64 (atN lb j).kind,.int .u64 ((atN lb j).num:Int),.string ⟨(atN lb j).text.toArray⟩,.slice yA (atN lb j).kids.length yc,.int .i64 (atN lb j).of,.slice yB (atN lb j).desc.length yp] 78)
    have HC:=Lib.hid (HSC.out _ (.int .i64 u.kind) (.int .u64 (u.num:Int)) (.string ⟨u.text.toArray⟩) (.slice A7 u.kids.length c7) (.int .i64 o7) (.slice A8 u.desc.length c8) _ _ _ _ _ _ (hvb.keep kE) _ _ (hvx.keep kE) (hvy.keep kE))
    clear hvx hvy hvb ex ey mx my
    go_wp2_with fail
    refine HC.out.mono ?_
    rintro e w2 ⟨rfl,k2⟩
    go_wp2
    go_roundg kk
    case measure=>omega
    case rel=>exact⟨j+1,by omega,congrArg _ (by omega),(kr.trans kE).trans k2⟩
   ·skip
    have tx:decide (j<lx)=false:=by simp;omega
    have ex:atN la j=nul:=by unfold atN;rw [List.getElem?_eq_none (by omega)];rfl
    have hvx:VM wr (atN la j) (.agg #[.int .i64 0,.int .u64 0,.string ⟨#[]⟩,.slice none 0 0,.int .i64 0,.slice none 0 0]):=by rw [ex];exact VM.mk (by omega) LM.nil LM.nil
    have ty:decide (j<ly)=false:=by simp;omega
    have ey:atN lb j=nul:=by unfold atN;rw [List.getElem?_eq_none (by omega)];rfl
    have hvy:VM wr (atN lb j) (.agg #[.int .i64 0,.int .u64 0,.string ⟨#[]⟩,.slice none 0 0,.int .i64 0,.slice none 0 0]):=by rw [ey];exact VM.mk (by omega) LM.nil LM.nil
    have kE:=(((Keep.refl (fun _=>True) wr).alloc (.cells #[.int .i64 u.kind,.int .u64 (u.num:Int),.string ⟨u.text.toArray⟩,.slice A7 u.kids.length c7,.int .i64 o7,.slice A8 u.desc.length c8,.int .i64 v.kind,.int .u64 (v.num:Int),.string ⟨v.text.toArray⟩,.slice B7 v.kids.length e7,.int .i64 p7,.slice B8 v.desc.length e8] 81)).alloc (.cells #[.int .i64 0,.int .u64 0,.string ⟨#[]⟩,.slice none 0 0,.int .i64 0,.slice none 0 0] 78)).alloc (.cells #[.int .i64 0,.int .u64 0,.string ⟨#[]⟩,.slice none 0 0,.int .i64 0,.slice none 0 0] 78)
    have HC:=Lib.hid (HSC.out _ (.int .i64 u.kind) (.int .u64 (u.num:Int)) (.string ⟨u.text.toArray⟩) (.slice A7 u.kids.length c7) (.int .i64 o7) (.slice A8 u.desc.length c8) _ _ _ _ _ _ (hvb.keep kE) _ _ (hvx.keep kE) (hvy.keep kE))
    clear hvx hvy hvb ex ey mx my
    go_wp2_with fail
    refine HC.out.mono ?_
    rintro e w2 ⟨rfl,k2⟩
    go_wp2
    go_roundg kk
    case measure=>omega
    case rel=>exact⟨j+1,by omega,congrArg _ (by omega),(kr.trans kE).trans k2⟩
end Go.Proofs.YtfoegolfadhmjaaGreatDoor
