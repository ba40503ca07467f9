/- spec.Sayable but for maps. -/
import Derived.Test.YtfoegolfadhmjaaGreatDoorZ34
set_option linter.all false
set_option maxRecDepth 100000
set_option maxHeartbeats 8000000
namespace Go.Proofs.YtfoegolfadhmjaaGreatDoor
open Go.RowKit Go.WideShapes Go.Sort
theorem say_desc(k:Int)(n:Nat)(t:List UInt8)(ks:List V)(o:Int)(ds:List V)(hd:ds≠[])(p:Prop)(w:World)(x:Value)(hx:VM w (.mk k n t ks o ds) x):Calls Tryz.prog 88 #[x] w (Yes p w):=by
 have hb0:0<ds.length:=List.length_pos_iff.2 hd
 obtain⟨sk,sd,rfl,hn,hks,hds⟩:=hx.inv
 obtain⟨A1,c1,rfl,hl1,hl1'⟩:=hks.shape
 obtain⟨A2,c2,rfl,hl2,hl2'⟩:=hds.shape
 have hml:ks.length≤maxLen:=by omega
 unfold maxLen at hml
 clear hl1 hl1' hl2 hl2' hx
 obtain⟨a,ha⟩:∃a,a=ks.length:=⟨_,rfl⟩
 rw [←ha]at hml hks ⊢
 obtain⟨b,hb⟩:∃b,b=ds.length:=⟨_,rfl⟩
 rw [←hb]at hb0 ⊢
 have tb:decide (0<b)=true:=by simpa using hb0
 have tb':decide ((0:Int)<(b:Int))=true:=by simp;omega
 clear ha hb hks hds hd
 go_enter Tryz.func88,Tryz.ntmps88
 go_wp2
 go_ret
 exact Yes.no ((Keep.refl _ w).alloc _)
theorem say_bad(k:Int)(hk:k=12∨k=13∨k=14∨k=15)(n:Nat)(t:List UInt8)(ks:List V)(o:Int)(p:Prop)(w:World)(x:Value)(hx:VM w (.mk k n t ks o []) x):Calls Tryz.prog 88 #[x] w (Yes p w):=by
 obtain⟨sk,sd,rfl,hn,hks,hds⟩:=hx.inv
 obtain⟨A1,c1,rfl,hl1,hl1'⟩:=hks.shape
 obtain⟨A2,c2,rfl,hl2,hl2'⟩:=hds.shape
 have hml:ks.length≤maxLen:=by omega
 unfold maxLen at hml
 clear hl1 hl1' hl2 hl2' hx
 obtain⟨a,ha⟩:∃a,a=ks.length:=⟨_,rfl⟩
 rw [←ha]at hml hks ⊢
 simp only [List.length_nil]
 clear ha hks hds
 rcases hk with rfl | rfl | rfl | rfl
 all_goals
  go_enter Tryz.func88,Tryz.ntmps88
  go_wp2
  go_ret
  exact Yes.no ((Keep.refl _ w).alloc _)
def ArrS(ks:List V):Prop:=ks≠[]∧(∀v,ks.head? =some v→(1≤v.kind∧v.kind≤11∨16≤v.kind∧v.kind≤20)∧v.desc=[])∧TextsA ks
theorem say_arr(n:Nat)(t:List UInt8)(ks:List V)(o:Int)(w:World)(x:Value)(hx:VM w (.mk 23 n t ks o []) x):Calls Tryz.prog 88 #[x] w (Yes (ArrS ks) w):=by
 obtain⟨sk,sd,rfl,hn,hks,hds⟩:=hx.inv
 obtain⟨A1,c1,rfl,hl1,hl1'⟩:=hks.shape
 obtain⟨A2,c2,rfl,hl2,hl2'⟩:=hds.shape
 have hml:ks.length≤maxLen:=by omega
 unfold maxLen at hml
 clear hl1 hl1' hl2 hl2' hx
 obtain⟨a,ha⟩:∃a,a=ks.length:=⟨_,rfl⟩
 rw [←ha]at hml hks ⊢
 simp only [List.length_nil]
 have M:=Lib.hid ha
 have HK:=Lib.hid hks
 clear ha hks hds
 by_cases ha0:a=0
 ·subst ha0
  go_enter Tryz.func88,Tryz.ntmps88
  go_wp2
  go_ret
  exact Yes.no ((Keep.refl _ w).alloc _)
 ·have ta:decide (0<a)=true:=by simp;omega
  have ta':decide ((0:Int)<(a:Int))=true:=by simp;omega
  have hpos:0<a:=by omega
  have hj1:0<ks.length:=by rw [←M.out];exact hpos
  obtain⟨d2,i2,hAe,-,-,-,hat⟩:=HK.out.at2 (fun h=>by rw [h]at hj1;simp at hj1)
  cases hAe
  obtain⟨e0,e1,e2,e3,e4,e5,hve,g0,g1,g2,g3,g4,g5⟩:=hat 0 hj1
  simp only [Nat.zero_mul,Nat.add_zero]at g0 g1 g2 g3 g4 g5
  obtain⟨A9,c9,o9,A0,c10,heq,-,-⟩:=hve.parts'
  simp only [Value.agg.injEq,Array.mk.injEq,List.cons.injEq,and_true]at heq
  obtain⟨rfl,rfl,rfl,rfl,rfl,rfl⟩:=heq
  have hhd:∀v,ks.head? =some v→v=ks[0]:=fun v hv=>by
   rcases ks with _ | ⟨y,ks⟩
   ·cases hv
   ·cases hv;rfl
  obtain⟨u,hu⟩:∃u,u=ks[0]'hj1:=⟨_,rfl⟩
  rw [←hu]at g0 g5 hhd
  have HHD:=Lib.hid hhd
  have kA:=(Keep.refl (fun _=>True) w).alloc (.cells #[.int .i64 23,.int .u64 (n:Int),.string ⟨t.toArray⟩,.slice (some ⟨d2,i2,none⟩) a c1,.int .i64 o,.slice A2 0 c2] 78)
  have hbx:=blk_new w (.cells #[.int .i64 23,.int .u64 (n:Int),.string ⟨t.toArray⟩,.slice (some ⟨d2,i2,none⟩) a c1,.int .i64 o,.slice A2 0 c2] 78)
  have q0:=kA.cell g0 trivial
  have q5:=kA.cell g5 trivial
  have HBX:=Lib.hid hbx
  have hak:=arrayKind_is u.kind (w.alloc (.cells #[.int .i64 23,.int .u64 (n:Int),.string ⟨t.toArray⟩,.slice (some ⟨d2,i2,none⟩) a c1,.int .i64 o,.slice A2 0 c2] 78))
  have HAK:=Lib.hid hak
  have G5:=Lib.hid g5
  clear hve hat hu hhd hbx hak g0 g1 g2 g3 g4
  go_enter Tryz.func88,Tryz.ntmps88
  go_wp2_with fail
  refine HAK.out.mono ?_
  rintro e w2 ⟨bb,rfl,k2,hbb⟩
  have HBB:=Lib.hid hbb
  have K2:=Lib.hid (kA.trans k2)
  have z3:=(blk_cell (k2.blk HBX.out trivial) 3).trans rfl
  have y5:=k2.cell q5 trivial
  clear hbb q0 q5 k2 kA g5
  cases bb
  ·go_wp2
   go_ret
   exact Yes.no K2.out
  ·obtain⟨m,hm⟩:∃m,m=u.desc.length:=⟨_,rfl⟩
   rw [←hm]at y5
   have HM:=Lib.hid hm
   clear hm
   by_cases hm0:m=0
   ·subst hm0
    have hask:=asked_is ks w2 _ (HK.out.keep K2.out)
    have HASK:=Lib.hid hask
    clear hask
    go_wp2_with fail
    refine HASK.out.mono ?_
    rintro e w3 ⟨b3,rfl,k3,hb3⟩
    have HB3:=Lib.hid hb3
    have K3:=Lib.hid (K2.out.trans k3)
    clear hb3
    go_wp2
    go_ret
    refine⟨b3,rfl,K3.out,fun h=>⟨fun e=>by have:=M.out;rw [e]at this;simp at this;omega,fun v hv=>?_,HB3.out h⟩⟩
    rw [HHD.out v hv]
    exact⟨HBB.out (by first | rfl | trivial),List.eq_nil_of_length_eq_zero HM.out.symm⟩
   ·have tm:((m:Int)==0)=false:=by simp;omega
    go_wp2
    go_ret
    exact Yes.no K2.out
theorem say_plain(N:Nat)(IH:∀u:V,cnt u≤N→FitL [u]→∀(w:World) (x:Value),VM w u x→Calls Tryz.prog 88 #[x] w (Yes (SayL [u]) w))(k:Int)(h1:¬(12≤k∧k≤15))(h2:k≠22)(h3:k≠23)(n:Nat)(t:List UInt8)(ks:List V)(hN:cnts ks≤N)(hF:FitL ks)(o:Int)(w:World)(x:Value)(hx:VM w (.mk k n t ks o []) x):Calls Tryz.prog 88 #[x] w (Yes (SayL ks) w):=by
 obtain⟨sk,sd,rfl,hn,hks,hds⟩:=hx.inv
 obtain⟨A1,c1,rfl,hl1,hl1'⟩:=hks.shape
 obtain⟨A2,c2,rfl,hl2,hl2'⟩:=hds.shape
 have hml:ks.length≤maxLen:=by omega
 unfold maxLen at hml
 clear hl1 hl1' hl2 hl2' hx
 obtain⟨a,ha⟩:∃a,a=ks.length:=⟨_,rfl⟩
 rw [←ha]at hml hks ⊢
 simp only [List.length_nil]
 have M:=Lib.hid ha
 have HK:=Lib.hid hks
 have HI:=Lib.hid IH
 have HF:=Lib.hid hF
 have e12:(k==12)=false:=by simp;omega
 have e13:(k==13)=false:=by simp;omega
 have e14:(k==14)=false:=by simp;omega
 have e15:(k==15)=false:=by simp;omega
 have e22:(k !=22)=true:=by simp;omega
 have e22':(k==22)=false:=by simp;omega
 have e23:(k==23)=false:=by simp;omega
 have kA:=(Keep.refl (fun _=>True) w).alloc (.cells #[.int .i64 k,.int .u64 (n:Int),.string ⟨t.toArray⟩,.slice A1 a c1,.int .i64 o,.slice A2 0 c2] 78)
 have HBX:=Lib.hid (blk_new w (.cells #[.int .i64 k,.int .u64 (n:Int),.string ⟨t.toArray⟩,.slice A1 a c1,.int .i64 o,.slice A2 0 c2] 78))
 clear ha hks hds h1 h2 h3 IH hF
 go_enter Tryz.func88,Tryz.ntmps88
 go_wp2_with fail
 go_loopg [62] a (fun kk s62 wr=>∃j:Nat,j+kk=a∧s62=.int .i64 (j:Int)∧New w wr∧wr.heap[w.heap.size]? =some (.cells #[.int .i64 k,.int .u64 (n:Int),.string ⟨t.toArray⟩,.slice A1 a c1,.int .i64 o,.slice A2 0 c2] 78 (0,0))∧SayL (ks.take j))
 case atStart=>exact⟨0,by omega,rfl,kA,HBX.out,by rw [List.take_zero];exact .nil⟩
 case round=>
  obtain⟨j,hj,rfl,kr,hb,hall⟩:=hrel
  have HALL:=Lib.hid hall
  have HBR:=Lib.hid hb
  clear hall hb
  rcases gk with _ | kk
  ·obtain rfl:a=j:=by omega
   go_wp2
   go_ret
   exact⟨_,rfl,kr,fun _=>by have:=HALL.out;rwa [M.out,List.take_length]at this⟩
  ·have hjn:j<a:=by omega
   have tj:decide (j<a)=true:=by simpa using hjn
   have hj1:j<ks.length:=by rw [←M.out];exact hjn
   obtain⟨d2,i2,hAe,-,-,-,hat⟩:=(HK.out.keep kr).at2 (fun h=>by rw [h]at hj1;simp at hj1)
   cases hAe
   obtain⟨e0,e1,e2,e3,e4,e5,hve,g0,g1,g2,g3,g4,g5⟩:=hat j hj1
   obtain⟨A9,c9,o9,A0,c10,heq,-,-⟩:=hve.parts'
   simp only [Value.agg.injEq,Array.mk.injEq,List.cons.injEq,and_true]at heq
   obtain⟨rfl,rfl,rfl,rfl,rfl,rfl⟩:=heq
   have hfu:=HF.out.get j hj1
   obtain⟨u,hu⟩:∃u,u=ks[j]:=⟨_,rfl⟩
   have htk:ks.take (j+1)=ks.take j++[u]:=by rw [←List.take_append_getElem hj1,hu]
   have hNu:cnt u≤N:=by rw [hu];exact Nat.le_trans (cnts_get ks j hj1) hN
   rw [←hu]at hve g0 g1 g2 g3 g5 hfu
   have kE:=(Keep.refl (fun _=>True) wr).alloc (.cells #[.int .i64 u.kind,.int .u64 (u.num:Int),.string ⟨u.text.toArray⟩,.slice A9 u.kids.length c9,.int .i64 o9,.slice A0 u.desc.length c10] 78)
   have HC:=Lib.hid (HI.out u hNu hfu _ _ (hve.keep kE))
   have HTK:=Lib.hid htk
   clear hve hat hu htk hfu
   go_wp2_with fail
   refine HC.out.mono ?_
   rintro e w2 ⟨bb,rfl,k2,hbb⟩
   have HBB:=Lib.hid hbb
   have K2:=Lib.hid ((kr.trans kE).trans k2)
   have hb2:=k2.blk (kE.blk HBR.out trivial) trivial
   have HB2:=Lib.hid hb2
   have z0:=(blk_cell hb2 0).trans rfl
   clear hbb hb2
   cases bb
   ·go_wp2
    go_ret
    exact Yes.no K2.out
   ·go_wp2
    go_roundg kk
    case measure=>omega
    case rel=>exact⟨j+1,by omega,congrArg _ (by omega),K2.out,HB2.out,by rw [HTK.out];exact HALL.out.append (HBB.out (by first | rfl | trivial))⟩
end Go.Proofs.YtfoegolfadhmjaaGreatDoor
