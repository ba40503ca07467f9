/- A region of drawn order by one invariant: every operation once. -/
import Derived.Test.YtfoegolfadhmjaaGreatDoorZ04
import Derived.Lib.ValidLaws
set_option linter.all false
set_option maxRecDepth 100000
set_option maxHeartbeats 4000000
namespace Go.Proofs.YtfoegolfadhmjaaGreatDoor
open Go.RowKit Go.WideShapes
def codedL:List (Int×Int):=[(0,64),(1,86),(2,80),(6,81),(3,96),(7,97),(4,112),(8,113),(10,114),(15,115),(12,116),(5,128),(9,129),(11,130),(16,131),(13,132),(14,148),(17,152),(18,176),(19,177),(20,179),(21,208),(22,209),(23,240)]
theorem coded_is(k:Int)(w:World):Calls Tryz.prog 82 #[.int .i64 k] w fun e w'=>e=.returned (.int .i64 ((codedL.lookup k).getD 0))∧New w w':=by
 have hmk:=make294 w
 have m0:=IntMap.new w
 obtain⟨u1,e1,m1,k1⟩:=m0.upd 0 64 (by decide)
 obtain⟨u2,e2,m2,k2⟩:=m1.upd 1 86 (by decide)
 obtain⟨u3,e3,m3,k3⟩:=m2.upd 2 80 (by decide)
 obtain⟨u4,e4,m4,k4⟩:=m3.upd 6 81 (by decide)
 obtain⟨u5,e5,m5,k5⟩:=m4.upd 3 96 (by decide)
 obtain⟨u6,e6,m6,k6⟩:=m5.upd 7 97 (by decide)
 obtain⟨u7,e7,m7,k7⟩:=m6.upd 4 112 (by decide)
 obtain⟨u8,e8,m8,k8⟩:=m7.upd 8 113 (by decide)
 obtain⟨u9,e9,m9,k9⟩:=m8.upd 10 114 (by decide)
 obtain⟨u10,e10,m10,k10⟩:=m9.upd 15 115 (by decide)
 obtain⟨u11,e11,m11,k11⟩:=m10.upd 12 116 (by decide)
 obtain⟨u12,e12,m12,k12⟩:=m11.upd 5 128 (by decide)
 obtain⟨u13,e13,m13,k13⟩:=m12.upd 9 129 (by decide)
 obtain⟨u14,e14,m14,k14⟩:=m13.upd 11 130 (by decide)
 obtain⟨u15,e15,m15,k15⟩:=m14.upd 16 131 (by decide)
 obtain⟨u16,e16,m16,k16⟩:=m15.upd 13 132 (by decide)
 obtain⟨u17,e17,m17,k17⟩:=m16.upd 14 148 (by decide)
 obtain⟨u18,e18,m18,k18⟩:=m17.upd 17 152 (by decide)
 obtain⟨u19,e19,m19,k19⟩:=m18.upd 18 176 (by decide)
 obtain⟨u20,e20,m20,k20⟩:=m19.upd 19 177 (by decide)
 obtain⟨u21,e21,m21,k21⟩:=m20.upd 20 179 (by decide)
 obtain⟨u22,e22,m22,k22⟩:=m21.upd 21 208 (by decide)
 obtain⟨u23,e23,m23,k23⟩:=m22.upd 22 209 (by decide)
 obtain⟨u24,e24,m24,k24⟩:=m23.upd 23 240 (by decide)
 have hlk:=m24.look k
 simp only [List.nil_append,List.cons_append]at hlk
 have kk:Keep (fun b=>b≠w.heap.size) (w.alloc (.map #[] 0)) u24:=(((((((((((((((((((((((k1.trans k2).trans k3).trans k4).trans k5).trans k6).trans k7).trans k8).trans k9).trans k10).trans k11).trans k12).trans k13).trans k14).trans k15).trans k16).trans k17).trans k18).trans k19).trans k20).trans k21).trans k22).trans k23).trans k24)
 have KK:=Lib.hid kk
 clear kk m0 m1 k1 m2 k2 m3 k3 m4 k4 m5 k5 m6 k6 m7 k7 m8 k8 m9 k9 m10 k10 m11 k11 m12 k12 m13 k13 m14 k14 m15 k15 m16 k16 m17 k17 m18 k18 m19 k19 m20 k20 m21 k21 m22 k22 m23 k23 m24 k24
 go_enter Tryz.func82,Tryz.ntmps82
 go_wp2
 go_ret
 exact⟨rfl,((Keep.refl _ w).alloc _).then KK.out (fun i hi _=>by show i≠w.heap.size;omega)⟩
end Go.Proofs.YtfoegolfadhmjaaGreatDoor
namespace Go.Proofs.YtfoegolfadhmjaaGreatDoor
open Go.RowKit
theorem ascii_is(t:List UInt8)(ht:t.length≤1099511627776)(w:World):
 Calls Tryz.prog 140 #[.string ⟨t.toArray⟩] w fun e w'=>∃b,e=.returned (.bool b)∧New w w'∧(b=true→∀x∈t,x.toNat<128):=by
 have hsz:(⟨t.toArray⟩:ByteArray).size=t.length:=rfl
 go_enter Tryz.func140,Tryz.ntmps140
 go_wp2_with fail
 go_loopg [3] t.length (fun kk s3 wr=>∃j:Nat,j+kk=t.length∧s3=.int .i64 (j:Int)∧New w wr∧∀x∈t.take j,x.toNat<128)
 case atStart=>exact⟨0,by omega,rfl,Keep.refl _ _,by simp⟩
 case round=>
  obtain⟨j,hj,rfl,kr,hall⟩:=hrel
  have HA:=Lib.hid hall
  clear hall
  rcases gk with _ | kk
  ·obtain rfl:j=t.length:=by omega
   go_wp2
   go_ret
   refine⟨true,rfl,kr,fun _=>?_⟩
   have:=HA.out
   rwa [List.take_length]at this
  ·have hjn:j<t.length:=by omega
   have tj:decide (j<t.length)=true:=by simpa using hjn
   by_cases hx:t[j].toNat<128
   ·have tx:decide ((128:Int)≤(((⟨t.toArray⟩:ByteArray)[j]'hjn).toNat:Int))=false:=by
     have:((⟨t.toArray⟩:ByteArray)[j]'hjn)=t[j]:=rfl
     rw [this];simp;omega
    go_wp2
    go_roundg kk
    case measure=>omega
    case rel=>
     refine⟨j+1,by omega,congrArg _ (by omega),kr,fun x hx'=>?_⟩
     rw [←List.take_append_getElem hjn]at hx'
     rcases List.mem_append.1 hx' with h | h
     ·exact HA.out x h
     ·simp at h
      subst h
      exact hx
   ·have tx:decide ((128:Int)≤(((⟨t.toArray⟩:ByteArray)[j]'hjn).toNat:Int))=true:=by
     have:((⟨t.toArray⟩:ByteArray)[j]'hjn)=t[j]:=rfl
     rw [this];simp;omega
    go_wp2
    go_ret
    exact⟨false,rfl,kr,fun h=>by cases h⟩
def bsz(k:Int):Int:=if k=0∨k=1∨18≤k then 1 else 0
theorem boolSize_is(k:Int)(w:World):Calls Tryz.prog 207 #[.int .i64 k] w fun e w'=>e=.returned (.int .i64 (bsz k))∧w=w':=by
 by_cases h:k=0∨k=1∨18≤k
 ·have e:bsz k=1:=if_pos h
  rw [e]
  rcases h with rfl | rfl | h
  ·clear e
   go_enter Tryz.func207,Tryz.ntmps207
   go_wp2
   go_ret
   exact⟨rfl,rfl⟩
  ·clear e
   go_enter Tryz.func207,Tryz.ntmps207
   go_wp2
   go_ret
   exact⟨rfl,rfl⟩
  ·have e0:(k==0)=false:=by simp;omega
   have e1:(k==1)=false:=by simp;omega
   have e2:decide (18≤k)=true:=by simpa using h
   clear e h
   go_enter Tryz.func207,Tryz.ntmps207
   go_wp2
   go_ret
   exact⟨rfl,rfl⟩
 ·have e:bsz k=0:=if_neg h
  rw [e]
  have e0:(k==0)=false:=by simp;omega
  have e1:(k==1)=false:=by simp;omega
  have e2:decide (18≤k)=false:=by simp;omega
  clear e h
  go_enter Tryz.func207,Tryz.ntmps207
  go_wp2
  go_ret
  exact⟨rfl,rfl⟩
def Yes(p:Prop)(w:World)(e:Ending)(w':World):Prop:=∃b,e=.returned (.bool b)∧New w w'∧(b=true→p)
theorem Yes.no{p:Prop}{w w':World}(k:New w w'):Yes p w (.returned (.bool false)) w':=⟨false,rfl,k,fun h=>by cases h⟩
def keyP(k:Int):Prop:=1≤k∧k≤9∨k=16∨k=17∨k=19∨k=20
def arrP(k:Int):Prop:=1≤k∧k≤11∨16≤k∧k≤20
theorem keyKind_is(k:Int)(w:World):Calls Tryz.prog 144 #[.int .i64 k] w (Yes (keyP k) w):=by
 go_enter Tryz.func144,Tryz.ntmps144
 go_wp2
 all_goals
  go_ret
  exact⟨_,rfl,Keep.refl _ _,fun h=>by unfold keyP;simp at h<;>omega⟩
theorem arrayKind_is(k:Int)(w:World):Calls Tryz.prog 142 #[.int .i64 k] w (Yes (arrP k) w):=by
 go_enter Tryz.func142,Tryz.ntmps142
 go_wp2
 all_goals
  go_ret
  exact⟨_,rfl,Keep.refl _ _,fun h=>by unfold arrP;simp at h<;>omega⟩
end Go.Proofs.YtfoegolfadhmjaaGreatDoor
namespace Go.Proofs.YtfoegolfadhmjaaGreatDoor
open Go.RowKit Go.WideShapes
def sizeL:List (Int×Int):=[(2,1),(6,1),(3,2),(7,2),(4,4),(8,4),(10,4),(12,4),(15,4),(5,8),(9,8),(11,8),(13,8),(16,8),(14,16),(17,16)]
def fixedV(k:Int):Int:=(sizeL.lookup k).getD 0-bsz k
theorem sizeL_le(k:Int):0≤(sizeL.lookup k).getD 0∧(sizeL.lookup k).getD 0≤16:=by
 unfold sizeL
 simp only [List.lookup]
 repeat' split
 all_goals simp
theorem bsz_le(k:Int):0≤bsz k∧bsz k≤1:=by unfold bsz;split<;>omega
def FixOK:Prop:=∀(k:Int) (w:World),Calls Tryz.prog 135 #[.int .i64 k] w fun e w'=>e=.returned (.int .i64 (fixedV k))∧New w w'
def Low(ops:Array Oper):Bool:=(List.range ops.size).all fun i=>((ops[i]?).map fun o=>o.after.all fun e=>decide (e.on<i)).getD true
theorem all_listed{md:Region.Mode}{ops:Array Oper}{L:Array Bool}(hs:L.size=ops.size)(low:Low ops=true)(hr:Region.ready md ops L=[]):∀n i,i<n→i<ops.size→L.getD i false=true:=by
 intro n
 induction n with
 | zero=>intro i h;omega
 | succ n ih=>
   intro i hi hlt
   rcases Nat.lt_or_ge i n with h | h
   ·exact ih i h hlt
   obtain rfl:i=n:=by omega
   cases hL:L.getD i false with
   | true=>rfl
   | false=>
     exfalso
     have hmem:i∈Region.ready md ops L:=by
      unfold Region.ready
      rw [List.mem_filter]
      refine⟨List.mem_range.2 hlt,?_⟩
      have h1:L.getD i true=false:=by
       have:i<L.size:=by omega
       simp [Array.getD,this]at hL ⊢
       exact hL
      rw [h1]
      have hl:=List.all_eq_true.1 low i (List.mem_range.2 hlt)
      rw [Array.getElem?_eq_getElem hlt]at hl ⊢
      simp only [Option.map_some,Option.getD_some,Bool.not_false,Bool.true_and]at hl ⊢
      rw [Array.all_eq_true']at hl ⊢
      intro e he
      have:=of_decide_eq_true (hl e he)
      rw [ih e.on this (by omega)]
      simp
     rw [hr]at hmem
     cases hmem
theorem getD_set_self{L:Array Bool}{i:Nat}(h:i<L.size):(L.setIfInBounds i true).getD i false=true:=by simp [Array.getD,h]
theorem getD_set_ne{L:Array Bool}{i j:Nat}(h:i≠j):(L.setIfInBounds i true).getD j false=L.getD j false:=by
 simp only [Array.getD_eq_getD_getElem?,Array.getElem?_setIfInBounds_ne h]
theorem any_inv{P:Program}{md:Region.Mode}{ops:Array Oper}{Q:Exit→Act→World→Prop}(I:Array Bool→Act→World→Prop)(low:Low ops=true)
 (step:∀i o L a w,ops[i]? =some o→(∀e∈o.after,Region.binds md e=true→L.getD e.on false=true)→L.getD i false=false→L.size=ops.size→I L a w→wpOp P ops Q i (I (L.setIfInBounds i true)) a w)
 (fin:∀L a w,(∀i,i<ops.size→L.getD i false=true)→I L a w→Q .normal a w):
 ∀fuel L a w,L.size=ops.size→L.count false≤fuel→I L a w→wpAny P md ops Q fuel L a w:=by
 intro fuel
 induction fuel with
 | zero=>
   intro L a w hs hc hI
   have hr:Region.ready md ops L=[]:=by
    unfold Region.ready
    rw [List.filter_eq_nil_iff]
    intro i hi
    have hi':i<L.size:=by rw [hs];exact List.mem_range.1 hi
    have h0:¬false∈L:=fun hm=>by have:=Array.count_pos_iff.2 hm;omega
    have:L.getD i true=true:=by
     simp only [Array.getD,hi',dif_pos]
     cases h:L[i]with
     | true=>exact h
     | false=>exact absurd (h▸Array.getElem_mem hi') h0
    simp [this]
   exact⟨hr,fin L a w (fun i hi=>all_listed hs low hr (i+1) i (by omega) hi) hI⟩
 | succ fuel ih=>
   intro L a w hs hc hI
   refine⟨fun hr=>fin L a w (fun i hi=>all_listed hs low hr (i+1) i (by omega) hi) hI,fun i hi=>?_⟩
   unfold Region.ready at hi
   rw [List.mem_filter]at hi
   obtain⟨h1,h2⟩:=hi
   have hlt:i<ops.size:=List.mem_range.1 h1
   rw [Array.getElem?_eq_getElem hlt]at h2
   simp only [Option.map_some,Option.getD_some,Bool.and_eq_true,Bool.not_eq_true']at h2
   obtain⟨h2,h3⟩:=h2
   have hL:L[i]'(by omega)=false:=by
    have:i<L.size:=by omega
    simpa [Array.getD,this]using h2
   have hLf:L.getD i false=false:=by
    have:i<L.size:=by omega
    simp [Array.getD,this,hL]
   refine wpOp_mono (fun a w hI'=>ih _ a w (by simpa using hs) ?_ hI') (step i ops[i] L a w (Array.getElem?_eq_getElem hlt) (fun e he hb=>by
    have:=Array.all_eq_true'.1 h3 e he
    simpa [hb]using this) hLf hs hI)
   rw [Array.setIfInBounds,dif_pos (by omega:i<L.size),Array.count_set]
   rw [hL]
   simp
   omega
theorem wpOp_in{P:Program}{ops:Array Oper}{Q:Exit→Act→World→Prop}{i:Nat}{o:Oper}{K:Act→World→Prop}{a:Act}{w:World}(ho:ops[i]? =some o)(hg:o.guard=none)(h:o.wp P a w K Q):wpOp P ops Q i K a w:=by
 unfold wpOp
 rw [ho]
 simp only [Region.wanted,hg,if_true]
 exact .inl h
theorem region_inv{P:Program}{id:Nat}{ops:Array Oper}{Q:Exit→Act→World→Prop}{a:Act}{w:World}(hm:P.follows .mixedOrders=true)(I:Array Bool→Act→World→Prop)(low:Low ops=true)
 (start:I (Array.replicate ops.size false) a w.drew)
 (step:∀i o L a w,ops[i]? =some o→(∀e∈o.after,Region.binds .any e=true→L.getD e.on false=true)→L.getD i false=false→L.size=ops.size→I L a w→wpOp P ops Q i (I (L.setIfInBounds i true)) a w)
 (fin:∀L a w,(∀i,i<ops.size→L.getD i false=true)→I L a w→Q .normal a w):(Code.region id ops true).wp P Q a w:=
 wp_region_any hm (any_inv I low step fin _ _ _ _ (by simp) (by simp [Array.count_replicate]) start)
theorem eval_put_self{a:Act}{d:Nat}{v:Value}(h:d<a.tmps.size):(a.put (some d) v).eval (.tmp d)=v:=by simp [Act.put,Act.eval,Array.getD,h]
theorem eval_put_ne{a:Act}{d t:Nat}{v:Value}(h:d≠t):(a.put (some d) v).eval (.tmp t)=a.eval (.tmp t):=by
 simp only [Act.put,Act.eval,Array.getD_eq_getD_getElem?,Array.getElem?_setIfInBounds_ne h]
theorem put_size(a:Act)(d:Option Nat)(v:Value):(a.put d v).tmps.size=a.tmps.size:=by cases d<;>simp [Act.put]
theorem getD_set{L:Array Bool}{i j:Nat}(h:i<L.size):(L.setIfInBounds i true).getD j false=if i=j then true else L.getD j false:=by
 by_cases e:i=j
 ·subst e;rw [if_pos rfl,getD_set_self h]
 ·rw [if_neg e,getD_set_ne e]
theorem eval_put{a:Act}{d t:Nat}{v:Value}(h:d<a.tmps.size):(a.put (some d) v).eval (.tmp t)=if d=t then v else a.eval (.tmp t):=by
 by_cases e:d=t
 ·subst e;rw [if_pos rfl,eval_put_self h]
 ·rw [if_neg e,eval_put_ne e]
def Slots(T:List (Nat×Nat×Value))(L:Array Bool)(a:Act):Prop:=∀q∈T,L.getD q.1 false=true→a.eval (.tmp q.2.1)=q.2.2
theorem Slots.put{T:List (Nat×Nat×Value)}{L:Array Bool}{a:Act}(h:Slots T L a){i d:Nat}{v:Value}(hi:i<L.size)(hd:d<a.tmps.size)(hu:∀q∈T,(q.1=i→q.2=(d,v))∧(q.2.1=d→q.1=i)):Slots T (L.setIfInBounds i true) (a.put (some d) v):=by
 intro q hq hL
 rw [eval_put hd]
 obtain⟨h1,h2⟩:=hu q hq
 by_cases e:q.2.1=d
 ·rw [if_pos e.symm]
  have:=h1 (h2 e)
  rw [this]
 ·rw [if_neg (fun h=>e h.symm)]
  rw [getD_set hi]at hL
  by_cases ei:i=q.1
  ·exact absurd (by rw [h1 ei.symm]) e
  ·rw [if_neg ei]at hL
   exact h q hq hL
theorem Slots.none{T:List (Nat×Nat×Value)}{L:Array Bool}{a:Act}(h:Slots T L a){i:Nat}{v:Value}(hi:i<L.size)(hu:∀q∈T,q.1≠i):Slots T (L.setIfInBounds i true) (a.put none v):=by
 intro q hq hL
 rw [getD_set_ne (fun e=>hu q hq e.symm)]at hL
 exact h q hq hL
def fixT(k:Int):List (Nat×Nat×Value):=[(18,5,.int .i64 k),(19,6,.int .i64 ((sizeL.lookup k).getD 0)),(20,7,.int .i64 k),(21,8,.int .i64 (bsz k)),(22,9,.int .i64 (fixedV k)),(23,2,.int .i64 (fixedV k))]
structure FixI(w0:World)(k:Int)(L:Array Bool)(a:Act)(w:World):Prop where
 df:a.defers=[]
 sz:a.tmps.size=10
 t0:a.eval (.tmp 0)=.int .i64 k
 nw:New w0 w
 mp:L.getD 0 false=true→∃m l,a.eval (.tmp 3)=.map (some m)∧w0.heap.size≤m∧IntMap w m l∧(∀p,p∈l↔∃j,sizeL[j]? =some p∧L.getD (j+1) false=true)∧(L.getD 17 false=true→a.eval (.tmp 4)=.map (some m))
 cl:∀i,1≤i→i≤17→L.getD i false=true→L.getD 0 false=true
 c17:L.getD 17 false=true→∀j,j≤16→L.getD j false=true
 sl:Slots (fixT k) L a
theorem IntMap.keep{w w':World}{m:Nat}{l:List (Int×Int)}(h:IntMap w m l)(k:New w w'):IntMap w' m l:=let ⟨es,c,h1,h2⟩:=h;⟨es,c,k.blk h1 trivial,h2⟩
theorem FixI.calm{w0 w w':World}{k:Int}{L:Array Bool}{a:Act}(h:FixI w0 k L a w){i d:Nat}{v:Value}(hs:L.size=24)(hn:New w w')(hi:18≤i)(hi':i<24)(hd:d<10)(h0:d≠0)(h3:d≠3)(h4:d≠4)(hu:∀q∈fixT k,(q.1=i→q.2=(d,v))∧(q.2.1=d→q.1=i)):FixI w0 k (L.setIfInBounds i true) (a.put (some d) v) w':=by
 refine⟨h.df,by rw [put_size];exact h.sz,by rw [eval_put_ne h0];exact h.t0,h.nw.trans hn,fun hL=>?_,fun j h1 h2 hL=>?_,fun hL j hj=>?_,h.sl.put (by omega) (by rw [h.sz];exact hd) hu⟩
 ·rw [getD_set_ne (by omega)]at hL
  obtain⟨m,l,e1,e2,e3,e4,e5⟩:=h.mp hL
  refine⟨m,l,by rw [eval_put_ne h3];exact e1,e2,e3.keep hn,fun p=>?_,fun hL=>?_⟩
  ·rw [e4]
   constructor
   ·rintro⟨j,hj,hL⟩
    have:j<16:=by have:=(List.getElem?_eq_some_iff.1 hj).1;simpa [sizeL]using this
    exact⟨j,hj,by rw [getD_set_ne (by omega)];exact hL⟩
   ·rintro⟨j,hj,hL⟩
    have:j<16:=by have:=(List.getElem?_eq_some_iff.1 hj).1;simpa [sizeL]using this
    exact⟨j,hj,by rw [getD_set_ne (by omega)]at hL;exact hL⟩
  ·rw [eval_put_ne h4]
   exact e5 (by rw [getD_set_ne (by omega)]at hL;exact hL)
 ·rw [getD_set_ne (by omega)]at hL ⊢
  exact h.cl j h1 h2 hL
 ·rw [getD_set_ne (by omega)]at hL ⊢
  exact h.c17 hL j hj
theorem FixI.make{w0 w:World}{k:Int}{L:Array Bool}{a:Act}(h:FixI w0 k L a w)(hs:L.size=24)(h0:L.getD 0 false=false):FixI w0 k (L.setIfInBounds 0 true) (a.put (some 3) (.map (some w.heap.size))) (w.alloc (.map #[] 0)):=by
 have hno:∀i,1≤i→i≤17→L.getD i false=false:=fun i h1 h2=>by
  cases e:L.getD i false with
  | false=>rfl
  | true=>rw [h.cl i h1 h2 e]at h0;cases h0
 refine⟨h.df,by rw [put_size];exact h.sz,by rw [eval_put_ne (by decide)];exact h.t0,h.nw.alloc _,fun hL=>?_,fun j h1 h2 hL=>?_,fun hL j hj=>?_,h.sl.put (by omega) (by rw [h.sz];decide) ?_⟩
 ·refine⟨_,[],eval_put_self (by rw [h.sz];decide),h.nw.size,IntMap.new w,fun p=>?_,fun hL=>?_⟩
  ·constructor
   ·intro h;cases h
   ·rintro⟨j,hj,hL⟩
    have:j<16:=by have:=(List.getElem?_eq_some_iff.1 hj).1;simpa [sizeL]using this
    rw [getD_set_ne (by omega),hno _ (by omega) (by omega)]at hL
    cases hL
  ·rw [getD_set_ne (by omega),hno _ (by omega) (by omega)]at hL
   cases hL
 ·exact getD_set_self (by omega)
 ·rw [getD_set_ne (by omega),hno _ (by omega) (by omega)]at hL
  cases hL
 ·unfold fixT
  simp
theorem sizeL_key{i j:Nat}{p q:Int×Int}(hi:sizeL[i]? =some p)(hj:sizeL[j]? =some q)(h:p.1=q.1):i=j:=by
 have h1:i<16:=by have:=(List.getElem?_eq_some_iff.1 hi).1;simpa [sizeL]using this
 have h2:j<16:=by have:=(List.getElem?_eq_some_iff.1 hj).1;simpa [sizeL]using this
 have key:∀i:Fin 16,∀j:Fin 16,(sizeL[i.1]?).map (·.1)=(sizeL[j.1]?).map (·.1)→i=j:=by decide
 have:=key ⟨i,h1⟩ ⟨j,h2⟩ (by rw [hi,hj];simp [h])
 exact congrArg Fin.val this
theorem lookup_none_of{l:List (Int×Int)}{k:Int}(h:∀p∈l,p.1≠k):l.lookup k=none:=by
 induction l with
 | nil=>rfl
 | cons q l ih=>
   have hb:(k==q.1)=false:=by simpa using fun e=>h q (List.mem_cons_self) e.symm
   obtain⟨x,y⟩:=q
   simp only [List.lookup,hb]
   exact ih fun p hp=>h p (List.mem_cons_of_mem _ hp)
theorem lookup_mem{l:List (Int×Int)}{k v:Int}(h:l.lookup k=some v):(k,v)∈l:=by
 induction l with
 | nil=>cases h
 | cons q l ih=>
   obtain⟨x,y⟩:=q
   by_cases e:k=x
   ·subst e
    simp [List.lookup]at h
    subst h
    exact List.mem_cons_self
   ·have hb:(k==x)=false:=by simpa using e
    simp only [List.lookup,hb]at h
    exact List.mem_cons_of_mem _ (ih h)
theorem lookup_same{l l':List (Int×Int)}(hm:∀p,p∈l↔p∈l')(hf:∀p∈l',∀q∈l',p.1=q.1→p=q)(k:Int):l.lookup k=l'.lookup k:=by
 cases h:l.lookup k with
 | none=>
   symm
   refine lookup_none_of fun p hp e=>?_
   have hp':=(hm p).2 hp
   clear hm hf
   induction l with
   | nil=>cases hp'
   | cons q l ih=>
     obtain⟨x,y⟩:=q
     by_cases e':k=x
     ·subst e';simp [List.lookup]at h
     ·have hb:(k==x)=false:=by simpa using e'
      simp only [List.lookup,hb]at h
      rcases List.mem_cons.1 hp' with rfl | h'
      ·exact e' e.symm
      ·exact ih h h'
 | some v=>
   have h1:=(hm _).1 (lookup_mem h)
   cases h':l'.lookup k with
   | some v'=>
     have:=hf _ h1 _ (lookup_mem h') rfl
     simp at this
     rw [this]
   | none=>
     exfalso
     clear hm hf h
     induction l' with
     | nil=>cases h1
     | cons q l ih=>
       obtain⟨x,y⟩:=q
       by_cases e':k=x
       ·subst e';simp [List.lookup]at h'
       ·have hb:(k==x)=false:=by simpa using e'
        simp only [List.lookup,hb]at h'
        rcases List.mem_cons.1 h1 with h | h
        ·exact e' (congrArg Prod.fst h)
        ·exact ih h h'
theorem FixI.ins{w0 w:World}{k:Int}{L:Array Bool}{a:Act}(h:FixI w0 k L a w)(hs:L.size=24){j:Nat}{kk vv:Int}(hj:sizeL[j]? =some (kk,vv))(h0:L.getD 0 false=true)(hL:L.getD (j+1) false=false):
 ∃m w',a.eval (.tmp 3)=.map (some m)∧(Instr.mapUpdate 294 (.map (some m)) (.int .i64 kk) (.int .i64 vv)).run Tryz.prog w=.ok () w'∧FixI w0 k (L.setIfInBounds (j+1) true) (a.put none undef) w':=by
 obtain⟨m,l,e1,e2,e3,e4,e5⟩:=h.mp h0
 have hj16:j<16:=by have:=(List.getElem?_eq_some_iff.1 hj).1;simpa [sizeL]using this
 have hno:l.lookup kk=none:=lookup_none_of fun p hp e=>by
  obtain⟨i,hi,hi'⟩:=(e4 p).1 hp
  have:=sizeL_key hi hj e
  subst this
  rw [hL]at hi'
  cases hi'
 obtain⟨w',h1,h2,h3⟩:=e3.upd kk vv hno
 refine⟨m,w',e1,h1,h.df,h.sz,h.t0,h.nw.then h3 (fun i hi _=>by show i≠m;omega),fun _=>⟨m,_,e1,e2,h2,fun p=>?_,fun hL'=>?_⟩,fun i h1 h2 _=>?_,fun hL' i hi=>?_,h.sl.none (by omega) ?_⟩
 ·rw [List.mem_append,e4]
  constructor
  ·rintro(⟨i,hi,hi'⟩ | hp)
   ·refine⟨i,hi,?_⟩
    rw [getD_set (by omega)]
    split<;>first | rfl | exact hi'
   ·rw [List.mem_singleton]at hp
    subst hp
    exact⟨j,hj,getD_set_self (by omega)⟩
  ·rintro⟨i,hi,hi'⟩
   by_cases e:j=i
   ·subst e
    rw [hj]at hi
    exact .inr (by simp at hi;simp [hi])
   ·rw [getD_set_ne (by omega)]at hi'
    exact .inl ⟨i,hi,hi'⟩
 ·rw [getD_set_ne (by omega)]at hL'
  exact e5 hL'
 ·rw [getD_set_ne (by omega)]
  exact h0
 ·rw [getD_set_ne (by omega)]at hL'
  have:=h.c17 hL' (j+1) (by omega)
  rw [this]at hL
  cases hL
 ·unfold fixT
  simp
  omega
theorem FixI.move{w0 w:World}{k:Int}{L:Array Bool}{a:Act}(h:FixI w0 k L a w)(hs:L.size=24)(hall:∀j,j≤16→L.getD j false=true):FixI w0 k (L.setIfInBounds 17 true) (a.put (some 4) (a.eval (.tmp 3))) w:=by
 obtain⟨m,l,e1,e2,e3,e4,e5⟩:=h.mp (hall 0 (by decide))
 refine⟨h.df,by rw [put_size];exact h.sz,by rw [eval_put_ne (by decide)];exact h.t0,h.nw,fun _=>⟨m,l,by rw [eval_put_ne (by decide)];exact e1,e2,e3,fun p=>?_,fun _=>by rw [eval_put_self (by rw [h.sz];decide)];exact e1⟩,fun i h1 h2 _=>by rw [getD_set_ne (by decide)];exact hall 0 (by decide),fun _ j hj=>by rw [getD_set_ne (by omega)];exact hall j hj,h.sl.put (by omega) (by rw [h.sz];decide) (by unfold fixT;simp)⟩
 rw [e4]
 constructor
 ·rintro⟨j,hj,hL⟩
  have:j<16:=by have:=(List.getElem?_eq_some_iff.1 hj).1;simpa [sizeL]using this
  exact⟨j,hj,by rw [getD_set_ne (by omega)];exact hL⟩
 ·rintro⟨j,hj,hL⟩
  have:j<16:=by have:=(List.getElem?_eq_some_iff.1 hj).1;simpa [sizeL]using this
  exact⟨j,hj,by rw [getD_set_ne (by omega)]at hL;exact hL⟩
theorem FixI.look{w0 w:World}{k:Int}{L:Array Bool}{a:Act}(h:FixI w0 k L a w)(h17:L.getD 17 false=true):∃m,a.eval (.tmp 4)=.map (some m)∧(Instr.lookup 294 (.map (some m)) (.int .i64 k) false).run Tryz.prog w=.ok (.int .i64 ((sizeL.lookup k).getD 0)) w:=by
 obtain⟨m,l,e1,e2,e3,e4,e5⟩:=h.mp (h.c17 h17 0 (by decide))
 refine⟨m,e5 h17,?_⟩
 rw [e3.look k,lookup_same (l':=sizeL) (fun p=>?_) (by decide) k]
 rw [e4]
 constructor
 ·rintro⟨j,hj,_⟩
  exact List.mem_iff_getElem?.2 ⟨j,hj⟩
 ·intro hp
  obtain⟨j,hj⟩:=List.mem_iff_getElem?.1 hp
  have:j<16:=by have:=(List.getElem?_eq_some_iff.1 hj).1;simpa [sizeL]using this
  exact⟨j,hj,h.c17 h17 _ (by omega)⟩
end Go.Proofs.YtfoegolfadhmjaaGreatDoor
