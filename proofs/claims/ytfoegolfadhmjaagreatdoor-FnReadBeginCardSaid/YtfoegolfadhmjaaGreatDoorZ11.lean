/- UnmarshalComposite, for whatever fields. -/
import Derived.Test.YtfoegolfadhmjaaGreatDoorZ04
import Derived.Laws.EntriesVeiled
set_option linter.all false
set_option maxRecDepth 100000
set_option maxHeartbeats 4000000
namespace Go.Proofs.YtfoegolfadhmjaaGreatDoor
open Go.RowKit Go.WideShapes
theorem neq_nilFunc(w:World):(binOp BinOp.neq 128 .nilFunc .nilFunc).run Tryz.prog w=.ok (.bool false) w:=by kernel_rfl
theorem neq_func(k:FuncId)(C:Array Value)(w:World):(binOp BinOp.neq 128 (.func (.func k) #[] C) .nilFunc).run Tryz.prog w=.ok (.bool true) w:=by kernel_rfl
attribute [local go_sem] neq_nilFunc neq_func
def FieldStep(g:Nat)(T:TypeId)(p f:Value)(b rem:List UInt8)(w:World)(Q:World→Prop):Prop:=
 b=[64]∧(∀w',Adv g rem w w'→f=.nilFunc∧Q w'∨∃v,f=.func (.func 74) #[] #[v]∧Calls Tryz.prog 74 #[v] w' fun e w2=>e=.returned .nilIface∧Q w2)∨
 ∃b0 b',b=b0::b'∧b0≠64∧∀w',Adv g (b++rem) w w'→Calls Tryz.prog 80 #[.pointer (some ⟨g,0,none⟩),.iface T p] w' fun e w2=>e=.returned .nilIface∧Q w2
theorem composite_is(g c n nf s:Nat)(od:Int)(d lb r:List UInt8)(bs:List (List UInt8))(hc:c<256)(hd:Leaf (.mk 5 c [] [] od []) d)(Hh:LHd n bs.flatten lb)(hbn:bs.length=n)(hnn:n≤nf)(hnf:nf≤100)(hlen:n≤bs.flatten.length)
 (T:Nat→TypeId) (p f:Nat→Value) (hf:∀i,i<nf→f i=.nilFunc∨∃k C,f i=.func (.func k) #[] C)
 (P:Nat→List UInt8→World→Prop)
 (hF:∀j rem w,P j rem w→Buf w g rem∧∀i,i<nf→w.cell? ⟨s,i*2,none⟩=some (.iface (T i) (p i))∧w.cell? ⟨s,i*2+1,none⟩=some (f i))
 (hK:∀j rem w w',P j rem w→New w w'→P j rem w')
 (hstep:∀j (hj:j<bs.length) rem w,P j (bs[j]++rem) w→FieldStep g (T j) (p j) (f j) bs[j] rem w (P (j+1) rem))
 (hend:∀j w,n≤j→j<nf→P j r w→f j=.nilFunc∧P (j+1) r w∨∃v,f j=.func (.func 74) #[] #[v]∧Calls Tryz.prog 74 #[v] w fun e w2=>e=.returned .nilIface∧P (j+1) r w2)
 (w:World) (H:Buf w g (0::(d++(lb++(bs.flatten++r))))) (hstart:∀w',Adv g (bs.flatten++r) w w'→P 0 (bs.flatten++r) w'):
 Calls Tryz.prog 54 #[.pointer (some ⟨g,0,none⟩),.int .u8 (c:Int),.slice (some ⟨s,0,none⟩) nf nf] w fun e w'=>e=.returned .nilIface∧P nf r w':=by
 have t1:decide (nf<n)=false:=by simp;omega
 have HS:=Lib.hid hstep
 have HE:=Lib.hid hend
 have HF:=Lib.hid hF
 have HK:=Lib.hid hK
 have ST:=Lib.hid hstart
 have HFF:=Lib.hid hf
 have HD:=Lib.hid hd
 have HB:=Lib.hid hbn
 have HL:=Lib.hid Hh
 clear hstep hend hF hK hstart hf hd hbn Hh
 go_enter Tryz.func54,Tryz.ntmps54
 go_wp2_with fail
 refine(compHead g c n od d lb bs.flatten r hc HD.out HL.out hlen (by omega) _ H).mono ?_
 rintro e w1 ⟨rfl,h1⟩
 have hP0:=ST.out w1 h1
 go_wp2_with fail
 go_loopg [36] n (fun k s36 wr=>∃j:Nat,j+k=n∧s36=.int .i64 (j:Int)∧P j ((bs.drop j).flatten++r) wr)
 case atStart=>exact⟨0,by omega,rfl,hP0⟩
 case round=>
  obtain⟨j,hj,rfl,hP⟩:=hrel
  rcases gk with _ | k
  ·obtain rfl:j=n:=by omega
   rw [←HB.out,List.drop_length,List.flatten_nil,List.nil_append,HB.out]at hP
   by_cases hnj:nf=j
   ·subst hnj
    go_wp2_with fail
    go_loopg [63] 0 (fun k s63 wr=>k=0∧s63=.int .i64 (0:Int)∧P nf r wr)
    case atStart=>exact⟨rfl,rfl,hP⟩
    case round=>
     obtain⟨rfl,rfl,hQ⟩:=hrel
     go_wp2
     go_ret
     exact⟨rfl,hQ⟩
   ·go_wp2_with fail
    go_loopg [63] (nf-j) (fun k s63 wr=>∃i:Nat,i+k=nf-j∧s63=.int .i64 (i:Int)∧P (j+i) r wr)
    case atStart=>exact⟨0,by omega,rfl,hP⟩
    case round=>
     obtain⟨i,hi,rfl,hQ⟩:=hrel
     rcases gk with _ | k
     ·obtain rfl:i=nf-j:=by omega
      rw [show j+(nf-j)=nf by omega]at hQ
      go_wp2
      go_ret
      exact⟨rfl,hQ⟩
     ·have ti:decide (i<nf-j)=true:=by simp;omega
      have ti2:i<nf-j:=by omega
      have hc:=(HF.out _ _ _ hQ).2 (j+i) (by omega)
      rw [Nat.add_mul]at hc
      obtain⟨c0,c1⟩:=hc
      have hal:∀o,P (j+i) r (wr.alloc o):=fun o=>HK.out _ _ _ _ hQ ((Keep.refl _ _).alloc o)
      have hff:=HFF.out (j+i) (by omega)
      obtain⟨fv,hfv⟩:∃fv,fv=f (j+i):=⟨_,rfl⟩
      rw [←hfv]at c1 hff
      have hex:=HE.out (j+i) (wr.alloc (.cells #[.iface (T (j+i)) (p (j+i)),fv] 130)) (by omega) (by omega) (hal _)
      rw [←hfv]at hex
      have HX:=Lib.hid hex
      clear hex hfv hal
      rcases hff with rfl | ⟨kk,C,rfl⟩
      ·go_wp2
       go_roundg k
       case measure=>omega
       case rel=>
        refine⟨i+1,by omega,congrArg _ (by omega),?_⟩
        rcases HX.out with⟨_,h⟩ | ⟨v,h,_⟩
        ·exact h
        ·cases h
      ·have hk:kk=74:=by
        rcases HX.out with⟨h,_⟩ | ⟨v,h,_⟩
        ·cases h
        ·cases h;rfl
       subst hk
       go_wp2_with fail
       have hcall:=HX.out
       rcases hcall with⟨h,_⟩ | ⟨v,h,hcall⟩
       ·cases h
       ·cases h
        refine hcall.mono ?_
        rintro e w2 ⟨rfl,hP2⟩
        go_wp2
        go_roundg k
        case measure=>omega
        case rel=>exact⟨i+1,by omega,congrArg _ (by omega),hP2⟩
  ·have hjn:j<n:=by omega
   have tj:decide (j<n)=true:=by simpa using hjn
   have hjb:j<bs.length:=by rw [HB.out];exact hjn
   rw [List.drop_eq_getElem_cons hjb,List.flatten_cons,List.append_assoc]at hP
   obtain⟨rem,hrem⟩:∃rem,rem=(bs.drop (j+1)).flatten++r:=⟨_,rfl⟩
   rw [←hrem]at hP
   obtain⟨c0,c1⟩:=(HF.out _ _ _ hP).2 j (by omega)
   have hff:=HFF.out j (by omega)
   obtain⟨fv,hfv⟩:∃fv,fv=f j:=⟨_,rfl⟩
   rw [←hfv]at c1 hff
   have hal:=HK.out _ _ _ (wr.alloc (.cells #[.iface (T j) (p j),fv] 130)) hP ((Keep.refl _ _).alloc _)
   have hg:=(HF.out _ _ _ hP).1.lt
   have hB:=(HF.out _ _ _ hal).1
   have hst:=HS.out j hjb rem _ hal
   rw [←hfv]at hst
   have HR:=Lib.hid hrem
   clear hrem hfv hP
   have hnew:=blk_new wr (.cells #[.iface (T j) (p j),fv] 130)
   rcases hst with⟨hb,hst⟩ | ⟨b0,b',hb,hb0,hst⟩
   ·rw [hb]at hB
    have HX:=Lib.hid hst
    clear hst
    rcases hff with rfl | ⟨kk,C,rfl⟩
    ·go_wp2_with fail
     refine(tryReadNull_yes g rem _ hB).mono ?_
     rintro e w2 ⟨rfl,h2⟩
     have hn2:w2.heap[wr.heap.size]? =_:=h2.1.blk hnew (show wr.heap.size≠g by omega)
     have d1:=(blk_cell hn2 1).trans rfl
     go_wp2
     go_roundg k
     case measure=>omega
     case rel=>
      refine⟨j+1,by omega,congrArg _ (by omega),?_⟩
      rw [←HR.out]
      rcases HX.out w2 h2 with⟨_,h⟩ | ⟨v,h,_⟩
      ·exact h
      ·cases h
    ·go_wp2_with fail
     refine(tryReadNull_yes g rem _ hB).mono ?_
     rintro e w2 ⟨rfl,h2⟩
     have hn2:w2.heap[wr.heap.size]? =_:=h2.1.blk hnew (show wr.heap.size≠g by omega)
     have d1:=(blk_cell hn2 1).trans rfl
     have hx:=HX.out w2 h2
     rcases hx with⟨h,_⟩ | ⟨v,h,hcall⟩
     ·cases h
     ·cases h
      go_wp2_with fail
      refine hcall.mono ?_
      rintro e w3 ⟨rfl,hP3⟩
      go_wp2
      go_roundg k
      case measure=>omega
      case rel=>
       refine⟨j+1,by omega,congrArg _ (by omega),?_⟩
       rw [←HR.out]
       exact hP3
   ·rw [hb]at hB
    have HX:=Lib.hid hst
    clear hst
    have hfs:∃u,u=fv:=⟨_,rfl⟩
    rcases hff with rfl | ⟨kk,C,rfl⟩
    all_goals
     go_wp2_with fail
     refine(tryReadNull_no g b0 (b'++rem) _ hB hb0).mono ?_
     rintro e w2 ⟨rfl,h2⟩
     have hn2:w2.heap[wr.heap.size]? =_:=h2.1.blk hnew (show wr.heap.size≠g by omega)
     have d0:=(blk_cell hn2 0).trans rfl
     have hx:=HX.out w2 (by rw [hb];exact h2)
     go_wp2_with fail
     refine hx.mono ?_
     rintro e w3 ⟨rfl,hP3⟩
     go_wp2
     go_roundg k
     case measure=>omega
     case rel=>
      refine⟨j+1,by omega,congrArg _ (by omega),?_⟩
      rw [←HR.out]
      exact hP3
end Go.Proofs.YtfoegolfadhmjaaGreatDoor
