/- A begin that came in, out of how it reads. -/
import Derived.Test.YtfoegolfadhmjaaGreatDoorZ48
import Derived.Lib.LaidU8T
set_option linter.all false
set_option maxRecDepth 100000
set_option maxHeartbeats 4000000
namespace Go.Proofs.YtfoegolfadhmjaaGreatDoor
open Go.RowKit Go.WideShapes Go.ChangeShapes Go.Lib
theorem vld_of{W:World}(h1:VarReads Tryz.prog W "unicode/utf8.first" firstData)(h2:VarReads Tryz.prog W "unicode/utf8.acceptRanges" acceptData):Vld W:=by
 have hT:Utf8Tabs 1 2 W:=Go.Proofs.utf8Tabs_of_readsT (U8Types.of196 Tryz.lays196) ⟨by kernel_rfl,by kernel_rfl,by kernel_rfl,by kernel_rfl,by kernel_rfl,by kernel_rfl,by kernel_rfl⟩ h1 h2
 intro w1 k t ht
 have hT1:Utf8Tabs 1 2 w1:=⟨fun c hc=>k.cell (hT.1 c hc) (cell_lt (hT.1 c hc)),fun i hi=>⟨k.cell (hT.2 i hi).1 (cell_lt (hT.2 i hi).1),k.cell (hT.2 i hi).2 (cell_lt (hT.2 i hi).2)⟩⟩
 refine(Tryz.valid_is ⟨t.toArray⟩ w1 (by show t.toArray.size≤_;simp;omega) hT1).mono ?_
 rintro e w' ⟨rfl,b⟩
 exact⟨by simp,Keep.of_below b⟩
section
variable {H:Type} {enc:TypeId×Value→H} {w:World} {sp:Nat→Bool} {held:Bool}
theorem trod_bytes{fuel:Nat}{c:Value}{x:DataW H×List MemPlace}(h:DataW.trod enc Tryz.prog w 0 sp held fuel 27 [c]=some x):∃l,SlC w c l:=by
 rcases DataW.trod_slice Tryz.underlying27 h with⟨e,-⟩ | ⟨a,len,cap,elems,rest,n',hn',e,-,-,hl,hm,hlen,hel,-⟩
 ·cases e
  exact⟨[],none,0,rfl,Nat.le_refl _,by omega,fun h=>absurd rfl h⟩
 ·cases e
  rw [show Tryz.prog.cellsOf 5=1 by kernel_rfl]at hel
  have key:∀j,j≤len→∃l:List UInt8,l.length=j∧∀q (hq:q<l.length),w.cell? (a.add q)=some (.int .u8 (l[q].toNat:Int)):=by
   intro j
   induction j with
   | zero=>intro _;exact⟨[],rfl,fun q hq=>absurd hq (by simp)⟩
   | succ j ih=>
     intro hj
     obtain⟨l,e1,e2⟩:=ih (by omega)
     have hE:=hel j (by omega)
     rw [List.getElem?_eq_getElem (show j<elems.length by omega),Option.bind_eq_some_iff]at hE
     obtain⟨cj,hc,ht⟩:=hE
     obtain⟨-,hc1,hc2⟩:=World.cells?_some hc
     obtain⟨z,rfl,hz⟩:=trod_int1 Tryz.underlying5 ht
     have hz':0≤z∧z<256:=by
      simp only [Lit.wf,decide_eq_true_eq,Bool.and_eq_true]at hz
      have u1:IntKind.u8.min=0:=by decide
      have u2:IntKind.u8.max=255:=by decide
      omega
     obtain⟨m,rfl⟩:=Int.eq_ofNat_of_zero_le hz'.1
     refine⟨l++[UInt8.ofNat m],by simp [e1],fun q hq=>?_⟩
     rw [List.length_append,List.length_singleton]at hq
     by_cases hlt:q<l.length
     ·rw [e2 q hlt,List.getElem_append_left hlt]
     ·obtain rfl:q=l.length:=by omega
      have h0:=hc2 0 (by omega)
      rw [Nat.mul_one]at h0
      have ha:((a.add j).add 0)=a.add j:=rfl
      rw [ha,←e1]at h0
      have h1:(l++[UInt8.ofNat m])[l.length]'(by simp)=UInt8.ofNat m:=by simp
      have h2:(UInt8.ofNat m).toNat=m:=by simp;omega
      rw [h1,h2,h0]
      rfl
  obtain⟨l,rfl,e2⟩:=key len (Nat.le_refl _)
  refine⟨l,some a,cap,rfl,hl,by unfold maxLen at hm;omega,fun hne=>?_⟩
  have hs:a.spot=none:=by
   have h0:=e2 0 (List.length_pos_iff.2 hne)
   unfold World.cell? at h0
   have ha:a.add 0=a:=rfl
   rw [ha]at h0
   split at h0
   ·cases hsp:a.spot with
    | none=>rfl
    | some u=>rw [hsp]at h0;simp at h0
   ·cases h0
  obtain⟨d,i,s⟩:=a
  cases hs
  exact⟨d,i,rfl,fun q hq=>by rw [←plain_add];exact e2 q hq⟩
end
section
variable {H:Type} {enc:TypeId×Value→H} {w:World} {sp:Nat→Bool} {held:Bool}
theorem trod_slF{α:Type}{F:α→Value}{p:α→Prop}{t et:TypeId}(hu:Tryz.prog.underlying t=some (.slice et))(h1:Tryz.prog.cellsOf et=1)(he:∀(fuel:Nat) (c:Value) (x:DataW H×List MemPlace),DataW.trod enc Tryz.prog w 0 sp held fuel et [c]=some x→∃a,c=F a∧p a)
 {fuel:Nat} {c:Value} {x:DataW H×List MemPlace} (h:DataW.trod enc Tryz.prog w 0 sp held fuel t [c]=some x):∃l,SlF F w l c∧∀a∈l,p a:=by
 rcases DataW.trod_slice hu h with⟨e,-⟩ | ⟨a,len,cap,elems,rest,n',hn',e,-,-,hl,hm,hlen,hel,-⟩
 ·cases e
  exact⟨[],SlF.nil,by simp⟩
 ·cases e
  rw [h1]at hel
  have key:∀j,j≤len→∃l:List α,l.length=j∧(∀a∈l,p a)∧∀q (hq:q<l.length),w.cell? (a.add q)=some (F l[q]):=by
   intro j
   induction j with
   | zero=>intro _;exact⟨[],rfl,by simp,fun q hq=>absurd hq (by simp)⟩
   | succ j ih=>
     intro hj
     obtain⟨l,e1,e2,e3⟩:=ih (by omega)
     have hE:=hel j (by omega)
     rw [List.getElem?_eq_getElem (show j<elems.length by omega),Option.bind_eq_some_iff]at hE
     obtain⟨cj,hc,ht⟩:=hE
     obtain⟨-,hc1,hc2⟩:=World.cells?_some hc
     match cj,hc1 with
     | [c0],_=>
       obtain⟨y,rfl,hy⟩:=he _ _ _ ht
       refine⟨l++[y],by simp [e1],fun b hb=>?_,fun q hq=>?_⟩
       ·rcases List.mem_append.1 hb with hb | hb
        ·exact e2 b hb
        ·rw [List.mem_singleton.1 hb]
         exact hy
       ·rw [List.length_append,List.length_singleton]at hq
        by_cases hlt:q<l.length
        ·rw [List.getElem_append_left hlt]
         exact e3 q hlt
        ·obtain rfl:q=l.length:=by omega
         have h2:=hc2 0 (by omega)
         rw [Nat.mul_one,←e1]at h2
         rw [List.getElem_append_right (by omega)]
         simpa [Addr.add]using h2
  obtain⟨l,rfl,e2,e3⟩:=key len (Nat.le_refl _)
  refine⟨l,⟨some a,cap,rfl,hl,by unfold maxLen at hm;omega,fun hne=>?_⟩,e2⟩
  have hs:a.spot=none:=by
   have h0:=e3 0 (List.length_pos_iff.2 hne)
   unfold World.cell? at h0
   have ha:a.add 0=a:=rfl
   rw [ha]at h0
   split at h0
   ·cases hsp:a.spot with
    | none=>rfl
    | some u=>rw [hsp]at h0;simp at h0
   ·cases h0
  obtain⟨d,i,s⟩:=a
  cases hs
  exact⟨d,i,rfl,fun q hq=>by rw [←plain_add];exact e3 q hq⟩
theorem trod_u32{fuel:Nat}{c:Value}{x:DataW H×List MemPlace}(h:DataW.trod enc Tryz.prog w 0 sp held fuel 22 [c]=some x):∃n:Nat,c=.int .u32 (n:Int)∧n<4294967296:=by
 obtain⟨z,e,hz⟩:=trod_int1 Tryz.underlying22 h
 have hz':0≤z∧z<4294967296:=by
  simp only [Lit.wf,decide_eq_true_eq,Bool.and_eq_true]at hz
  have u1:IntKind.u32.min=0:=by decide
  have u2:IntKind.u32.max=4294967295:=by decide
  omega
 obtain⟨m,rfl⟩:=Int.eq_ofNat_of_zero_le hz'.1
 cases e
 exact⟨m,rfl,by omega⟩
theorem trod_u16s{fuel:Nat}{c:Value}{x:DataW H×List MemPlace}(h:DataW.trod enc Tryz.prog w 0 sp held fuel 51 [c]=some x):∃l:List Nat,U16s w l c∧∀n∈l,n<65536:=by
 refine trod_slF (p:=fun n:Nat=>n<65536) Tryz.underlying51 (by kernel_rfl) (fun fuel c x h=>?_) h
 obtain⟨z,e,hz⟩:=trod_int1 Tryz.underlying117 h
 have hz':0≤z∧z<65536:=by
  simp only [Lit.wf,decide_eq_true_eq,Bool.and_eq_true]at hz
  have u1:IntKind.u16.min=0:=by decide
  have u2:IntKind.u16.max=65535:=by decide
  omega
 obtain⟨m,rfl⟩:=Int.eq_ofNat_of_zero_le hz'.1
 cases e
 exact⟨m,rfl,by omega⟩
theorem trod_strs{fuel:Nat}{c:Value}{x:DataW H×List MemPlace}(h:DataW.trod enc Tryz.prog w 0 sp held fuel 52 [c]=some x):∃l:List (List UInt8),Strs w l c:=by
 obtain⟨l,h1,-⟩:=trod_slF (F:=fun t:List UInt8=>.string ⟨t.toArray⟩) (p:=fun _=>True) Tryz.underlying52 (by kernel_rfl) (fun fuel c x h=>by
  obtain⟨s,e,-,-⟩:=DataW.trod_string Tryz.underlying9 h
  cases e
  exact⟨s.data.toList,by cases s;simp,trivial⟩) h
 exact⟨l,h1⟩
theorem under54:fieldsOf (Tryz.prog.underlying 54)=some [(51,0),(22,1),(22,2),(22,3),(22,4),(52,5),(52,6),(43,7)]:=by kernel_rfl
theorem trod_begin{fuel:Nat}{cs:List Value}{x:DataW H×List MemPlace}(h:DataW.trod enc Tryz.prog w 0 sp held fuel 54 cs=some x):∃(G:Beg) (sr so sd sp:Value),BegN G∧cs=[sr,.int .u32 (G.no:Int),.int .u32 (G.iw:Int),.int .u32 (G.ow:Int),.int .u32 (G.hm:Int),so,sd,sp]∧U16s w G.rem sr∧Strs w G.off so∧Strs w G.des sd∧LM w G.props sp:=by
 obtain⟨n,rfl,hl,hf⟩:=trod_fields under54 h
 rw [show Tryz.prog.cellsOf 54=8 by kernel_rfl]at hl
 obtain⟨y0,h0⟩:=hf 0 _ rfl
 obtain⟨y1,h1⟩:=hf 1 _ rfl
 obtain⟨y2,h2⟩:=hf 2 _ rfl
 obtain⟨y3,h3⟩:=hf 3 _ rfl
 obtain⟨y4,h4⟩:=hf 4 _ rfl
 obtain⟨y5,h5⟩:=hf 5 _ rfl
 obtain⟨y6,h6⟩:=hf 6 _ rfl
 obtain⟨y7,h7⟩:=hf 7 _ rfl
 match cs,hl with
 | [c0,c1,c2,c3,c4,c5,c6,c7],_=>
   rw [show Tryz.prog.cellsOf 51=1 by kernel_rfl]at h0
   rw [show Tryz.prog.cellsOf 22=1 by kernel_rfl]at h1 h2 h3 h4
   rw [show Tryz.prog.cellsOf 52=1 by kernel_rfl]at h5 h6
   rw [show Tryz.prog.cellsOf 43=1 by kernel_rfl]at h7
   simp only [List.drop_zero,List.drop_succ_cons,List.take_succ_cons,List.take_zero]at h0 h1 h2 h3 h4 h5 h6 h7
   obtain⟨rem,q0,q1⟩:=trod_u16s h0
   obtain⟨no,rfl,hno⟩:=trod_u32 h1
   obtain⟨iw,rfl,hiw⟩:=trod_u32 h2
   obtain⟨ow,rfl,how⟩:=trod_u32 h3
   obtain⟨hm,rfl,hhm⟩:=trod_u32 h4
   obtain⟨off,q5⟩:=trod_strs h5
   obtain⟨des,q6⟩:=trod_strs h6
   obtain⟨props,cells,q7,q8⟩:=(trod_both n).2 h7
   exact⟨⟨rem,no,iw,ow,hm,off,des,props⟩,c0,c5,c6,c7,⟨q1,hno,hiw,how,hhm⟩,rfl,q0,q5,q6,⟨cells,q7,q8⟩⟩
end
end Go.Proofs.YtfoegolfadhmjaaGreatDoor
