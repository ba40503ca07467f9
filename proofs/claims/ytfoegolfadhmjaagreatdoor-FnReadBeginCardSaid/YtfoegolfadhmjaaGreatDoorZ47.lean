/- MultiSymbol off the buffer. -/
import Derived.Test.YtfoegolfadhmjaaGreatDoorZ37
set_option linter.all false
set_option maxRecDepth 100000
set_option maxHeartbeats 4000000
namespace Go.Proofs.YtfoegolfadhmjaaGreatDoor
open Go.RowKit Go.WideShapes
def MOut(g:Nat)(p:Addr)(r:List UInt8)(ts:List (List UInt8))(w w':World):Prop:=
 ∃sl w1,w'=w1.setCell p sl∧Adv g r w w1∧Dep (fun k=>w.heap.size≤k) w1 (fun w=>Strs w ts sl)
theorem multi_one(g:Nat)(p:Addr)(hpg:p.block≠g)(t:List UInt8)(b0:UInt8)(b r:List UInt8)(hb:b0=163∨b0=179)(ht:ReadsT t (b0::b))(w:World)(u:Value)(hc:w.cell? p=some u)(hf:w.frozen? p=false)(B:Buf w g (b0::(b++r))):
 Calls Tryz.prog 355 #[.pointer (some p),.pointer (some ⟨g,0,none⟩)] w fun e w'=>e=.returned .nilIface∧MOut g p r [t] w w':=by
 have HT:=Lib.hid ht
 have HP:=Lib.hid hpg
 have hlt:=cell_lt hc
 clear ht hpg
 rcases hb with rfl | rfl
 all_goals
  go_enter Tryz.func355,Tryz.ntmps355
  go_wp2_with fail
  refine(peekType_is g _ _ _ B).mono ?_
  rintro e w1 ⟨rfl,h1⟩
  go_wp2_with fail
  refine(HT.out g r w1 (B.new h1)).mono ?_
  rintro e w2 ⟨rfl,h2⟩
  have k2:Keep (fun k=>k≠g) w w2:=(h1.keep _).trans h2.1
  have hc2:=k2.cell hc HP.out
  have hf2:w2.frozen? p=false:=(k2.free hlt HP.out).trans hf
  have hcA:=((Keep.refl (fun _=>True) w2).alloc (.cells #[.string ⟨t.toArray⟩] 158)).cell hc2 trivial
  have hfA:(w2.alloc (.cells #[.string ⟨t.toArray⟩] 158)).frozen? p=false:=(((Keep.refl (fun _=>True) w2).alloc (.cells #[.string ⟨t.toArray⟩] 158)).free (cell_lt hc2) trivial).trans hf2
  have hsz:=k2.size
  go_wp2
  go_ret
  refine⟨rfl,_,w2.alloc (.cells #[.string ⟨t.toArray⟩] 158),rfl,⟨k2.alloc _,h2.2.new ((Keep.refl _ _).alloc _)⟩,?_⟩
  intro w' k
  refine⟨_,1,rfl,Nat.le_refl _,by omega,fun _=>⟨w2.heap.size,0,rfl,fun j hj=>?_⟩⟩
  obtain rfl:j=0:=by simpa using hj
  have hbk:=blk_new w2 (.cells #[.string ⟨t.toArray⟩] 158)
  rw [blk_cell ((k _ (lt_blk hbk) (by show w.heap.size≤w2.heap.size;omega)).trans hbk)]
  rfl
theorem multi_arr(g:Nat)(p:Addr)(hpg:p.block≠g)(ts:List (List UInt8))(b0:UInt8)(b r:List UInt8)(h163:b0≠163)(h179:b0≠179)(h64:b0≠64)(hl:ts.length≤65536)(w:World)(u:Value)(hc:w.cell? p=some u)(hf:w.frozen? p=false)(B:Buf w g (b0::(b++r)))
 (hr:∀w1,w1.cell? p=some u→w1.frozen? p=false→Buf w1 g (b0::(b++r))→Calls Tryz.prog 122 #[.pointer (some p),.pointer (some ⟨g,0,none⟩)] w1 fun e w'=>e=.returned .nilIface∧ArrOut g p r 158 1 (ts.map fun x=>.string ⟨x.toArray⟩) w1 w'):
 Calls Tryz.prog 355 #[.pointer (some p),.pointer (some ⟨g,0,none⟩)] w fun e w'=>e=.returned .nilIface∧MOut g p r ts w w':=by
 have i163:(((b0.toNat:Int))==163)=false:=by
  have:b0.toNat≠163:=fun h=>h163 (UInt8.toNat.inj (by simpa using h))
  simp;omega
 have i179:(((b0.toNat:Int))==179)=false:=by
  have:b0.toNat≠179:=fun h=>h179 (UInt8.toNat.inj (by simpa using h))
  simp;omega
 have HL:=Lib.hid hl
 have HP:=Lib.hid hpg
 have H64:=Lib.hid h64
 have HR:=Lib.hid hr
 have hlt:=cell_lt hc
 clear hr hpg h64 hl h163 h179
 go_enter Tryz.func355,Tryz.ntmps355
 go_wp2_with fail
 refine(peekType_is g _ _ _ B).mono ?_
 rintro e w1 ⟨rfl,h1⟩
 have hc1:=h1.cell hc trivial
 have hf1:w1.frozen? p=false:=(h1.free hlt trivial).trans hf
 go_wp2_with fail
 refine(unm_syms g p HP.out b0 b r H64.out (fun wa sl wb=>Dep (fun k=>wa.heap.size≤k) wb (fun w=>SlX w 158 1 sl (ts.map fun x=>.string ⟨x.toArray⟩))) w1 u hc1 hf1 (B.new h1) ?_).mono ?_
 ·intro wa ha hca hfa Ba
  exact(HR.out wa hca hfa Ba).mono fun e w' ⟨he,sl,w2,h2,h3,h4⟩=>⟨he,sl,w2,h2,h3,h4⟩
 rintro e w4 ⟨rfl,sl,w2,w3,rfl,h2,h3,h4⟩
 go_wp2
 go_ret
 refine⟨rfl,sl,w3,rfl,⟨(h1.keep _).trans (h2.1.trans h3.1),h3.2⟩,?_⟩
 intro w' k
 have hs:=h2.1.size
 have hs1:=h1.size
 obtain⟨d,n,rfl,hn,hd⟩:=h4 w' (fun i hi ho=>k i hi (by show w.heap.size≤i;omega))
 have hn':ts.length=n:=by simpa using hn
 subst hn'
 refine⟨_,_,rfl,Nat.le_refl _,by have:=HL.out;omega,fun _=>⟨d,0,rfl,fun j hj=>?_⟩⟩
 rw [Nat.zero_add,blk_cell hd]
 simp [hj]
end Go.Proofs.YtfoegolfadhmjaaGreatDoor
