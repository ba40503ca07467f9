/- Unmarshal at pointers to plain values, to texts, to maps. -/
import Derived.Test.YtfoegolfadhmjaaGreatDoorZ11
set_option linter.all false
set_option maxRecDepth 100000
set_option maxHeartbeats 4000000
namespace Go.Proofs.YtfoegolfadhmjaaGreatDoor
open Go.RowKit Go.WideShapes
theorem unm_u32(g:Nat)(p:Addr)(hpg:p.block≠g)(b0:UInt8)(b r:List UInt8)(hb:b0≠64)(x:Int)(hr:∀w1,Buf w1 g (b0::(b++r))→Calls Tryz.prog 102 #[.pointer (some ⟨g,0,none⟩)] w1 fun e w'=>e=.returned (.tuple #[.int .u32 x,.nilIface])∧Adv g r w1 w')
 (w:World) (u:Value) (hc:w.cell? p=some u) (hf:w.frozen? p=false) (B:Buf w g (b0::(b++r))):
 Calls Tryz.prog 80 #[.pointer (some ⟨g,0,none⟩),.iface 125 (.pointer (some p))] w fun e w'=>e=.returned .nilIface∧∃w1,w'=w1.setCell p (.int .u32 x)∧Adv g r w w1:=by
 have HR:=Lib.hid hr
 have HP:=Lib.hid hpg
 have hlt:=cell_lt hc
 clear hr hpg
 go_enter Tryz.func80,Tryz.ntmps80
 go_wp2_with fail
 refine(tryReadNull_no g b0 (b++r) _ B hb).mono ?_
 rintro e w1 ⟨rfl,h1⟩
 have hc1:=h1.1.cell hc HP.out
 have hf1:w1.frozen? p=false:=(h1.1.free hlt HP.out).trans hf
 go_wp2_with fail
 refine(HR.out _ h1.2).mono ?_
 rintro e w2 ⟨rfl,h2⟩
 have hc2:=h2.1.cell hc1 HP.out
 have hf2:w2.frozen? p=false:=(h2.1.free (cell_lt hc1) HP.out).trans hf1
 go_wp2
 go_ret
 exact⟨rfl,w2,rfl,h1.trans h2⟩
theorem unm_u16(g:Nat)(p:Addr)(hpg:p.block≠g)(b0:UInt8)(b r:List UInt8)(hb:b0≠64)(x:Int)(hr:∀w1,Buf w1 g (b0::(b++r))→Calls Tryz.prog 103 #[.pointer (some ⟨g,0,none⟩)] w1 fun e w'=>e=.returned (.tuple #[.int .u16 x,.nilIface])∧Adv g r w1 w')
 (w:World) (u:Value) (hc:w.cell? p=some u) (hf:w.frozen? p=false) (B:Buf w g (b0::(b++r))):
 Calls Tryz.prog 80 #[.pointer (some ⟨g,0,none⟩),.iface 108 (.pointer (some p))] w fun e w'=>e=.returned .nilIface∧∃w1,w'=w1.setCell p (.int .u16 x)∧Adv g r w w1:=by
 have HR:=Lib.hid hr
 have HP:=Lib.hid hpg
 have hlt:=cell_lt hc
 clear hr hpg
 go_enter Tryz.func80,Tryz.ntmps80
 go_wp2_with fail
 refine(tryReadNull_no g b0 (b++r) _ B hb).mono ?_
 rintro e w1 ⟨rfl,h1⟩
 have hc1:=h1.1.cell hc HP.out
 have hf1:w1.frozen? p=false:=(h1.1.free hlt HP.out).trans hf
 go_wp2_with fail
 refine(HR.out _ h1.2).mono ?_
 rintro e w2 ⟨rfl,h2⟩
 have hc2:=h2.1.cell hc1 HP.out
 have hf2:w2.frozen? p=false:=(h2.1.free (cell_lt hc1) HP.out).trans hf1
 go_wp2
 go_ret
 exact⟨rfl,w2,rfl,h1.trans h2⟩
theorem unm_symMap(g:Nat)(p:Addr)(hpg:p.block≠g)(b0:UInt8)(b r:List UInt8)(hb:b0≠64)(Q:World→Value→World→Prop)(w:World)(u:Value)(hc:w.cell? p=some u)(hf:w.frozen? p=false)(B:Buf w g (b0::(b++r)))
 (hr:∀w1,Adv g (b0::(b++r)) w w1→w1.cell? p=some u→w1.frozen? p=false→Buf w1 g (b0::(b++r))→Calls Tryz.prog 130 #[.pointer (some p),.pointer (some ⟨g,0,none⟩)] w1 fun e w'=>e=.returned .nilIface∧∃sl w2,w'=w2.setCell p sl∧Adv g r w1 w2∧Q w1 sl w2):
 Calls Tryz.prog 80 #[.pointer (some ⟨g,0,none⟩),.iface 155 (.pointer (some p))] w fun e w'=>e=.returned .nilIface∧∃sl w1 w2,w'=w2.setCell p sl∧Adv g (b0::(b++r)) w w1∧Adv g r w1 w2∧Q w1 sl w2:=by
 have HR:=Lib.hid hr
 have HP:=Lib.hid hpg
 have hlt:=cell_lt hc
 clear hr hpg
 go_enter Tryz.func80,Tryz.ntmps80
 go_wp2_with fail
 refine(tryReadNull_no g b0 (b++r) _ B hb).mono ?_
 rintro e w1 ⟨rfl,h1⟩
 have hc1:=h1.1.cell hc HP.out
 have hf1:w1.frozen? p=false:=(h1.1.free hlt HP.out).trans hf
 go_wp2_with fail
 refine(HR.out _ h1 hc1 hf1 h1.2).mono ?_
 rintro e w3 ⟨rfl,sl,w2,rfl,h2,hq⟩
 go_wp2
 go_ret
 exact⟨rfl,sl,w1,w2,rfl,h1,h2,hq⟩
theorem unm_syms(g:Nat)(p:Addr)(hpg:p.block≠g)(b0:UInt8)(b r:List UInt8)(hb:b0≠64)(Q:World→Value→World→Prop)(w:World)(u:Value)(hc:w.cell? p=some u)(hf:w.frozen? p=false)(B:Buf w g (b0::(b++r)))
 (hr:∀w1,Adv g (b0::(b++r)) w w1→w1.cell? p=some u→w1.frozen? p=false→Buf w1 g (b0::(b++r))→Calls Tryz.prog 122 #[.pointer (some p),.pointer (some ⟨g,0,none⟩)] w1 fun e w'=>e=.returned .nilIface∧∃sl w2,w'=w2.setCell p sl∧Adv g r w1 w2∧Q w1 sl w2):
 Calls Tryz.prog 80 #[.pointer (some ⟨g,0,none⟩),.iface 253 (.pointer (some p))] w fun e w'=>e=.returned .nilIface∧∃sl w1 w2,w'=w2.setCell p sl∧Adv g (b0::(b++r)) w w1∧Adv g r w1 w2∧Q w1 sl w2:=by
 have HR:=Lib.hid hr
 have HP:=Lib.hid hpg
 have hlt:=cell_lt hc
 clear hr hpg
 go_enter Tryz.func80,Tryz.ntmps80
 go_wp2_with fail
 refine(tryReadNull_no g b0 (b++r) _ B hb).mono ?_
 rintro e w1 ⟨rfl,h1⟩
 have hc1:=h1.1.cell hc HP.out
 have hf1:w1.frozen? p=false:=(h1.1.free hlt HP.out).trans hf
 go_wp2_with fail
 refine(HR.out _ h1 hc1 hf1 h1.2).mono ?_
 rintro e w3 ⟨rfl,sl,w2,rfl,h2,hq⟩
 go_wp2
 go_ret
 exact⟨rfl,sl,w1,w2,rfl,h1,h2,hq⟩
end Go.Proofs.YtfoegolfadhmjaaGreatDoor
