/- Unmarshal at pointers whose types have an Unmarshal of their own. -/
import Derived.Test.YtfoegolfadhmjaaGreatDoorZ11
set_option linter.all false
set_option maxRecDepth 100000
set_option maxHeartbeats 4000000
namespace Go.Proofs.YtfoegolfadhmjaaGreatDoor
open Go.RowKit Go.WideShapes
theorem ti147(w:World)(v:Value):(Instr.typeAssert (.iface 147 v) 20 293 true).run Tryz.prog w=.ok (.tuple #[.iface 147 v,.bool true]) w:=by kernel_rfl
theorem ti154(w:World)(v:Value):(Instr.typeAssert (.iface 154 v) 20 293 true).run Tryz.prog w=.ok (.tuple #[.iface 154 v,.bool true]) w:=by kernel_rfl
theorem ti170(w:World)(v:Value):(Instr.typeAssert (.iface 170 v) 20 293 true).run Tryz.prog w=.ok (.tuple #[.iface 170 v,.bool true]) w:=by kernel_rfl
theorem ti176(w:World)(v:Value):(Instr.typeAssert (.iface 176 v) 20 293 true).run Tryz.prog w=.ok (.tuple #[.iface 176 v,.bool true]) w:=by kernel_rfl
theorem ti68(w:World)(v:Value):(Instr.typeAssert (.iface 68 v) 20 293 true).run Tryz.prog w=.ok (.tuple #[.iface 68 v,.bool true]) w:=by kernel_rfl
attribute [go_sem] ti147 ti154 ti170 ti176 ti68
theorem unm_multi(g:Nat)(p:Addr)(b0:UInt8)(b:List UInt8)(hb:b0≠64)(Q:World→Prop)(w:World)(B:Buf w g (b0::b))
 (hr:∀w1,Adv g (b0::b) w w1→Calls Tryz.prog 355 #[.pointer (some p),.pointer (some ⟨g,0,none⟩)] w1 fun e w'=>e=.returned .nilIface∧Q w'):
 Calls Tryz.prog 80 #[.pointer (some ⟨g,0,none⟩),.iface 154 (.pointer (some p))] w fun e w'=>e=.returned .nilIface∧Q w':=by
 have HR:=Lib.hid hr
 clear hr
 go_enter Tryz.func80,Tryz.ntmps80
 go_wp2_with fail
 refine(tryReadNull_no g b0 b _ B hb).mono ?_
 rintro e w1 ⟨rfl,h1⟩
 go_wp2_with fail
 refine(HR.out _ h1).mono ?_
 rintro e w2 ⟨rfl,h2⟩
 go_wp2
 go_ret
 exact⟨rfl,h2⟩
theorem unm_ptrU16(g:Nat)(p:Addr)(b0:UInt8)(b:List UInt8)(hb:b0≠64)(Q:World→Prop)(w:World)(B:Buf w g (b0::b))
 (hr:∀w1,Adv g (b0::b) w w1→Calls Tryz.prog 358 #[.agg #[.pointer (some p)],.pointer (some ⟨g,0,none⟩)] w1 fun e w'=>e=.returned .nilIface∧Q w'):
 Calls Tryz.prog 80 #[.pointer (some ⟨g,0,none⟩),.iface 176 (.agg #[.pointer (some p)])] w fun e w'=>e=.returned .nilIface∧Q w':=by
 have HR:=Lib.hid hr
 clear hr
 go_enter Tryz.func80,Tryz.ntmps80
 go_wp2_with fail
 refine(tryReadNull_no g b0 b _ B hb).mono ?_
 rintro e w1 ⟨rfl,h1⟩
 go_wp2_with fail
 refine(HR.out _ h1).mono ?_
 rintro e w2 ⟨rfl,h2⟩
 go_wp2
 go_ret
 exact⟨rfl,h2⟩
end Go.Proofs.YtfoegolfadhmjaaGreatDoor
