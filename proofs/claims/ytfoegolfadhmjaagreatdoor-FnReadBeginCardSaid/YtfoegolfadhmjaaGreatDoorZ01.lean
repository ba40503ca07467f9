/- A uuid off the buffer. -/
import Derived.Test.YtfoegolfadhmjaaGreatDoorProg
import Derived.WalkKit
import Derived.KernelRfl
import Derived.WalkSpells
import Derived.WalkLawsBesides
import Derived.Deep.QuietTactic
import Derived.BigQuiet
import Derived.Deep.RegionHeld3
import Derived.Deep.DeepCutAuto
import Derived.Deep.LoopGhost
import Derived.Deep.Draws
import Derived.OneCell
import Derived.Outline
import Derived.Lib.Hide
import Derived.Lib.Endian
import Derived.Lib.EndianBits
import Derived.Lib.EndianMore
import Derived.Laws.BytesArg
import Derived.Laws.CopyOwn
set_option linter.all false
set_option maxRecDepth 100000
set_option maxHeartbeats 4000000
namespace Go.Proofs.YtfoegolfadhmjaaGreatDoor
open Go.RowKit
theorem ta_no{P:Program}{d:TypeDesc}{z:Value}{A:TypeId}(hu:P.underlying A=some d)(hd:(match d with | .interface _=>false | _=>true)=true)(hz:(P.info? A).map (·.zero)=some (some z))
 (w:World) (u:TypeId) (v:Value) (x:TypeId) (h:u≠A):(Instr.typeAssert (.iface u v) x A true).run P w=.ok (.tuple #[z,.bool false]) w:=by
 obtain⟨j,hj,hz'⟩:=Option.map_eq_some_iff.1 hz
 cases d<;>first | (simp at hd;done) | simp [Instr.typeAssert,run_underlying hu,h,zeroValue,typeInfo,hj,hz']
theorem ta_yes{P:Program}{d:TypeDesc}{A:TypeId}(hu:P.underlying A=some d)(hd:(match d with | .interface _=>false | _=>true)=true)
 (w:World) (v:Value) (x:TypeId):(Instr.typeAssert (.iface A v) x A true).run P w=.ok (.tuple #[v,.bool true]) w:=by
 cases d<;>first | (simp at hd;done) | simp [Instr.typeAssert,run_underlying hu]
theorem ta2_no(w:World)(u:TypeId)(v:Value)(h:u≠2):(Instr.typeAssert (.iface u v) 20 2 true).run Tryz.prog w=.ok (.tuple #[.int .i64 0,.bool false]) w:=ta_no Tryz.underlying2 rfl (by kernel_rfl) w u v 20 h
theorem ta2_yes(w:World)(v:Value):(Instr.typeAssert (.iface 2 v) 20 2 true).run Tryz.prog w=.ok (.tuple #[v,.bool true]) w:=ta_yes Tryz.underlying2 rfl w v 20
theorem ta3_no(w:World)(u:TypeId)(v:Value)(h:u≠3):(Instr.typeAssert (.iface u v) 20 3 true).run Tryz.prog w=.ok (.tuple #[.int .i64 0,.bool false]) w:=ta_no Tryz.underlying3 rfl (by kernel_rfl) w u v 20 h
theorem ta4_no(w:World)(u:TypeId)(v:Value)(h:u≠4):(Instr.typeAssert (.iface u v) 20 4 true).run Tryz.prog w=.ok (.tuple #[.bool false,.bool false]) w:=ta_no Tryz.underlying4 rfl (by kernel_rfl) w u v 20 h
theorem ta4_yes(w:World)(v:Value):(Instr.typeAssert (.iface 4 v) 20 4 true).run Tryz.prog w=.ok (.tuple #[v,.bool true]) w:=ta_yes Tryz.underlying4 rfl w v 20
theorem ta5_no(w:World)(u:TypeId)(v:Value)(h:u≠5):(Instr.typeAssert (.iface u v) 20 5 true).run Tryz.prog w=.ok (.tuple #[.int .u8 0,.bool false]) w:=ta_no Tryz.underlying5 rfl (by kernel_rfl) w u v 20 h
theorem ta5_yes(w:World)(v:Value):(Instr.typeAssert (.iface 5 v) 20 5 true).run Tryz.prog w=.ok (.tuple #[v,.bool true]) w:=ta_yes Tryz.underlying5 rfl w v 20
theorem ta9_no(w:World)(u:TypeId)(v:Value)(h:u≠9):(Instr.typeAssert (.iface u v) 20 9 true).run Tryz.prog w=.ok (.tuple #[.string ⟨#[]⟩,.bool false]) w:=ta_no Tryz.underlying9 rfl (by kernel_rfl) w u v 20 h
theorem ta9_yes(w:World)(v:Value):(Instr.typeAssert (.iface 9 v) 20 9 true).run Tryz.prog w=.ok (.tuple #[v,.bool true]) w:=ta_yes Tryz.underlying9 rfl w v 20
theorem ta21_no(w:World)(u:TypeId)(v:Value)(h:u≠21):(Instr.typeAssert (.iface u v) 20 21 true).run Tryz.prog w=.ok (.tuple #[.int .i32 0,.bool false]) w:=ta_no Tryz.underlying21 rfl (by kernel_rfl) w u v 20 h
theorem ta21_yes(w:World)(v:Value):(Instr.typeAssert (.iface 21 v) 20 21 true).run Tryz.prog w=.ok (.tuple #[v,.bool true]) w:=ta_yes Tryz.underlying21 rfl w v 20
theorem ta22_no(w:World)(u:TypeId)(v:Value)(h:u≠22):(Instr.typeAssert (.iface u v) 20 22 true).run Tryz.prog w=.ok (.tuple #[.int .u32 0,.bool false]) w:=ta_no Tryz.underlying22 rfl (by kernel_rfl) w u v 20 h
theorem ta22_yes(w:World)(v:Value):(Instr.typeAssert (.iface 22 v) 20 22 true).run Tryz.prog w=.ok (.tuple #[v,.bool true]) w:=ta_yes Tryz.underlying22 rfl w v 20
theorem ta26_no(w:World)(u:TypeId)(v:Value)(h:u≠26):(Instr.typeAssert (.iface u v) 20 26 true).run Tryz.prog w=.ok (.tuple #[.int .u64 0,.bool false]) w:=ta_no Tryz.underlying26 rfl (by kernel_rfl) w u v 20 h
theorem ta26_yes(w:World)(v:Value):(Instr.typeAssert (.iface 26 v) 20 26 true).run Tryz.prog w=.ok (.tuple #[v,.bool true]) w:=ta_yes Tryz.underlying26 rfl w v 20
theorem ta27_no(w:World)(u:TypeId)(v:Value)(h:u≠27):(Instr.typeAssert (.iface u v) 20 27 true).run Tryz.prog w=.ok (.tuple #[.slice none 0 0,.bool false]) w:=ta_no Tryz.underlying27 rfl (by kernel_rfl) w u v 20 h
theorem ta27_yes(w:World)(v:Value):(Instr.typeAssert (.iface 27 v) 20 27 true).run Tryz.prog w=.ok (.tuple #[v,.bool true]) w:=ta_yes Tryz.underlying27 rfl w v 20
theorem ta51_no(w:World)(u:TypeId)(v:Value)(h:u≠51):(Instr.typeAssert (.iface u v) 20 51 true).run Tryz.prog w=.ok (.tuple #[.slice none 0 0,.bool false]) w:=ta_no Tryz.underlying51 rfl (by kernel_rfl) w u v 20 h
theorem ta51_yes(w:World)(v:Value):(Instr.typeAssert (.iface 51 v) 20 51 true).run Tryz.prog w=.ok (.tuple #[v,.bool true]) w:=ta_yes Tryz.underlying51 rfl w v 20
theorem ta52_no(w:World)(u:TypeId)(v:Value)(h:u≠52):(Instr.typeAssert (.iface u v) 20 52 true).run Tryz.prog w=.ok (.tuple #[.slice none 0 0,.bool false]) w:=ta_no Tryz.underlying52 rfl (by kernel_rfl) w u v 20 h
theorem ta52_yes(w:World)(v:Value):(Instr.typeAssert (.iface 52 v) 20 52 true).run Tryz.prog w=.ok (.tuple #[v,.bool true]) w:=ta_yes Tryz.underlying52 rfl w v 20
theorem ta62_no(w:World)(u:TypeId)(v:Value)(h:u≠62):(Instr.typeAssert (.iface u v) 20 62 true).run Tryz.prog w=.ok (.tuple #[.pointer none,.bool false]) w:=ta_no Tryz.underlying62 rfl (by kernel_rfl) w u v 20 h
theorem ta63_no(w:World)(u:TypeId)(v:Value)(h:u≠63):(Instr.typeAssert (.iface u v) 20 63 true).run Tryz.prog w=.ok (.tuple #[.pointer none,.bool false]) w:=ta_no Tryz.underlying63 rfl (by kernel_rfl) w u v 20 h
theorem ta96_no(w:World)(u:TypeId)(v:Value)(h:u≠96):(Instr.typeAssert (.iface u v) 20 96 true).run Tryz.prog w=.ok (.tuple #[.map none,.bool false]) w:=ta_no Tryz.underlying96 rfl (by kernel_rfl) w u v 20 h
theorem ta96_yes(w:World)(v:Value):(Instr.typeAssert (.iface 96 v) 20 96 true).run Tryz.prog w=.ok (.tuple #[v,.bool true]) w:=ta_yes Tryz.underlying96 rfl w v 20
theorem ta108_no(w:World)(u:TypeId)(v:Value)(h:u≠108):(Instr.typeAssert (.iface u v) 20 108 true).run Tryz.prog w=.ok (.tuple #[.pointer none,.bool false]) w:=ta_no Tryz.underlying108 rfl (by kernel_rfl) w u v 20 h
theorem ta108_yes(w:World)(v:Value):(Instr.typeAssert (.iface 108 v) 20 108 true).run Tryz.prog w=.ok (.tuple #[v,.bool true]) w:=ta_yes Tryz.underlying108 rfl w v 20
theorem ta109_no(w:World)(u:TypeId)(v:Value)(h:u≠109):(Instr.typeAssert (.iface u v) 20 109 true).run Tryz.prog w=.ok (.tuple #[.slice none 0 0,.bool false]) w:=ta_no Tryz.underlying109 rfl (by kernel_rfl) w u v 20 h
theorem ta111_no(w:World)(u:TypeId)(v:Value)(h:u≠111):(Instr.typeAssert (.iface u v) 20 111 true).run Tryz.prog w=.ok (.tuple #[.map none,.bool false]) w:=ta_no Tryz.underlying111 rfl (by kernel_rfl) w u v 20 h
theorem ta117_no(w:World)(u:TypeId)(v:Value)(h:u≠117):(Instr.typeAssert (.iface u v) 20 117 true).run Tryz.prog w=.ok (.tuple #[.int .u16 0,.bool false]) w:=ta_no Tryz.underlying117 rfl (by kernel_rfl) w u v 20 h
theorem ta117_yes(w:World)(v:Value):(Instr.typeAssert (.iface 117 v) 20 117 true).run Tryz.prog w=.ok (.tuple #[v,.bool true]) w:=ta_yes Tryz.underlying117 rfl w v 20
theorem ta125_no(w:World)(u:TypeId)(v:Value)(h:u≠125):(Instr.typeAssert (.iface u v) 20 125 true).run Tryz.prog w=.ok (.tuple #[.pointer none,.bool false]) w:=ta_no Tryz.underlying125 rfl (by kernel_rfl) w u v 20 h
theorem ta125_yes(w:World)(v:Value):(Instr.typeAssert (.iface 125 v) 20 125 true).run Tryz.prog w=.ok (.tuple #[v,.bool true]) w:=ta_yes Tryz.underlying125 rfl w v 20
theorem ta139_no(w:World)(u:TypeId)(v:Value)(h:u≠139):(Instr.typeAssert (.iface u v) 20 139 true).run Tryz.prog w=.ok (.tuple #[.int .u64 0,.bool false]) w:=ta_no Tryz.underlying139 rfl (by kernel_rfl) w u v 20 h
theorem ta146_no(w:World)(u:TypeId)(v:Value)(h:u≠146):(Instr.typeAssert (.iface u v) 20 146 true).run Tryz.prog w=.ok (.tuple #[.pointer none,.bool false]) w:=ta_no Tryz.underlying146 rfl (by kernel_rfl) w u v 20 h
theorem ta148_no(w:World)(u:TypeId)(v:Value)(h:u≠148):(Instr.typeAssert (.iface u v) 20 148 true).run Tryz.prog w=.ok (.tuple #[.pointer none,.bool false]) w:=ta_no Tryz.underlying148 rfl (by kernel_rfl) w u v 20 h
theorem ta149_no(w:World)(u:TypeId)(v:Value)(h:u≠149):(Instr.typeAssert (.iface u v) 20 149 true).run Tryz.prog w=.ok (.tuple #[.pointer none,.bool false]) w:=ta_no Tryz.underlying149 rfl (by kernel_rfl) w u v 20 h
theorem ta155_no(w:World)(u:TypeId)(v:Value)(h:u≠155):(Instr.typeAssert (.iface u v) 20 155 true).run Tryz.prog w=.ok (.tuple #[.pointer none,.bool false]) w:=ta_no Tryz.underlying155 rfl (by kernel_rfl) w u v 20 h
theorem ta155_yes(w:World)(v:Value):(Instr.typeAssert (.iface 155 v) 20 155 true).run Tryz.prog w=.ok (.tuple #[v,.bool true]) w:=ta_yes Tryz.underlying155 rfl w v 20
theorem ta158_no(w:World)(u:TypeId)(v:Value)(h:u≠158):(Instr.typeAssert (.iface u v) 20 158 true).run Tryz.prog w=.ok (.tuple #[.string ⟨#[]⟩,.bool false]) w:=ta_no Tryz.underlying158 rfl (by kernel_rfl) w u v 20 h
theorem ta190_no(w:World)(u:TypeId)(v:Value)(h:u≠190):(Instr.typeAssert (.iface u v) 20 190 true).run Tryz.prog w=.ok (.tuple #[.pointer none,.bool false]) w:=ta_no Tryz.underlying190 rfl (by kernel_rfl) w u v 20 h
theorem ta191_no(w:World)(u:TypeId)(v:Value)(h:u≠191):(Instr.typeAssert (.iface u v) 20 191 true).run Tryz.prog w=.ok (.tuple #[.int .i8 0,.bool false]) w:=ta_no Tryz.underlying191 rfl (by kernel_rfl) w u v 20 h
theorem ta191_yes(w:World)(v:Value):(Instr.typeAssert (.iface 191 v) 20 191 true).run Tryz.prog w=.ok (.tuple #[v,.bool true]) w:=ta_yes Tryz.underlying191 rfl w v 20
theorem ta194_no(w:World)(u:TypeId)(v:Value)(h:u≠194):(Instr.typeAssert (.iface u v) 20 194 true).run Tryz.prog w=.ok (.tuple #[.pointer none,.bool false]) w:=ta_no Tryz.underlying194 rfl (by kernel_rfl) w u v 20 h
theorem ta195_no(w:World)(u:TypeId)(v:Value)(h:u≠195):(Instr.typeAssert (.iface u v) 20 195 true).run Tryz.prog w=.ok (.tuple #[.int .i16 0,.bool false]) w:=ta_no Tryz.underlying195 rfl (by kernel_rfl) w u v 20 h
theorem ta195_yes(w:World)(v:Value):(Instr.typeAssert (.iface 195 v) 20 195 true).run Tryz.prog w=.ok (.tuple #[v,.bool true]) w:=ta_yes Tryz.underlying195 rfl w v 20
theorem ta198_no(w:World)(u:TypeId)(v:Value)(h:u≠198):(Instr.typeAssert (.iface u v) 20 198 true).run Tryz.prog w=.ok (.tuple #[.pointer none,.bool false]) w:=ta_no Tryz.underlying198 rfl (by kernel_rfl) w u v 20 h
theorem ta201_no(w:World)(u:TypeId)(v:Value)(h:u≠201):(Instr.typeAssert (.iface u v) 20 201 true).run Tryz.prog w=.ok (.tuple #[.pointer none,.bool false]) w:=ta_no Tryz.underlying201 rfl (by kernel_rfl) w u v 20 h
theorem ta202_no(w:World)(u:TypeId)(v:Value)(h:u≠202):(Instr.typeAssert (.iface u v) 20 202 true).run Tryz.prog w=.ok (.tuple #[.pointer none,.bool false]) w:=ta_no Tryz.underlying202 rfl (by kernel_rfl) w u v 20 h
theorem ta205_no(w:World)(u:TypeId)(v:Value)(h:u≠205):(Instr.typeAssert (.iface u v) 20 205 true).run Tryz.prog w=.ok (.tuple #[.pointer none,.bool false]) w:=ta_no Tryz.underlying205 rfl (by kernel_rfl) w u v 20 h
theorem ta208_no(w:World)(u:TypeId)(v:Value)(h:u≠208):(Instr.typeAssert (.iface u v) 20 208 true).run Tryz.prog w=.ok (.tuple #[.pointer none,.bool false]) w:=ta_no Tryz.underlying208 rfl (by kernel_rfl) w u v 20 h
theorem ta211_no(w:World)(u:TypeId)(v:Value)(h:u≠211):(Instr.typeAssert (.iface u v) 20 211 true).run Tryz.prog w=.ok (.tuple #[.pointer none,.bool false]) w:=ta_no Tryz.underlying211 rfl (by kernel_rfl) w u v 20 h
theorem ta212_no(w:World)(u:TypeId)(v:Value)(h:u≠212):(Instr.typeAssert (.iface u v) 20 212 true).run Tryz.prog w=.ok (.tuple #[.float .f32 0,.bool false]) w:=ta_no Tryz.underlying212 rfl (by kernel_rfl) w u v 20 h
theorem ta212_yes(w:World)(v:Value):(Instr.typeAssert (.iface 212 v) 20 212 true).run Tryz.prog w=.ok (.tuple #[v,.bool true]) w:=ta_yes Tryz.underlying212 rfl w v 20
theorem ta215_no(w:World)(u:TypeId)(v:Value)(h:u≠215):(Instr.typeAssert (.iface u v) 20 215 true).run Tryz.prog w=.ok (.tuple #[.pointer none,.bool false]) w:=ta_no Tryz.underlying215 rfl (by kernel_rfl) w u v 20 h
theorem ta216_no(w:World)(u:TypeId)(v:Value)(h:u≠216):(Instr.typeAssert (.iface u v) 20 216 true).run Tryz.prog w=.ok (.tuple #[.float .f64 0,.bool false]) w:=ta_no Tryz.underlying216 rfl (by kernel_rfl) w u v 20 h
theorem ta216_yes(w:World)(v:Value):(Instr.typeAssert (.iface 216 v) 20 216 true).run Tryz.prog w=.ok (.tuple #[v,.bool true]) w:=ta_yes Tryz.underlying216 rfl w v 20
theorem ta221_no(w:World)(u:TypeId)(v:Value)(h:u≠221):(Instr.typeAssert (.iface u v) 20 221 true).run Tryz.prog w=.ok (.tuple #[.pointer none,.bool false]) w:=ta_no Tryz.underlying221 rfl (by kernel_rfl) w u v 20 h
theorem ta226_no(w:World)(u:TypeId)(v:Value)(h:u≠226):(Instr.typeAssert (.iface u v) 20 226 true).run Tryz.prog w=.ok (.tuple #[.pointer none,.bool false]) w:=ta_no Tryz.underlying226 rfl (by kernel_rfl) w u v 20 h
theorem ta228_no(w:World)(u:TypeId)(v:Value)(h:u≠228):(Instr.typeAssert (.iface u v) 20 228 true).run Tryz.prog w=.ok (.tuple #[.agg #[.int .i64 0,.int .i64 0],.bool false]) w:=ta_no Tryz.underlying228 rfl (by kernel_rfl) w u v 20 h
theorem ta228_yes(w:World)(v:Value):(Instr.typeAssert (.iface 228 v) 20 228 true).run Tryz.prog w=.ok (.tuple #[v,.bool true]) w:=ta_yes Tryz.underlying228 rfl w v 20
theorem ta231_no(w:World)(u:TypeId)(v:Value)(h:u≠231):(Instr.typeAssert (.iface u v) 20 231 true).run Tryz.prog w=.ok (.tuple #[.pointer none,.bool false]) w:=ta_no Tryz.underlying231 rfl (by kernel_rfl) w u v 20 h
theorem ta233_no(w:World)(u:TypeId)(v:Value)(h:u≠233):(Instr.typeAssert (.iface u v) 20 233 true).run Tryz.prog w=.ok (.tuple #[.pointer none,.bool false]) w:=ta_no Tryz.underlying233 rfl (by kernel_rfl) w u v 20 h
theorem ta235_no(w:World)(u:TypeId)(v:Value)(h:u≠235):(Instr.typeAssert (.iface u v) 20 235 true).run Tryz.prog w=.ok (.tuple #[.pointer none,.bool false]) w:=ta_no Tryz.underlying235 rfl (by kernel_rfl) w u v 20 h
theorem ta237_no(w:World)(u:TypeId)(v:Value)(h:u≠237):(Instr.typeAssert (.iface u v) 20 237 true).run Tryz.prog w=.ok (.tuple #[.pointer none,.bool false]) w:=ta_no Tryz.underlying237 rfl (by kernel_rfl) w u v 20 h
theorem ta239_no(w:World)(u:TypeId)(v:Value)(h:u≠239):(Instr.typeAssert (.iface u v) 20 239 true).run Tryz.prog w=.ok (.tuple #[.pointer none,.bool false]) w:=ta_no Tryz.underlying239 rfl (by kernel_rfl) w u v 20 h
theorem ta241_no(w:World)(u:TypeId)(v:Value)(h:u≠241):(Instr.typeAssert (.iface u v) 20 241 true).run Tryz.prog w=.ok (.tuple #[.pointer none,.bool false]) w:=ta_no Tryz.underlying241 rfl (by kernel_rfl) w u v 20 h
theorem ta243_no(w:World)(u:TypeId)(v:Value)(h:u≠243):(Instr.typeAssert (.iface u v) 20 243 true).run Tryz.prog w=.ok (.tuple #[.pointer none,.bool false]) w:=ta_no Tryz.underlying243 rfl (by kernel_rfl) w u v 20 h
theorem ta245_no(w:World)(u:TypeId)(v:Value)(h:u≠245):(Instr.typeAssert (.iface u v) 20 245 true).run Tryz.prog w=.ok (.tuple #[.pointer none,.bool false]) w:=ta_no Tryz.underlying245 rfl (by kernel_rfl) w u v 20 h
theorem ta247_no(w:World)(u:TypeId)(v:Value)(h:u≠247):(Instr.typeAssert (.iface u v) 20 247 true).run Tryz.prog w=.ok (.tuple #[.pointer none,.bool false]) w:=ta_no Tryz.underlying247 rfl (by kernel_rfl) w u v 20 h
theorem ta249_no(w:World)(u:TypeId)(v:Value)(h:u≠249):(Instr.typeAssert (.iface u v) 20 249 true).run Tryz.prog w=.ok (.tuple #[.pointer none,.bool false]) w:=ta_no Tryz.underlying249 rfl (by kernel_rfl) w u v 20 h
theorem ta251_no(w:World)(u:TypeId)(v:Value)(h:u≠251):(Instr.typeAssert (.iface u v) 20 251 true).run Tryz.prog w=.ok (.tuple #[.pointer none,.bool false]) w:=ta_no Tryz.underlying251 rfl (by kernel_rfl) w u v 20 h
theorem ta253_no(w:World)(u:TypeId)(v:Value)(h:u≠253):(Instr.typeAssert (.iface u v) 20 253 true).run Tryz.prog w=.ok (.tuple #[.pointer none,.bool false]) w:=ta_no Tryz.underlying253 rfl (by kernel_rfl) w u v 20 h
theorem ta253_yes(w:World)(v:Value):(Instr.typeAssert (.iface 253 v) 20 253 true).run Tryz.prog w=.ok (.tuple #[v,.bool true]) w:=ta_yes Tryz.underlying253 rfl w v 20
theorem ta255_no(w:World)(u:TypeId)(v:Value)(h:u≠255):(Instr.typeAssert (.iface u v) 20 255 true).run Tryz.prog w=.ok (.tuple #[.pointer none,.bool false]) w:=ta_no Tryz.underlying255 rfl (by kernel_rfl) w u v 20 h
theorem ta257_no(w:World)(u:TypeId)(v:Value)(h:u≠257):(Instr.typeAssert (.iface u v) 20 257 true).run Tryz.prog w=.ok (.tuple #[.pointer none,.bool false]) w:=ta_no Tryz.underlying257 rfl (by kernel_rfl) w u v 20 h
theorem ta259_no(w:World)(u:TypeId)(v:Value)(h:u≠259):(Instr.typeAssert (.iface u v) 20 259 true).run Tryz.prog w=.ok (.tuple #[.pointer none,.bool false]) w:=ta_no Tryz.underlying259 rfl (by kernel_rfl) w u v 20 h
theorem ta261_no(w:World)(u:TypeId)(v:Value)(h:u≠261):(Instr.typeAssert (.iface u v) 20 261 true).run Tryz.prog w=.ok (.tuple #[.pointer none,.bool false]) w:=ta_no Tryz.underlying261 rfl (by kernel_rfl) w u v 20 h
theorem ta263_no(w:World)(u:TypeId)(v:Value)(h:u≠263):(Instr.typeAssert (.iface u v) 20 263 true).run Tryz.prog w=.ok (.tuple #[.pointer none,.bool false]) w:=ta_no Tryz.underlying263 rfl (by kernel_rfl) w u v 20 h
theorem ta265_no(w:World)(u:TypeId)(v:Value)(h:u≠265):(Instr.typeAssert (.iface u v) 20 265 true).run Tryz.prog w=.ok (.tuple #[.pointer none,.bool false]) w:=ta_no Tryz.underlying265 rfl (by kernel_rfl) w u v 20 h
theorem ta269_no(w:World)(u:TypeId)(v:Value)(h:u≠269):(Instr.typeAssert (.iface u v) 20 269 true).run Tryz.prog w=.ok (.tuple #[.pointer none,.bool false]) w:=ta_no Tryz.underlying269 rfl (by kernel_rfl) w u v 20 h
theorem ta277_no(w:World)(u:TypeId)(v:Value)(h:u≠277):(Instr.typeAssert (.iface u v) 20 277 true).run Tryz.prog w=.ok (.tuple #[.map none,.bool false]) w:=ta_no Tryz.underlying277 rfl (by kernel_rfl) w u v 20 h
theorem ta277_yes(w:World)(v:Value):(Instr.typeAssert (.iface 277 v) 20 277 true).run Tryz.prog w=.ok (.tuple #[v,.bool true]) w:=ta_yes Tryz.underlying277 rfl w v 20
theorem ta289_no(w:World)(u:TypeId)(v:Value)(h:u≠289):(Instr.typeAssert (.iface u v) 20 289 true).run Tryz.prog w=.ok (.tuple #[.pointer none,.bool false]) w:=ta_no Tryz.underlying289 rfl (by kernel_rfl) w u v 20 h
theorem ta309_no(w:World)(u:TypeId)(v:Value)(h:u≠309):(Instr.typeAssert (.iface u v) 20 309 true).run Tryz.prog w=.ok (.tuple #[.agg #[.int .u8 0,.int .u8 0,.int .u8 0,.int .u8 0,.int .u8 0,.int .u8 0,.int .u8 0,.int .u8 0,.int .u8 0,.int .u8 0,.int .u8 0,.int .u8 0,.int .u8 0,.int .u8 0,.int .u8 0,.int .u8 0],.bool false]) w:=ta_no Tryz.underlying309 rfl (by kernel_rfl) w u v 20 h
theorem ta309_yes(w:World)(v:Value):(Instr.typeAssert (.iface 309 v) 20 309 true).run Tryz.prog w=.ok (.tuple #[v,.bool true]) w:=ta_yes Tryz.underlying309 rfl w v 20
theorem ta310_no(w:World)(u:TypeId)(v:Value)(h:u≠310):(Instr.typeAssert (.iface u v) 20 310 true).run Tryz.prog w=.ok (.tuple #[.slice none 0 0,.bool false]) w:=ta_no Tryz.underlying310 rfl (by kernel_rfl) w u v 20 h
theorem ta310_yes(w:World)(v:Value):(Instr.typeAssert (.iface 310 v) 20 310 true).run Tryz.prog w=.ok (.tuple #[v,.bool true]) w:=ta_yes Tryz.underlying310 rfl w v 20
theorem ta313_no(w:World)(u:TypeId)(v:Value)(h:u≠313):(Instr.typeAssert (.iface u v) 20 313 true).run Tryz.prog w=.ok (.tuple #[.slice none 0 0,.bool false]) w:=ta_no Tryz.underlying313 rfl (by kernel_rfl) w u v 20 h
theorem ta313_yes(w:World)(v:Value):(Instr.typeAssert (.iface 313 v) 20 313 true).run Tryz.prog w=.ok (.tuple #[v,.bool true]) w:=ta_yes Tryz.underlying313 rfl w v 20
theorem ta315_no(w:World)(u:TypeId)(v:Value)(h:u≠315):(Instr.typeAssert (.iface u v) 20 315 true).run Tryz.prog w=.ok (.tuple #[.slice none 0 0,.bool false]) w:=ta_no Tryz.underlying315 rfl (by kernel_rfl) w u v 20 h
theorem ta315_yes(w:World)(v:Value):(Instr.typeAssert (.iface 315 v) 20 315 true).run Tryz.prog w=.ok (.tuple #[v,.bool true]) w:=ta_yes Tryz.underlying315 rfl w v 20
theorem ta320_no(w:World)(u:TypeId)(v:Value)(h:u≠320):(Instr.typeAssert (.iface u v) 20 320 true).run Tryz.prog w=.ok (.tuple #[.slice none 0 0,.bool false]) w:=ta_no Tryz.underlying320 rfl (by kernel_rfl) w u v 20 h
theorem ta320_yes(w:World)(v:Value):(Instr.typeAssert (.iface 320 v) 20 320 true).run Tryz.prog w=.ok (.tuple #[v,.bool true]) w:=ta_yes Tryz.underlying320 rfl w v 20
theorem ta323_no(w:World)(u:TypeId)(v:Value)(h:u≠323):(Instr.typeAssert (.iface u v) 20 323 true).run Tryz.prog w=.ok (.tuple #[.slice none 0 0,.bool false]) w:=ta_no Tryz.underlying323 rfl (by kernel_rfl) w u v 20 h
theorem ta323_yes(w:World)(v:Value):(Instr.typeAssert (.iface 323 v) 20 323 true).run Tryz.prog w=.ok (.tuple #[v,.bool true]) w:=ta_yes Tryz.underlying323 rfl w v 20
theorem ta326_no(w:World)(u:TypeId)(v:Value)(h:u≠326):(Instr.typeAssert (.iface u v) 20 326 true).run Tryz.prog w=.ok (.tuple #[.slice none 0 0,.bool false]) w:=ta_no Tryz.underlying326 rfl (by kernel_rfl) w u v 20 h
theorem ta326_yes(w:World)(v:Value):(Instr.typeAssert (.iface 326 v) 20 326 true).run Tryz.prog w=.ok (.tuple #[v,.bool true]) w:=ta_yes Tryz.underlying326 rfl w v 20
theorem ta329_no(w:World)(u:TypeId)(v:Value)(h:u≠329):(Instr.typeAssert (.iface u v) 20 329 true).run Tryz.prog w=.ok (.tuple #[.slice none 0 0,.bool false]) w:=ta_no Tryz.underlying329 rfl (by kernel_rfl) w u v 20 h
theorem ta329_yes(w:World)(v:Value):(Instr.typeAssert (.iface 329 v) 20 329 true).run Tryz.prog w=.ok (.tuple #[v,.bool true]) w:=ta_yes Tryz.underlying329 rfl w v 20
theorem ta332_no(w:World)(u:TypeId)(v:Value)(h:u≠332):(Instr.typeAssert (.iface u v) 20 332 true).run Tryz.prog w=.ok (.tuple #[.slice none 0 0,.bool false]) w:=ta_no Tryz.underlying332 rfl (by kernel_rfl) w u v 20 h
theorem ta332_yes(w:World)(v:Value):(Instr.typeAssert (.iface 332 v) 20 332 true).run Tryz.prog w=.ok (.tuple #[v,.bool true]) w:=ta_yes Tryz.underlying332 rfl w v 20
theorem ta335_no(w:World)(u:TypeId)(v:Value)(h:u≠335):(Instr.typeAssert (.iface u v) 20 335 true).run Tryz.prog w=.ok (.tuple #[.slice none 0 0,.bool false]) w:=ta_no Tryz.underlying335 rfl (by kernel_rfl) w u v 20 h
theorem ta335_yes(w:World)(v:Value):(Instr.typeAssert (.iface 335 v) 20 335 true).run Tryz.prog w=.ok (.tuple #[v,.bool true]) w:=ta_yes Tryz.underlying335 rfl w v 20
theorem ta338_no(w:World)(u:TypeId)(v:Value)(h:u≠338):(Instr.typeAssert (.iface u v) 20 338 true).run Tryz.prog w=.ok (.tuple #[.slice none 0 0,.bool false]) w:=ta_no Tryz.underlying338 rfl (by kernel_rfl) w u v 20 h
theorem ta338_yes(w:World)(v:Value):(Instr.typeAssert (.iface 338 v) 20 338 true).run Tryz.prog w=.ok (.tuple #[v,.bool true]) w:=ta_yes Tryz.underlying338 rfl w v 20
theorem ta341_no(w:World)(u:TypeId)(v:Value)(h:u≠341):(Instr.typeAssert (.iface u v) 20 341 true).run Tryz.prog w=.ok (.tuple #[.slice none 0 0,.bool false]) w:=ta_no Tryz.underlying341 rfl (by kernel_rfl) w u v 20 h
theorem ta341_yes(w:World)(v:Value):(Instr.typeAssert (.iface 341 v) 20 341 true).run Tryz.prog w=.ok (.tuple #[v,.bool true]) w:=ta_yes Tryz.underlying341 rfl w v 20
theorem ta343_no(w:World)(u:TypeId)(v:Value)(h:u≠343):(Instr.typeAssert (.iface u v) 20 343 true).run Tryz.prog w=.ok (.tuple #[.slice none 0 0,.bool false]) w:=ta_no Tryz.underlying343 rfl (by kernel_rfl) w u v 20 h
theorem ta343_yes(w:World)(v:Value):(Instr.typeAssert (.iface 343 v) 20 343 true).run Tryz.prog w=.ok (.tuple #[v,.bool true]) w:=ta_yes Tryz.underlying343 rfl w v 20
theorem ta346_no(w:World)(u:TypeId)(v:Value)(h:u≠346):(Instr.typeAssert (.iface u v) 20 346 true).run Tryz.prog w=.ok (.tuple #[.slice none 0 0,.bool false]) w:=ta_no Tryz.underlying346 rfl (by kernel_rfl) w u v 20 h
theorem ta346_yes(w:World)(v:Value):(Instr.typeAssert (.iface 346 v) 20 346 true).run Tryz.prog w=.ok (.tuple #[v,.bool true]) w:=ta_yes Tryz.underlying346 rfl w v 20
theorem ta349_no(w:World)(u:TypeId)(v:Value)(h:u≠349):(Instr.typeAssert (.iface u v) 20 349 true).run Tryz.prog w=.ok (.tuple #[.slice none 0 0,.bool false]) w:=ta_no Tryz.underlying349 rfl (by kernel_rfl) w u v 20 h
theorem ta349_yes(w:World)(v:Value):(Instr.typeAssert (.iface 349 v) 20 349 true).run Tryz.prog w=.ok (.tuple #[v,.bool true]) w:=ta_yes Tryz.underlying349 rfl w v 20
theorem ta387_no(w:World)(u:TypeId)(v:Value)(h:u≠387):(Instr.typeAssert (.iface u v) 20 387 true).run Tryz.prog w=.ok (.tuple #[.slice none 0 0,.bool false]) w:=ta_no Tryz.underlying387 rfl (by kernel_rfl) w u v 20 h
theorem ta457_no(w:World)(u:TypeId)(v:Value)(h:u≠457):(Instr.typeAssert (.iface u v) 20 457 true).run Tryz.prog w=.ok (.tuple #[.pointer none,.bool false]) w:=ta_no Tryz.underlying457 rfl (by kernel_rfl) w u v 20 h
theorem ta468_no(w:World)(u:TypeId)(v:Value)(h:u≠468):(Instr.typeAssert (.iface u v) 20 468 true).run Tryz.prog w=.ok (.tuple #[.map none,.bool false]) w:=ta_no Tryz.underlying468 rfl (by kernel_rfl) w u v 20 h
theorem ta469_no(w:World)(u:TypeId)(v:Value)(h:u≠469):(Instr.typeAssert (.iface u v) 20 469 true).run Tryz.prog w=.ok (.tuple #[.pointer none,.bool false]) w:=ta_no Tryz.underlying469 rfl (by kernel_rfl) w u v 20 h
attribute [go_sem] ta2_no ta2_yes ta3_no ta4_no ta4_yes ta5_no ta5_yes ta9_no ta9_yes ta21_no ta21_yes ta22_no ta22_yes ta26_no ta26_yes ta27_no ta27_yes ta51_no ta51_yes ta52_no ta52_yes ta62_no ta63_no ta96_no ta96_yes ta108_no ta108_yes ta109_no ta111_no ta117_no ta117_yes ta125_no ta125_yes ta139_no ta146_no ta148_no ta149_no ta155_no ta155_yes ta158_no ta190_no ta191_no ta191_yes ta194_no ta195_no ta195_yes ta198_no ta201_no ta202_no ta205_no ta208_no ta211_no ta212_no ta212_yes ta215_no ta216_no ta216_yes ta221_no ta226_no ta228_no ta228_yes ta231_no ta233_no ta235_no ta237_no ta239_no ta241_no ta243_no ta245_no ta247_no ta249_no ta251_no ta253_no ta253_yes ta255_no ta257_no ta259_no ta261_no ta263_no ta265_no ta269_no ta277_no ta277_yes ta289_no ta309_no ta309_yes ta310_no ta310_yes ta313_no ta313_yes ta315_no ta315_yes ta320_no ta320_yes ta323_no ta323_yes ta326_no ta326_yes ta329_no ta329_yes ta332_no ta332_yes ta335_no ta335_yes ta338_no ta338_yes ta341_no ta341_yes ta343_no ta343_yes ta346_no ta346_yes ta349_no ta349_yes ta387_no ta457_no ta468_no ta469_no
structure Keep(ok:Nat→Prop)(w w':World):Prop where
 os:w'.os=w.os
 tape:w'.tape=w.tape
 output:w'.output=w.output
 size:w.heap.size≤w'.heap.size
 block:∀k,k<w.heap.size→ok k→w'.heap[k]? =w.heap[k]?
abbrev New(w w':World):Prop:=Keep (fun _=>True) w w'
def Dep(ok:Nat→Prop)(w:World)(φ:World→Prop):Prop:=
 ∀w':World,(∀k,k<w.heap.size→ok k→w'.heap[k]? =w.heap[k]?)→φ w'
section
variable {ok ok':Nat→Prop} {w w1 w2:World} {φ ψ:World→Prop}
theorem Keep.refl(ok:Nat→Prop)(w:World):Keep ok w w:=⟨rfl,rfl,rfl,Nat.le_refl _,fun _ _ _=>rfl⟩
theorem Keep.trans(h:Keep ok w w1)(k:Keep ok w1 w2):Keep ok w w2:=
 ⟨k.os.trans h.os,k.tape.trans h.tape,k.output.trans h.output,Nat.le_trans h.size k.size,
  fun i hi ho=>(k.block i (Nat.lt_of_lt_of_le hi h.size) ho).trans (h.block i hi ho)⟩
theorem Keep.mono(h:Keep ok w w1)(hk:∀k,k<w.heap.size→ok' k→ok k):Keep ok' w w1:=
 ⟨h.os,h.tape,h.output,h.size,fun i hi ho=>h.block i hi (hk i hi ho)⟩
theorem Keep.then(h:Keep ok w w1)(k:Keep ok' w1 w2)(hk:∀i,i<w.heap.size→ok i→ok' i):Keep ok w w2:=
 ⟨k.os.trans h.os,k.tape.trans h.tape,k.output.trans h.output,Nat.le_trans h.size k.size,
  fun i hi ho=>(k.block i (Nat.lt_of_lt_of_le hi h.size) (hk i hi ho)).trans (h.block i hi ho)⟩
theorem New.keep(h:New w w1)(ok:Nat→Prop):Keep ok w w1:=h.mono fun _ _ _=>trivial
theorem Keep.alloc(h:Keep ok w w1)(o:Obj):Keep ok w (w1.alloc o):=
 ⟨h.os,h.tape,h.output,Nat.le_trans h.size (by simp),fun i hi ho=>(Below.heap_alloc w1 o i (Nat.lt_of_lt_of_le hi h.size)).trans (h.block i hi ho)⟩
theorem Keep.drew(h:Keep ok w w1):Keep ok w w1.drew:=⟨h.os,h.tape,h.output,h.size,h.block⟩
theorem Keep.drewN(h:Keep ok w w1)(n:Nat):Keep ok w (w1.drewN n):=⟨h.os,h.tape,h.output,h.size,h.block⟩
theorem Keep.setCell(h:Keep ok w w1){p:Addr}(hp:w.heap.size≤p.block∨¬ok p.block)(u:Value):Keep ok w (w1.setCell p u):=
 ⟨h.os,h.tape,h.output,by simpa [World.setCell]using h.size,fun i hi ho=>(Below.heap_setCell w1 p u i (by
  rintro rfl
  rcases hp with hp | hp
  ·omega
  ·exact hp ho)).trans (h.block i hi ho)⟩
theorem Keep.of_below(h:Below w.heap.size w w1):Keep ok w w1:=⟨h.os,h.tape,h.output,h.size,fun i hi _=>h.block i hi⟩
theorem New.below(h:New w w1):Below w.heap.size w w1:=⟨h.os,h.tape,h.output,h.size,fun i hi=>h.block i hi trivial⟩
theorem Keep.of_grown{row:Option Nat}(h:w.grownBy w1 row)(hr:∀k,ok k→some k≠row):Keep ok w w1:=
 ⟨h.os,h.tape,h.output,h.size,fun i hi ho=>h.block i hi (hr i ho)⟩
theorem lt_blk{b:Nat}{o:Obj}(h:w.heap[b]? =some o):b<w.heap.size:=(Array.getElem?_eq_some_iff.1 h).1
theorem Keep.blk(h:Keep ok w w1){b:Nat}{o:Obj}(hb:w.heap[b]? =some o)(ho:ok b):w1.heap[b]? =some o:=(h.block b (lt_blk hb) ho).trans hb
theorem blk_cell{b:Nat}{t:TypeId}{cs:Array Value}(h:w.heap[b]? =some (.cells cs t (0,0)))(i:Nat):w.cell? ⟨b,i,none⟩=cs[i]? :=cell_of_row w b i cs t (0,0) h
theorem blk_free{b:Nat}{t:TypeId}{cs:Array Value}(h:w.heap[b]? =some (.cells cs t (0,0)))(i:Nat):w.frozen? ⟨b,i,none⟩=false:=by simp [World.frozen?,h]
theorem blk_set{b:Nat}{t:TypeId}{cs:Array Value}(h:w.heap[b]? =some (.cells cs t (0,0)))(i:Nat)(u:Value):
 (w.setCell ⟨b,i,none⟩ u).heap[b]? =some (.cells (cs.setIfInBounds i u) t (0,0)):=by
 have hlt:=lt_blk h
 have h':w.heap[b]=.cells cs t (0,0):=by simpa [Array.getElem?_eq_getElem hlt]using h
 show(w.heap.modify b _)[b]? =_
 rw [Array.getElem?_eq_getElem (by simpa using hlt),Array.getElem_modify_self,h']
 rfl
theorem blk_far{b:Nat}{o:Obj}(h:w.heap[b]? =some o){p:Addr}(hp:b≠p.block)(u:Value):(w.setCell p u).heap[b]? =some o:=
 (Below.heap_setCell w p u b hp).trans h
theorem blk_alloc{b:Nat}{o:Obj}(h:w.heap[b]? =some o)(o':Obj):(w.alloc o').heap[b]? =some o:=(Below.heap_alloc w o' b (lt_blk h)).trans h
theorem blk_new(w:World)(o:Obj):(w.alloc o).heap[w.heap.size]? =some o:=heap_alloc_new w o
theorem cell_lt{a:Addr}{v:Value}(h:w.cell? a=some v):a.block<w.heap.size:=World.block_lt_of_cell? w a h
theorem Keep.cell(h:Keep ok w w1){a:Addr}{v:Value}(hc:w.cell? a=some v)(ho:ok a.block):w1.cell? a=some v:=
 (World.cell?_of_block (h.block a.block (cell_lt hc) ho)).trans hc
theorem cell_alloc{a:Addr}{v:Value}(hc:w.cell? a=some v)(o:Obj):(w.alloc o).cell? a=some v:=((Keep.refl (fun _=>True) w).alloc o).cell hc trivial
theorem Dep.here(h:Dep ok w φ):φ w:=h w fun _ _ _=>rfl
theorem Dep.imp(h:Dep ok w φ)(hi:∀w',φ w'→ψ w'):Dep ok w ψ:=fun w' hw=>hi w' (h w' hw)
theorem Dep.and(h:Dep ok w φ)(k:Dep ok w ψ):Dep ok w (fun w'=>φ w'∧ψ w'):=fun w' hw=>⟨h w' hw,k w' hw⟩
theorem Dep.step(h:Dep ok w φ)(hs:w.heap.size≤w1.heap.size)(hb:∀k,k<w.heap.size→ok k→w1.heap[k]? =w.heap[k]?)(ho:∀k,k<w.heap.size→ok k→ok' k):Dep ok' w1 φ:=
 fun w' hw=>h w' fun k hk hok=>(hw k (Nat.lt_of_lt_of_le hk hs) (ho k hk hok)).trans (hb k hk hok)
theorem Dep.mono(h:Dep ok w φ)(ho:∀k,k<w.heap.size→ok k→ok' k):Dep ok' w φ:=h.step (Nat.le_refl _) (fun _ _ _=>rfl) ho
theorem Dep.keep(h:Dep ok w φ)(k:Keep ok' w w1)(ho:∀k,k<w.heap.size→ok k→ok' k):Dep ok w1 φ:=
 h.step k.size (fun i hi hok=>k.block i hi (ho i hi hok)) fun _ _ h=>h
theorem Dep.new(h:Dep ok w φ)(k:New w w1):Dep ok w1 φ:=h.keep k fun _ _ _=>trivial
theorem Dep.pure{p:Prop}(h:p):Dep ok w (fun _=>p):=fun _ _=>h
theorem Dep.blk{b:Nat}{o:Obj}(h:w.heap[b]? =some o)(ho:ok b):Dep ok w (fun w'=>w'.heap[b]? =some o):=
 fun _ hw=>(hw b (lt_blk h) ho).trans h
end
def BytesAt(w:World)(d i:Nat)(l:List UInt8):Prop:=
 ∃cells,w.heap[d]? =some (.cells cells 5 (0,0))∧∀j (h:j<l.length),cells[i+j]? =some (.int .u8 (l[j].toNat:Int))
theorem BytesAt.cell{w:World}{d i:Nat}{l:List UInt8}(h:BytesAt w d i l)(j:Nat)(hj:j<l.length):w.cell? ⟨d,i+j,none⟩=some (.int .u8 (l[j].toNat:Int)):=by
 obtain⟨cells,hd,hc⟩:=h
 rw [blk_cell hd]
 exact hc j hj
theorem BytesAt.drop{w:World}{d i:Nat}{p r:List UInt8}(h:BytesAt w d i (p++r)):BytesAt w d (i+p.length) r:=by
 obtain⟨cells,hd,hc⟩:=h
 refine⟨cells,hd,fun j hj=>?_⟩
 have:=hc (p.length+j) (by simp;omega)
 rw [List.getElem_append_right (by omega)]at this
 simpa [Nat.add_assoc]using this
theorem BytesAt.take{w:World}{d i:Nat}{p r:List UInt8}(h:BytesAt w d i (p++r)):BytesAt w d i p:=by
 obtain⟨cells,hd,hc⟩:=h
 refine⟨cells,hd,fun j hj=>?_⟩
 have:=hc j (by simp;omega)
 rwa [List.getElem_append_left hj]at this
theorem BytesAt.of_blk{w w':World}{d i:Nat}{l:List UInt8}(h:BytesAt w d i l)(hd:w'.heap[d]? =w.heap[d]?):BytesAt w' d i l:=by
 obtain⟨cells,hb,hc⟩:=h
 exact⟨cells,hd.trans hb,hc⟩
def Buf(w:World)(g:Nat)(rem:List UInt8):Prop:=
 ∃d n c i:Nat,w.heap[g]? =some (.cells #[.slice (some ⟨d,0,none⟩) n c,.int .i64 (i:Int)] 122 (0,0))∧d<g∧BytesAt w d i rem∧i+rem.length=n∧n≤c∧c≤9223372036854775807∧n≤1099511627776
theorem Buf.lt{w:World}{g:Nat}{rem:List UInt8}(h:Buf w g rem):g<w.heap.size:=by
 obtain⟨d,n,c,i,hg,_⟩:=h
 exact lt_blk hg
theorem Buf.keep{ok:Nat→Prop}{w w':World}{g:Nat}{rem:List UInt8}(h:Buf w g rem)(k:Keep ok w w')(ho:∀i,i≤g→ok i):Buf w' g rem:=by
 obtain⟨d,n,c,i,hg,hdg,hb,hr⟩:=h
 refine⟨d,n,c,i,k.blk hg (ho g (Nat.le_refl _)),hdg,hb.of_blk (k.block d ?_ (ho d (Nat.le_of_lt hdg))),hr⟩
 have:=lt_blk hg
 omega
theorem Buf.new{w w':World}{g:Nat}{rem:List UInt8}(h:Buf w g rem)(k:New w w'):Buf w' g rem:=h.keep k fun _ _=>trivial
def Adv(g:Nat)(r:List UInt8)(w w':World):Prop:=Keep (fun k=>k≠g) w w'∧Buf w' g r
theorem Adv.size{w w1:World}{g:Nat}{r:List UInt8}(h:Adv g r w w1):w.heap.size≤w1.heap.size:=h.1.size
theorem Adv.trans{w w1 w2:World}{g:Nat}{r r':List UInt8}(h:Adv g r w w1)(k:Adv g r' w1 w2):Adv g r' w w2:=⟨h.1.trans k.1,k.2⟩
theorem Adv.look{w w1:World}{g:Nat}{r:List UInt8}(h:Buf w g r)(k:New w w1):Adv g r w w1:=⟨k.keep _,h.new k⟩
def SlB(w:World)(v:Value)(l:List UInt8):Prop:=
 ∃A c,v=.slice A l.length c∧l.length≤c∧c≤9223372036854775807∧(l≠[]→∃d i,A=some ⟨d,i,none⟩∧BytesAt w d i l)
theorem ret_int{k:IntKind}{a b:Int}(h:a=b):Ending.returned (.int k a)=.returned (.int k b):=by rw [h]
theorem readCheck_is(g d n c i:Nat)(k:Int)(w:World)
 (h0:w.cell? ⟨g,0,none⟩=some (.slice (some ⟨d,0,none⟩) n c)) (h1:w.cell? ⟨g,1,none⟩=some (.int .i64 i))
 (hk0:0≤k) (hk:k≤1099511627776) (hi:i≤n) (hn:n≤1099511627776):
 Calls Tryz.prog 217 #[.pointer (some ⟨g,0,none⟩),.int .i64 k] w fun e w'=>e=.returned (.bool (decide ((n:Int)<i+k)))∧∃q,w'=w.drewN q:=by
 go_enter Tryz.func217,Tryz.ntmps217
 go_wp2
 go_quiet (fail)
 go_wp2
 go_ret
 exact⟨rfl,_,rfl⟩
theorem buf_Len(g:Nat)(rem:List UInt8)(w:World)(H:Buf w g rem):
 Calls Tryz.prog 95 #[.pointer (some ⟨g,0,none⟩)] w fun e w'=>e=.returned (.int .i64 rem.length)∧Adv g rem w w':=by
 obtain⟨d,n,c,i,hg,hdg,hb,hl,hnc,hc,hn⟩:=id H
 have h0:=(blk_cell hg 0).trans rfl
 have h1:=(blk_cell hg 1).trans rfl
 have e1:(n:Int)-i=rem.length:=by omega
 have hi:(i:Int)≤n:=by omega
 have E:=Lib.hid e1
 clear e1 hg hb hl
 go_enter Tryz.func95,Tryz.ntmps95
 go_wp2
 go_quiet (fail)
 go_wp2
 go_ret
 exact⟨ret_int E.out,Adv.look H ((Keep.refl _ w).drewN _)⟩
theorem buf_Bytes(g:Nat)(rem:List UInt8)(w:World)(H:Buf w g rem):
 Calls Tryz.prog 27 #[.pointer (some ⟨g,0,none⟩)] w fun e w'=>∃v,e=.returned v∧Adv g rem w w'∧SlB w' v rem:=by
 obtain⟨d,n,c,i,hg,hdg,hb,hl,hnc,hc,hn⟩:=id H
 have h0:=(blk_cell hg 0).trans rfl
 have h1:=(blk_cell hg 1).trans rfl
 have e1:n-i=rem.length:=by omega
 have hi:(i:Int)≤n:=by omega
 have hb0:=hb
 have fin:∀A,(c≠i→A=some ⟨d,i,none⟩)→∀w',New w w'→SlB w' (.slice A (n-i) (c-i)) rem:=fun A hA w' k=>by
  rw [e1]
  exact⟨A,c-i,rfl,by omega,by omega,fun hne=>⟨d,i,hA (by have:=List.length_pos_iff.2 hne;omega),hb0.of_blk (k.block d (by have:=lt_blk hg;omega) trivial)⟩⟩
 have nil:n≤i→(i:Int)≤n→rem=[]:=fun _ _=>List.eq_nil_of_length_eq_zero (by omega)
 have F:=Lib.hid fin
 have R:Hid (n≤i→(i:Int)≤n→rem=[]):=Lib.hid nil
 clear nil fin e1 hg hb hb0 hl
 by_cases hci:c=i
 ·subst hci
  obtain rfl:rem=[]:=R.out hnc hi
  go_enter Tryz.func27,Tryz.ntmps27
  go_wp2
  go_quiet (fail)
  go_wp2
  go_ret
  exact⟨_,rfl,Adv.look H ((Keep.refl _ w).drewN _),⟨_,0,rfl,Nat.le_refl _,by omega,fun h=>absurd rfl h⟩⟩
 ·go_enter Tryz.func27,Tryz.ntmps27
  go_wp2
  go_quiet (fail)
  go_wp2
  go_ret
  exact⟨_,rfl,Adv.look H ((Keep.refl _ w).drewN _),F.out _ (fun _=>rfl) _ ((Keep.refl _ w).drewN _)⟩
theorem buf_Skip(g:Nat)(p r:List UInt8)(k:Int)(w:World)(H:Buf w g (p++r))(hk:k=p.length):
 Calls Tryz.prog 96 #[.pointer (some ⟨g,0,none⟩),.int .i64 k] w fun e w'=>e=.returned (.tuple #[])∧Adv g r w w':=by
 obtain⟨d,n,c,i,hg,hdg,hb,hl,hnc,hc,hn⟩:=id H
 have h0:=(blk_cell hg 0).trans rfl
 have h1:=(blk_cell hg 1).trans rfl
 have f1:=blk_free hg 1
 have hl2:i+(p.length+r.length)=n:=by rw [←hl,List.length_append]
 have hk0:0≤k∧k≤1099511627776∧(i:Int)≤1099511627776:=by omega
 have fin:Buf (w.setCell ⟨g,1,none⟩ (.int .i64 (i+k))) g r:=by
  refine⟨d,n,c,i+p.length,?_,hdg,hb.drop.of_blk (Below.heap_setCell _ _ _ _ (by simp;omega)),by omega,hnc,hc,hn⟩
  have:=blk_set hg 1 (.int .i64 (i+k))
  rw [this,hk]
  simp
 have kp:Keep (fun b=>b≠g) w (w.setCell ⟨g,1,none⟩ (.int .i64 (i+k))):=(Keep.refl _ w).setCell (.inr (fun h=>h rfl)) _
 obtain⟨hk1,hk2,hk3⟩:=hk0
 have F:=Lib.hid fin
 have G:=Lib.hid kp
 clear fin kp hg hb hl hl2 hk
 go_enter Tryz.func96,Tryz.ntmps96
 go_wp2
 go_end0
 exact⟨rfl,G.out,F.out⟩
theorem buf_ReadByte(g:Nat)(b:UInt8)(r:List UInt8)(w:World)(H:Buf w g (b::r)):
 Calls Tryz.prog 183 #[.pointer (some ⟨g,0,none⟩)] w fun e w'=>e=.returned (.tuple #[.int .u8 b.toNat,.nilIface])∧Adv g r w w':=by
 obtain⟨d,n,c,i,hg,hdg,hb,hl,hnc,hc,hn⟩:=id H
 have h0:=(blk_cell hg 0).trans rfl
 have h1:=(blk_cell hg 1).trans rfl
 have f1:=blk_free hg 1
 have hcell:=hb.cell 0 (by simp)
 simp only [Nat.add_zero,List.getElem_cons_zero]at hcell
 have hl2:i+(r.length+1)=n:=by rw [←hl,List.length_cons]
 have hlt:decide ((n:Int)<i+1)=false:=by simp;omega
 have hi0:(i:Int)<n:=by omega
 have hi1:(i:Int)≤1099511627776:=by omega
 have fin:∀q,Adv g r w ((w.setCell ⟨g,1,none⟩ (.int .i64 (i+1))).drewN q):=fun q=>by
  refine⟨((Keep.refl _ w).setCell (.inr (fun h=>h rfl)) _).drewN _,d,n,c,i+1,?_,hdg,(BytesAt.drop (p:=[b]) hb).of_blk (Below.heap_setCell _ _ _ _ (by simp;omega)),by omega,hnc,hc,hn⟩
  exact(blk_set hg 1 (.int .i64 (i+1))).trans (by simp)
 have F:=Lib.hid fin
 clear fin hg hb hl hl2
 go_enter Tryz.func183,Tryz.ntmps183
 go_wp2_with fail
 refine(readCheck_is g d n c i 1 _ (by go_simp) (by go_simp) (by omega) (by omega) (by omega) hn).mono ?_
 rintro e w' ⟨rfl,q,rfl⟩
 go_wp2
 go_quiet (fail)
 go_wp2
 go_ret2
 exact⟨rfl,F.out _⟩
theorem buf_PeekByte(g:Nat)(b:UInt8)(r:List UInt8)(w:World)(H:Buf w g (b::r)):
 Calls Tryz.prog 218 #[.pointer (some ⟨g,0,none⟩)] w fun e w'=>e=.returned (.tuple #[.int .u8 b.toNat,.nilIface])∧New w w':=by
 obtain⟨d,n,c,i,hg,hdg,hb,hl,hnc,hc,hn⟩:=id H
 have h0:=(blk_cell hg 0).trans rfl
 have h1:=(blk_cell hg 1).trans rfl
 have hcell:=hb.cell 0 (by simp)
 simp only [Nat.add_zero,List.getElem_cons_zero]at hcell
 have hl2:i+(r.length+1)=n:=by rw [←hl,List.length_cons]
 have hlt:decide ((n:Int)<i+1)=false:=by simp;omega
 have hi0:(i:Int)<n:=by omega
 have hi1:(i:Int)≤1099511627776:=by omega
 clear hg hb hl hl2
 go_enter Tryz.func218,Tryz.ntmps218
 go_wp2_with fail
 refine(readCheck_is g d n c i 1 _ (by go_simp) (by go_simp) (by omega) (by omega) (by omega) hn).mono ?_
 rintro e w' ⟨rfl,q,rfl⟩
 go_wp2
 go_quiet (fail)
 go_wp2
 go_ret2
 exact⟨rfl,((Keep.refl _ w).drewN _).drewN _⟩
theorem readType_is(g:Nat)(b:UInt8)(r:List UInt8)(w:World)(H:Buf w g (b::r)):
 Calls Tryz.prog 92 #[.pointer (some ⟨g,0,none⟩)] w fun e w'=>e=.returned (.tuple #[.int .u8 b.toNat,.nilIface])∧Adv g r w w':=by
 go_enter Tryz.func92,Tryz.ntmps92
 go_wp2_with fail
 refine(buf_ReadByte g b r _ H).mono ?_
 rintro e w1 ⟨rfl,h1⟩
 go_wp2
 go_ret2
 exact⟨rfl,h1⟩
theorem peekType_is(g:Nat)(b:UInt8)(r:List UInt8)(w:World)(H:Buf w g (b::r)):
 Calls Tryz.prog 187 #[.pointer (some ⟨g,0,none⟩)] w fun e w'=>e=.returned (.tuple #[.int .u8 b.toNat,.nilIface])∧New w w':=by
 go_enter Tryz.func187,Tryz.ntmps187
 go_wp2_with fail
 refine(buf_PeekByte g b r _ H).mono ?_
 rintro e w1 ⟨rfl,h1⟩
 go_wp2
 go_ret2
 exact⟨rfl,h1⟩
theorem tryReadNull_no(g:Nat)(b:UInt8)(r:List UInt8)(w:World)(H:Buf w g (b::r))(hb:b≠64):
 Calls Tryz.prog 79 #[.pointer (some ⟨g,0,none⟩)] w fun e w'=>e=.returned (.bool false)∧Adv g (b::r) w w':=by
 have hbn:((b.toNat:Int)==64)=false:=by
  rw [beq_eq_false_iff_ne];intro h
  exact hb (UInt8.toNat.inj (by simp;omega))
 go_enter Tryz.func79,Tryz.ntmps79
 go_wp2_with fail
 refine(buf_Len g _ _ H).mono ?_
 rintro e w1 ⟨rfl,h1⟩
 go_wp2_with fail
 refine(buf_Bytes g _ _ h1.2).mono ?_
 rintro e w2 ⟨v,rfl,h2,A,c,rfl,hc1,hc2,hA⟩
 obtain⟨d,i,rfl,hd⟩:=hA (by simp)
 have hcell:=hd.cell 0 (by simp)
 simp only [Nat.add_zero,List.getElem_cons_zero]at hcell
 have hi:(0:Int)<((b::r).length:Nat):=by simp
 go_wp2
 go_ret
 exact⟨rfl,h1.trans h2⟩
theorem tryReadNull_yes(g:Nat)(r:List UInt8)(w:World)(H:Buf w g (64::r)):
 Calls Tryz.prog 79 #[.pointer (some ⟨g,0,none⟩)] w fun e w'=>e=.returned (.bool true)∧Adv g r w w':=by
 go_enter Tryz.func79,Tryz.ntmps79
 go_wp2_with fail
 refine(buf_Len g _ _ H).mono ?_
 rintro e w1 ⟨rfl,h1⟩
 go_wp2_with fail
 refine(buf_Bytes g _ _ h1.2).mono ?_
 rintro e w2 ⟨v,rfl,h2,A,c,rfl,hc1,hc2,hA⟩
 obtain⟨d,i,rfl,hd⟩:=hA (by simp)
 have hcell:=hd.cell 0 (by simp)
 simp only [Nat.add_zero,List.getElem_cons_zero]at hcell
 have hi:(0:Int)<((64::r).length:Nat):=by simp
 go_wp2_with fail
 refine(buf_Skip g [64] r 1 _ h2.2 rfl).mono ?_
 rintro e w3 ⟨rfl,h3⟩
 go_wp2
 go_ret
 exact⟨rfl,(h1.trans h2).trans h3⟩
theorem buf_Next(g:Nat)(p r:List UInt8)(k:Int)(w:World)(H:Buf w g (p++r))(hk:k=p.length):
 Calls Tryz.prog 185 #[.pointer (some ⟨g,0,none⟩),.int .i64 k] w fun e w'=>∃v,e=.returned (.tuple #[v,.bool true])∧Adv g r w w'∧SlB w' v p:=by
 obtain⟨d,n,c,i,hg,hdg,hb,hl,hnc,hc,hn⟩:=id H
 have h0:=(blk_cell hg 0).trans rfl
 have h1:=(blk_cell hg 1).trans rfl
 have f1:=blk_free hg 1
 have hl2:i+(p.length+r.length)=n:=by rw [←hl,List.length_append]
 have hlt:decide ((n:Int)<i+k)=false:=by simp;omega
 have hk0:0≤k∧k≤1099511627776∧(i:Int)≤1099511627776∧(i:Int)+k≤c∧(i:Int)≤i+k∧i≤n:=by omega
 have fin:∀q,Adv g r w ((w.setCell ⟨g,1,none⟩ (.int .i64 (i+k))).drewN q):=fun q=>by
  refine⟨((Keep.refl _ w).setCell (.inr (fun h=>h rfl)) _).drewN _,d,n,c,i+p.length,?_,hdg,hb.drop.of_blk (Below.heap_setCell _ _ _ _ (by simp;omega)),by omega,hnc,hc,hn⟩
  exact(blk_set hg 1 (.int .i64 (i+k))).trans (by simp [hk])
 have fin2:∀q A,(c≠i→A=some ⟨d,i,none⟩)→SlB ((w.setCell ⟨g,1,none⟩ (.int .i64 (i+k))).drewN q) (.slice A ((i+k).toNat-i) (c-i)) p:=fun q A hA=>by
  refine⟨A,c-i,by rw [show(i+k).toNat-i=p.length by omega],by omega,by omega,fun hne=>⟨d,i,hA (by have:=List.length_pos_iff.2 hne;omega),hb.take.of_blk (Below.heap_setCell _ _ _ _ (by simp;omega))⟩⟩
 have fin3:c=i→p=[]∧k=0:=fun h=>by
  have h0:p.length=0:=by omega
  exact⟨List.eq_nil_of_length_eq_zero h0,by omega⟩
 obtain⟨hk1,hk2,hk3,hk4,hk5,hk6⟩:=hk0
 have F:=Lib.hid fin
 have F2:=Lib.hid fin2
 clear fin fin2 hg hb hl hl2 hk
 by_cases hci:c=i
 ·obtain⟨rfl,rfl⟩:=fin3 hci
  subst hci
  go_enter Tryz.func185,Tryz.ntmps185
  go_wp2_with fail
  refine(readCheck_is g d n c c 0 _ (by go_simp) (by go_simp) hk1 hk2 hk6 hn).mono ?_
  rintro e w' ⟨rfl,q,rfl⟩
  go_wp2
  go_quiet (fail)
  go_wp2
  go_ret2
  exact⟨_,rfl,F.out _,⟨_,0,rfl,Nat.le_refl _,by omega,fun h=>absurd rfl h⟩⟩
 ·clear fin3
  go_enter Tryz.func185,Tryz.ntmps185
  go_wp2_with fail
  refine(readCheck_is g d n c i k _ (by go_simp) (by go_simp) hk1 hk2 hk6 hn).mono ?_
  rintro e w' ⟨rfl,q,rfl⟩
  go_wp2
  go_quiet (fail)
  go_wp2
  go_ret2
  exact⟨_,rfl,F.out _,F2.out _ _ (fun _=>rfl)⟩
theorem BytesAt.cell0{w:World}{d i:Nat}{b:UInt8}{l:List UInt8}(h:BytesAt w d i (b::l)):w.cell? ⟨d,i,none⟩=some (.int .u8 (b.toNat:Int)):=h.cell 0 (by simp)
theorem BytesAt.tail{w:World}{d i:Nat}{b:UInt8}{l:List UInt8}(h:BytesAt w d i (b::l)):BytesAt w d (i+1) l:=BytesAt.drop (p:=[b]) h
theorem be_Uint16(d i n c:Nat)(b0 b1:UInt8)(w:World)(hn:2≤n)(hb:BytesAt w d i [b0,b1]):
 Calls Tryz.prog 194 #[.agg #[],.slice (some ⟨d,i,none⟩) n c] w fun e w'=>e=.returned (.int .u16 (Lib.beNat [b0,b1]))∧New w w':=by
 have c0:=hb.cell0
 have c1:=hb.tail.cell0
 have h0:b0.toNat<256:=b0.toNat_lt
 have h1:b1.toNat<256:=b1.toNat_lt
 have l1:(1:Int)<n:=by omega
 have l0:(0:Int)<n:=by omega
 have hv:((Lib.beNat [b0,b1]:Nat):Int)=(b1.toNat:Int)+(b0.toNat:Int)*256:=by
  simp only [Lib.beNat,Lib.beFrom]
  push_cast
  omega
 have V:=Lib.hid hv
 have e0:=cell_alloc c0 (.cells #[] 362)
 have e1:=cell_alloc c1 (.cells #[] 362)
 clear c0 c1
 clear hv hb
 go_enter Tryz.func194,Tryz.ntmps194
 go_wp2
 go_quiet (fail)
 go_wp2
 go_ret
 refine⟨?_,((Keep.refl _ w).alloc _).drewN _⟩
 rw [V.out]
 show Ending.returned (.int .u16 _)=_
 refine ret_int ?_
 simp (disch:=omega) only [u16_or8]
theorem be_Uint32(d i n c:Nat)(b0 b1 b2 b3:UInt8)(w:World)(hn:4≤n)(hb:BytesAt w d i [b0,b1,b2,b3]):
 Calls Tryz.prog 186 #[.agg #[],.slice (some ⟨d,i,none⟩) n c] w fun e w'=>e=.returned (.int .u32 (Lib.beNat [b0,b1,b2,b3]))∧New w w':=by
 have c0:=hb.cell0
 have c1:=hb.tail.cell0
 have c2:w.cell? ⟨d,i+2,none⟩=_:=hb.tail.tail.cell0
 have c3:w.cell? ⟨d,i+3,none⟩=_:=hb.tail.tail.tail.cell0
 have h0:b0.toNat<256:=b0.toNat_lt
 have h1:b1.toNat<256:=b1.toNat_lt
 have h2:b2.toNat<256:=b2.toNat_lt
 have h3:b3.toNat<256:=b3.toNat_lt
 have l3:(3:Int)<n:=by omega
 have l2:(2:Int)<n:=by omega
 have l1:(1:Int)<n:=by omega
 have l0:(0:Int)<n:=by omega
 have hv:((Lib.beNat [b0,b1,b2,b3]:Nat):Int)=(b3.toNat:Int)+(b2.toNat:Int)*256+(b1.toNat:Int)*65536+(b0.toNat:Int)*16777216:=by
  simp only [Lib.beNat,Lib.beFrom]
  push_cast
  omega
 have V:=Lib.hid hv
 have e0:=cell_alloc c0 (.cells #[] 362)
 have e1:=cell_alloc c1 (.cells #[] 362)
 have e2:=cell_alloc c2 (.cells #[] 362)
 have e3:=cell_alloc c3 (.cells #[] 362)
 clear c0 c1 c2 c3
 clear hv hb
 go_enter Tryz.func186,Tryz.ntmps186
 go_wp2
 go_quiet (fail)
 go_wp2
 go_ret
 refine⟨?_,((Keep.refl _ w).alloc _).drewN _⟩
 rw [V.out]
 show Ending.returned (.int .u32 _)=_
 refine ret_int ?_
 simp (disch:=omega) only [u32_or8,u32_or16,u32_or24]
theorem be_Uint64(d i n c:Nat)(b0 b1 b2 b3 b4 b5 b6 b7:UInt8)(w:World)(hn:8≤n)(hb:BytesAt w d i [b0,b1,b2,b3,b4,b5,b6,b7]):
 Calls Tryz.prog 195 #[.agg #[],.slice (some ⟨d,i,none⟩) n c] w fun e w'=>e=.returned (.int .u64 (Lib.beNat [b0,b1,b2,b3,b4,b5,b6,b7]))∧New w w':=by
 have c0:=hb.cell0
 have c1:=hb.tail.cell0
 have c2:w.cell? ⟨d,i+2,none⟩=_:=hb.tail.tail.cell0
 have c3:w.cell? ⟨d,i+3,none⟩=_:=hb.tail.tail.tail.cell0
 have c4:w.cell? ⟨d,i+4,none⟩=_:=hb.tail.tail.tail.tail.cell0
 have c5:w.cell? ⟨d,i+5,none⟩=_:=hb.tail.tail.tail.tail.tail.cell0
 have c6:w.cell? ⟨d,i+6,none⟩=_:=hb.tail.tail.tail.tail.tail.tail.cell0
 have c7:w.cell? ⟨d,i+7,none⟩=_:=hb.tail.tail.tail.tail.tail.tail.tail.cell0
 have h0:b0.toNat<256:=b0.toNat_lt
 have h1:b1.toNat<256:=b1.toNat_lt
 have h2:b2.toNat<256:=b2.toNat_lt
 have h3:b3.toNat<256:=b3.toNat_lt
 have h4:b4.toNat<256:=b4.toNat_lt
 have h5:b5.toNat<256:=b5.toNat_lt
 have h6:b6.toNat<256:=b6.toNat_lt
 have h7:b7.toNat<256:=b7.toNat_lt
 have l7:(7:Int)<n:=by omega
 have l6:(6:Int)<n:=by omega
 have l5:(5:Int)<n:=by omega
 have l4:(4:Int)<n:=by omega
 have l3:(3:Int)<n:=by omega
 have l2:(2:Int)<n:=by omega
 have l1:(1:Int)<n:=by omega
 have l0:(0:Int)<n:=by omega
 have hv:((Lib.beNat [b0,b1,b2,b3,b4,b5,b6,b7]:Nat):Int)=(b7.toNat:Int)+(b6.toNat:Int)*256+(b5.toNat:Int)*65536+(b4.toNat:Int)*16777216+(b3.toNat:Int)*4294967296+(b2.toNat:Int)*1099511627776+(b1.toNat:Int)*281474976710656+(b0.toNat:Int)*72057594037927936:=by
  simp only [Lib.beNat,Lib.beFrom]
  push_cast
  omega
 have V:=Lib.hid hv
 have e0:=cell_alloc c0 (.cells #[] 362)
 have e1:=cell_alloc c1 (.cells #[] 362)
 have e2:=cell_alloc c2 (.cells #[] 362)
 have e3:=cell_alloc c3 (.cells #[] 362)
 have e4:=cell_alloc c4 (.cells #[] 362)
 have e5:=cell_alloc c5 (.cells #[] 362)
 have e6:=cell_alloc c6 (.cells #[] 362)
 have e7:=cell_alloc c7 (.cells #[] 362)
 clear c0 c1 c2 c3 c4 c5 c6 c7
 clear hv hb
 go_enter Tryz.func195,Tryz.ntmps195
 go_wp2
 go_quiet (fail)
 go_wp2
 go_ret
 refine⟨?_,((Keep.refl _ w).alloc _).drewN _⟩
 rw [V.out]
 show Ending.returned (.int .u64 _)=_
 refine ret_int ?_
 simp (disch:=omega) only [u64_or8,u64_or16,u64_or24,u64_or32,u64_or40,u64_or48,u64_or56]
theorem two_of{l:List UInt8}(h:l.length=2):∃a b,l=[a,b]:=by
 match l,h with
 | [a,b],_=>exact⟨a,b,rfl⟩
theorem four_of{l:List UInt8}(h:l.length=4):∃a b c d,l=[a,b,c,d]:=by
 match l,h with
 | [a,b,c,d],_=>exact⟨a,b,c,d,rfl⟩
theorem eight_of{l:List UInt8}(h:l.length=8):∃a b c d e f g i,l=[a,b,c,d,e,f,g,i]:=by
 match l,h with
 | [a,b,c,d,e,f,g,i],_=>exact⟨a,b,c,d,e,f,g,i,rfl⟩
theorem buf_ReadUint16(g:Nat)(p r:List UInt8)(w:World)(H:Buf w g (p++r))(hp:p.length=2):
 Calls Tryz.prog 188 #[.pointer (some ⟨g,0,none⟩)] w fun e w'=>e=.returned (.tuple #[.int .u16 (Lib.beNat p),.nilIface])∧Adv g r w w':=by
 obtain⟨d,n,c,i,hg,hdg,hb,hl,hnc,hc,hn⟩:=id H
 have h0:=(blk_cell hg 0).trans rfl
 have h1:=(blk_cell hg 1).trans rfl
 have f1:=blk_free hg 1
 have hl2:i+(2+r.length)=n:=by rw [←hl,List.length_append,hp]
 have hlt:decide ((n:Int)<i+2)=false:=by simp;omega
 have hi0:(i:Int)≤n:=by omega
 have hi1:(i:Int)≤1099511627776:=by omega
 have hci:¬c=i:=by omega
 have hni:2≤n-i:=by omega
 have fin:∀w1,New w w1→Adv g r w (w1.setCell ⟨g,1,none⟩ (.int .i64 (i+2))):=fun w1 k=>by
  have hg1:=k.blk hg trivial
  refine⟨(k.keep _).setCell (.inr (fun h=>h rfl)) _,d,n,c,i+2,?_,hdg,?_,by omega,hnc,hc,hn⟩
  ·exact(blk_set hg1 1 (.int .i64 (i+2))).trans (by simp)
  ·have:=hb.drop
   rw [hp]at this
   exact this.of_blk ((Below.heap_setCell _ _ _ _ (by simp;omega)).trans (k.block d (by have:=lt_blk hg;omega) trivial))
 have hbp:=hb.take
 obtain⟨a,b,rfl⟩:=two_of hp
 have kk:∀w1,New w w1→BytesAt w1 d i [a,b]∧(w1.cell? ⟨g,0,none⟩=some (.slice (some ⟨d,0,none⟩) n c)∧w1.cell? ⟨g,1,none⟩=some (.int .i64 i))∧w1.frozen? ⟨g,1,none⟩=false:=fun w1 k=>
  ⟨hbp.of_blk (k.block d (by have:=lt_blk hg;omega) trivial),⟨(blk_cell (k.blk hg trivial) 0).trans rfl,(blk_cell (k.blk hg trivial) 1).trans rfl⟩,blk_free (k.blk hg trivial) 1⟩
 have F:=Lib.hid fin
 have K:=Lib.hid kk
 clear fin kk hg hb hl hl2 hbp
 go_enter Tryz.func188,Tryz.ntmps188
 go_wp2_with fail
 refine(readCheck_is g d n c i 2 _ (by go_simp) (by go_simp) (by omega) (by omega) (by omega) hn).mono ?_
 rintro e w' ⟨rfl,q,rfl⟩
 go_wp2
 go_region_held3 (fun w'=>w'.cell? ⟨g,0,none⟩=some (.slice (some ⟨d,0,none⟩) n c)∧w'.cell? ⟨g,1,none⟩=some (.int .i64 i))
  (first | go_keep | exact(K.out _ ((((Keep.refl _ w).drewN _).drew).trans k2)).2.1)
  (first | (go_at_call 194;refine(be_Uint16 d i _ _ a b _ hni (K.out _ (((Keep.refl _ w).drewN _).drew)).1).mono ?_;rintro e w2 ⟨rfl,k2⟩))
 have k3:=(((Keep.refl _ w).drewN q).drew).trans k2
 have K1:=(K.out _ k3).2.1.2
 have K2:=(K.out _ k3).2.2
 go_wp2
 go_ret2
 exact⟨rfl,F.out _ k3⟩
theorem buf_ReadUint32(g:Nat)(p r:List UInt8)(w:World)(H:Buf w g (p++r))(hp:p.length=4):
 Calls Tryz.prog 189 #[.pointer (some ⟨g,0,none⟩)] w fun e w'=>e=.returned (.tuple #[.int .u32 (Lib.beNat p),.nilIface])∧Adv g r w w':=by
 obtain⟨d,n,c,i,hg,hdg,hb,hl,hnc,hc,hn⟩:=id H
 have h0:=(blk_cell hg 0).trans rfl
 have h1:=(blk_cell hg 1).trans rfl
 have f1:=blk_free hg 1
 have hl2:i+(4+r.length)=n:=by rw [←hl,List.length_append,hp]
 have hlt:decide ((n:Int)<i+4)=false:=by simp;omega
 have hi0:(i:Int)≤n:=by omega
 have hi1:(i:Int)≤1099511627776:=by omega
 have hci:¬c=i:=by omega
 have hni:4≤n-i:=by omega
 have fin:∀w1,New w w1→Adv g r w (w1.setCell ⟨g,1,none⟩ (.int .i64 (i+4))):=fun w1 k=>by
  have hg1:=k.blk hg trivial
  refine⟨(k.keep _).setCell (.inr (fun h=>h rfl)) _,d,n,c,i+4,?_,hdg,?_,by omega,hnc,hc,hn⟩
  ·exact(blk_set hg1 1 (.int .i64 (i+4))).trans (by simp)
  ·have:=hb.drop
   rw [hp]at this
   exact this.of_blk ((Below.heap_setCell _ _ _ _ (by simp;omega)).trans (k.block d (by have:=lt_blk hg;omega) trivial))
 have hbp:=hb.take
 obtain⟨a,b,c0,d0,rfl⟩:=four_of hp
 have kk:∀w1,New w w1→BytesAt w1 d i [a,b,c0,d0]∧(w1.cell? ⟨g,0,none⟩=some (.slice (some ⟨d,0,none⟩) n c)∧w1.cell? ⟨g,1,none⟩=some (.int .i64 i))∧w1.frozen? ⟨g,1,none⟩=false:=fun w1 k=>
  ⟨hbp.of_blk (k.block d (by have:=lt_blk hg;omega) trivial),⟨(blk_cell (k.blk hg trivial) 0).trans rfl,(blk_cell (k.blk hg trivial) 1).trans rfl⟩,blk_free (k.blk hg trivial) 1⟩
 have F:=Lib.hid fin
 have K:=Lib.hid kk
 clear fin kk hg hb hl hl2 hbp
 go_enter Tryz.func189,Tryz.ntmps189
 go_wp2_with fail
 refine(readCheck_is g d n c i 4 _ (by go_simp) (by go_simp) (by omega) (by omega) (by omega) hn).mono ?_
 rintro e w' ⟨rfl,q,rfl⟩
 go_wp2
 go_region_held3 (fun w'=>w'.cell? ⟨g,0,none⟩=some (.slice (some ⟨d,0,none⟩) n c)∧w'.cell? ⟨g,1,none⟩=some (.int .i64 i))
  (first | go_keep | exact(K.out _ ((((Keep.refl _ w).drewN _).drew).trans k2)).2.1)
  (first | (go_at_call 186;refine(be_Uint32 d i _ _ a b c0 d0 _ hni (K.out _ (((Keep.refl _ w).drewN _).drew)).1).mono ?_;rintro e w2 ⟨rfl,k2⟩))
 have k3:=(((Keep.refl _ w).drewN q).drew).trans k2
 have K1:=(K.out _ k3).2.1.2
 have K2:=(K.out _ k3).2.2
 go_wp2
 go_ret2
 exact⟨rfl,F.out _ k3⟩
theorem buf_ReadUint64(g:Nat)(p r:List UInt8)(w:World)(H:Buf w g (p++r))(hp:p.length=8):
 Calls Tryz.prog 184 #[.pointer (some ⟨g,0,none⟩)] w fun e w'=>e=.returned (.tuple #[.int .u64 (Lib.beNat p),.nilIface])∧Adv g r w w':=by
 obtain⟨d,n,c,i,hg,hdg,hb,hl,hnc,hc,hn⟩:=id H
 have h0:=(blk_cell hg 0).trans rfl
 have h1:=(blk_cell hg 1).trans rfl
 have f1:=blk_free hg 1
 have hl2:i+(8+r.length)=n:=by rw [←hl,List.length_append,hp]
 have hlt:decide ((n:Int)<i+8)=false:=by simp;omega
 have hi0:(i:Int)≤n:=by omega
 have hi1:(i:Int)≤1099511627776:=by omega
 have hci:¬c=i:=by omega
 have hic:(i:Int)+8≤c:=by omega
 have hw0:(0:Int)≤(i:Int)+8:=by omega
 have hw1:(i:Int)≤(i:Int)+8:=by omega
 have hw2:IntKind.i64.wrap ((i:Int)+8)=(i:Int)+8:=IntWalk.i64_in _ (by omega)
 have hni:8≤(((i:Int)+8).toNat-i):=by omega
 have fin:∀w1,New w w1→Adv g r w (w1.setCell ⟨g,1,none⟩ (.int .i64 (i+8))):=fun w1 k=>by
  have hg1:=k.blk hg trivial
  refine⟨(k.keep _).setCell (.inr (fun h=>h rfl)) _,d,n,c,i+8,?_,hdg,?_,by omega,hnc,hc,hn⟩
  ·exact(blk_set hg1 1 (.int .i64 (i+8))).trans (by simp)
  ·have:=hb.drop
   rw [hp]at this
   exact this.of_blk ((Below.heap_setCell _ _ _ _ (by simp;omega)).trans (k.block d (by have:=lt_blk hg;omega) trivial))
 have hbp:=hb.take
 obtain⟨a,b,c0,d0,e0,f0,g0,i0,rfl⟩:=eight_of hp
 have kk:∀w1,New w w1→BytesAt w1 d i [a,b,c0,d0,e0,f0,g0,i0]∧(w1.cell? ⟨g,0,none⟩=some (.slice (some ⟨d,0,none⟩) n c)∧w1.cell? ⟨g,1,none⟩=some (.int .i64 i))∧w1.frozen? ⟨g,1,none⟩=false:=fun w1 k=>
  ⟨hbp.of_blk (k.block d (by have:=lt_blk hg;omega) trivial),⟨(blk_cell (k.blk hg trivial) 0).trans rfl,(blk_cell (k.blk hg trivial) 1).trans rfl⟩,blk_free (k.blk hg trivial) 1⟩
 have F:=Lib.hid fin
 have K:=Lib.hid kk
 clear fin kk hg hb hl hl2 hbp
 go_enter Tryz.func184,Tryz.ntmps184
 go_wp2_with fail
 refine(readCheck_is g d n c i 8 _ (by go_simp) (by go_simp) (by omega) (by omega) (by omega) hn).mono ?_
 rintro e w' ⟨rfl,q,rfl⟩
 go_wp2
 go_region_held3 (fun w'=>w'.cell? ⟨g,0,none⟩=some (.slice (some ⟨d,0,none⟩) n c)∧w'.cell? ⟨g,1,none⟩=some (.int .i64 i))
  (first | go_keep | exact(K.out _ ((((Keep.refl _ w).drewN _).drew).trans k2)).2.1)
  (first | (go_at_call 195;refine(be_Uint64 d i _ _ a b c0 d0 e0 f0 g0 i0 _ (by omega) (K.out _ (((Keep.refl _ w).drewN _).drew)).1).mono ?_;rintro e w2 ⟨rfl,k2⟩))
 have k3:=(((Keep.refl _ w).drewN q).drew).trans k2
 have K1:=(K.out _ k3).2.1.2
 have K2:=(K.out _ k3).2.2
 go_wp2
 go_ret2
 exact⟨rfl,F.out _ k3⟩
theorem readSbyte_51(g:Nat)(b:UInt8)(r:List UInt8)(w:World)(H:Buf w g (81::b::r)):
 Calls Tryz.prog 98 #[.pointer (some ⟨g,0,none⟩)] w fun e w'=>e=.returned (.tuple #[.int .i8 (IntKind.i8.wrap b.toNat),.nilIface])∧Adv g r w w':=by
 have hb1:(b.toNat:Int) % 4294967296=b.toNat:=by have:=b.toNat_lt;omega
 have hb2:IntKind.u64.wrap (b.toNat:Int)=b.toNat:=wraps_u64 _ (by omega) (by have:=b.toNat_lt;omega)
 go_enter Tryz.func98,Tryz.ntmps98
 go_wp2_with fail
 refine(readType_is g _ _ _ H).mono ?_
 rintro e w1 ⟨rfl,h1⟩
 go_wp2_with fail
 refine(buf_ReadByte g b r _ h1.2).mono ?_
 rintro e w2 ⟨rfl,h2⟩
 go_wp2
 go_ret2
 exact⟨rfl,h1.trans h2⟩
theorem readShort_61(g:Nat)(p:List UInt8)(hp:p.length=2)(r:List UInt8)(w:World)(H:Buf w g (97::(p++r))):
 Calls Tryz.prog 99 #[.pointer (some ⟨g,0,none⟩)] w fun e w'=>e=.returned (.tuple #[.int .i16 (IntKind.i16.wrap (Lib.beNat p)),.nilIface])∧Adv g r w w':=by
 go_enter Tryz.func99,Tryz.ntmps99
 go_wp2_with fail
 refine(readType_is g _ _ _ H).mono ?_
 rintro e w1 ⟨rfl,h1⟩
 go_wp2_with fail
 refine(buf_ReadUint16 g p r _ h1.2 hp).mono ?_
 rintro e w2 ⟨rfl,h2⟩
 go_wp2
 go_ret2
 exact⟨rfl,h1.trans h2⟩
theorem readInt32_54(g:Nat)(b:UInt8)(r:List UInt8)(w:World)(H:Buf w g (84::b::r)):
 Calls Tryz.prog 100 #[.pointer (some ⟨g,0,none⟩)] w fun e w'=>e=.returned (.tuple #[.int .i32 (wrap32 (IntKind.i8.wrap b.toNat)),.nilIface])∧Adv g r w w':=by
 have hb1:(b.toNat:Int) % 4294967296=b.toNat:=by have:=b.toNat_lt;omega
 have hb2:IntKind.u64.wrap (b.toNat:Int)=b.toNat:=wraps_u64 _ (by omega) (by have:=b.toNat_lt;omega)
 go_enter Tryz.func100,Tryz.ntmps100
 go_wp2_with fail
 refine(readType_is g _ _ _ H).mono ?_
 rintro e w1 ⟨rfl,h1⟩
 go_wp2_with fail
 refine(buf_ReadByte g b r _ h1.2).mono ?_
 rintro e w2 ⟨rfl,h2⟩
 go_wp2
 go_ret2
 exact⟨rfl,h1.trans h2⟩
theorem readInt32_71(g:Nat)(p:List UInt8)(hp:p.length=4)(r:List UInt8)(w:World)(H:Buf w g (113::(p++r))):
 Calls Tryz.prog 100 #[.pointer (some ⟨g,0,none⟩)] w fun e w'=>e=.returned (.tuple #[.int .i32 (wrap32 (Lib.beNat p)),.nilIface])∧Adv g r w w':=by
 go_enter Tryz.func100,Tryz.ntmps100
 go_wp2_with fail
 refine(readType_is g _ _ _ H).mono ?_
 rintro e w1 ⟨rfl,h1⟩
 go_wp2_with fail
 refine(buf_ReadUint32 g p r _ h1.2 hp).mono ?_
 rintro e w2 ⟨rfl,h2⟩
 go_wp2
 go_ret2
 exact⟨rfl,h1.trans h2⟩
theorem readLong_55(g:Nat)(b:UInt8)(r:List UInt8)(w:World)(H:Buf w g (85::b::r)):
 Calls Tryz.prog 101 #[.pointer (some ⟨g,0,none⟩)] w fun e w'=>e=.returned (.tuple #[.int .i64 (wrap64 (IntKind.i8.wrap b.toNat)),.nilIface])∧Adv g r w w':=by
 have hb1:(b.toNat:Int) % 4294967296=b.toNat:=by have:=b.toNat_lt;omega
 have hb2:IntKind.u64.wrap (b.toNat:Int)=b.toNat:=wraps_u64 _ (by omega) (by have:=b.toNat_lt;omega)
 go_enter Tryz.func101,Tryz.ntmps101
 go_wp2_with fail
 refine(readType_is g _ _ _ H).mono ?_
 rintro e w1 ⟨rfl,h1⟩
 go_wp2_with fail
 refine(buf_ReadByte g b r _ h1.2).mono ?_
 rintro e w2 ⟨rfl,h2⟩
 go_wp2
 go_ret2
 exact⟨rfl,h1.trans h2⟩
theorem readLong_81(g:Nat)(p:List UInt8)(hp:p.length=8)(r:List UInt8)(w:World)(H:Buf w g (129::(p++r))):
 Calls Tryz.prog 101 #[.pointer (some ⟨g,0,none⟩)] w fun e w'=>e=.returned (.tuple #[.int .i64 (wrap64 (Lib.beNat p)),.nilIface])∧Adv g r w w':=by
 go_enter Tryz.func101,Tryz.ntmps101
 go_wp2_with fail
 refine(readType_is g _ _ _ H).mono ?_
 rintro e w1 ⟨rfl,h1⟩
 go_wp2_with fail
 refine(buf_ReadUint64 g p r _ h1.2 hp).mono ?_
 rintro e w2 ⟨rfl,h2⟩
 go_wp2
 go_ret2
 exact⟨rfl,h1.trans h2⟩
theorem readUint32_43(g:Nat)(r:List UInt8)(w:World)(H:Buf w g (67::r)):
 Calls Tryz.prog 102 #[.pointer (some ⟨g,0,none⟩)] w fun e w'=>e=.returned (.tuple #[.int .u32 0,.nilIface])∧Adv g r w w':=by
 go_enter Tryz.func102,Tryz.ntmps102
 go_wp2_with fail
 refine(readType_is g _ _ _ H).mono ?_
 rintro e w1 ⟨rfl,h1⟩
 go_wp2
 go_ret2
 exact⟨rfl,h1⟩
theorem readUint32_52(g:Nat)(b:UInt8)(r:List UInt8)(w:World)(H:Buf w g (82::b::r)):
 Calls Tryz.prog 102 #[.pointer (some ⟨g,0,none⟩)] w fun e w'=>e=.returned (.tuple #[.int .u32 b.toNat,.nilIface])∧Adv g r w w':=by
 have hb1:(b.toNat:Int) % 4294967296=b.toNat:=by have:=b.toNat_lt;omega
 have hb2:IntKind.u64.wrap (b.toNat:Int)=b.toNat:=wraps_u64 _ (by omega) (by have:=b.toNat_lt;omega)
 go_enter Tryz.func102,Tryz.ntmps102
 go_wp2_with fail
 refine(readType_is g _ _ _ H).mono ?_
 rintro e w1 ⟨rfl,h1⟩
 go_wp2_with fail
 refine(buf_ReadByte g b r _ h1.2).mono ?_
 rintro e w2 ⟨rfl,h2⟩
 go_wp2
 go_ret2
 exact⟨rfl,h1.trans h2⟩
theorem readUint32_70(g:Nat)(p:List UInt8)(hp:p.length=4)(r:List UInt8)(w:World)(H:Buf w g (112::(p++r))):
 Calls Tryz.prog 102 #[.pointer (some ⟨g,0,none⟩)] w fun e w'=>e=.returned (.tuple #[.int .u32 (Lib.beNat p),.nilIface])∧Adv g r w w':=by
 go_enter Tryz.func102,Tryz.ntmps102
 go_wp2_with fail
 refine(readType_is g _ _ _ H).mono ?_
 rintro e w1 ⟨rfl,h1⟩
 go_wp2_with fail
 refine(buf_ReadUint32 g p r _ h1.2 hp).mono ?_
 rintro e w2 ⟨rfl,h2⟩
 go_wp2
 go_ret2
 exact⟨rfl,h1.trans h2⟩
theorem readUshort_60(g:Nat)(p:List UInt8)(hp:p.length=2)(r:List UInt8)(w:World)(H:Buf w g (96::(p++r))):
 Calls Tryz.prog 103 #[.pointer (some ⟨g,0,none⟩)] w fun e w'=>e=.returned (.tuple #[.int .u16 (Lib.beNat p),.nilIface])∧Adv g r w w':=by
 go_enter Tryz.func103,Tryz.ntmps103
 go_wp2_with fail
 refine(readType_is g _ _ _ H).mono ?_
 rintro e w1 ⟨rfl,h1⟩
 go_wp2_with fail
 refine(buf_ReadUint16 g p r _ h1.2 hp).mono ?_
 rintro e w2 ⟨rfl,h2⟩
 go_wp2
 go_ret2
 exact⟨rfl,h1.trans h2⟩
theorem readUbyte_50(g:Nat)(b:UInt8)(r:List UInt8)(w:World)(H:Buf w g (80::b::r)):
 Calls Tryz.prog 104 #[.pointer (some ⟨g,0,none⟩)] w fun e w'=>e=.returned (.tuple #[.int .u8 b.toNat,.nilIface])∧Adv g r w w':=by
 have hb1:(b.toNat:Int) % 4294967296=b.toNat:=by have:=b.toNat_lt;omega
 have hb2:IntKind.u64.wrap (b.toNat:Int)=b.toNat:=wraps_u64 _ (by omega) (by have:=b.toNat_lt;omega)
 go_enter Tryz.func104,Tryz.ntmps104
 go_wp2_with fail
 refine(readType_is g _ _ _ H).mono ?_
 rintro e w1 ⟨rfl,h1⟩
 go_wp2_with fail
 refine(buf_ReadByte g b r _ h1.2).mono ?_
 rintro e w2 ⟨rfl,h2⟩
 go_wp2
 go_ret2
 exact⟨rfl,h1.trans h2⟩
theorem readUlong_44(g:Nat)(r:List UInt8)(w:World)(H:Buf w g (68::r)):
 Calls Tryz.prog 93 #[.pointer (some ⟨g,0,none⟩)] w fun e w'=>e=.returned (.tuple #[.int .u64 0,.nilIface])∧Adv g r w w':=by
 go_enter Tryz.func93,Tryz.ntmps93
 go_wp2_with fail
 refine(readType_is g _ _ _ H).mono ?_
 rintro e w1 ⟨rfl,h1⟩
 go_wp2
 go_ret2
 exact⟨rfl,h1⟩
theorem readUlong_53(g:Nat)(b:UInt8)(r:List UInt8)(w:World)(H:Buf w g (83::b::r)):
 Calls Tryz.prog 93 #[.pointer (some ⟨g,0,none⟩)] w fun e w'=>e=.returned (.tuple #[.int .u64 b.toNat,.nilIface])∧Adv g r w w':=by
 have hb1:(b.toNat:Int) % 4294967296=b.toNat:=by have:=b.toNat_lt;omega
 have hb2:IntKind.u64.wrap (b.toNat:Int)=b.toNat:=wraps_u64 _ (by omega) (by have:=b.toNat_lt;omega)
 go_enter Tryz.func93,Tryz.ntmps93
 go_wp2_with fail
 refine(readType_is g _ _ _ H).mono ?_
 rintro e w1 ⟨rfl,h1⟩
 go_wp2_with fail
 refine(buf_ReadByte g b r _ h1.2).mono ?_
 rintro e w2 ⟨rfl,h2⟩
 go_wp2
 go_ret2
 exact⟨rfl,h1.trans h2⟩
theorem readUlong_80(g:Nat)(p:List UInt8)(hp:p.length=8)(r:List UInt8)(w:World)(H:Buf w g (128::(p++r))):
 Calls Tryz.prog 93 #[.pointer (some ⟨g,0,none⟩)] w fun e w'=>e=.returned (.tuple #[.int .u64 (Lib.beNat p),.nilIface])∧Adv g r w w':=by
 go_enter Tryz.func93,Tryz.ntmps93
 go_wp2_with fail
 refine(readType_is g _ _ _ H).mono ?_
 rintro e w1 ⟨rfl,h1⟩
 go_wp2_with fail
 refine(buf_ReadUint64 g p r _ h1.2 hp).mono ?_
 rintro e w2 ⟨rfl,h2⟩
 go_wp2
 go_ret2
 exact⟨rfl,h1.trans h2⟩
theorem readBool_41(g:Nat)(r:List UInt8)(w:World)(H:Buf w g (65::r)):
 Calls Tryz.prog 109 #[.pointer (some ⟨g,0,none⟩)] w fun e w'=>e=.returned (.tuple #[.bool true,.nilIface])∧Adv g r w w':=by
 go_enter Tryz.func109,Tryz.ntmps109
 go_wp2_with fail
 refine(readType_is g _ _ _ H).mono ?_
 rintro e w1 ⟨rfl,h1⟩
 go_wp2
 go_ret2
 exact⟨rfl,h1⟩
theorem readBool_42(g:Nat)(r:List UInt8)(w:World)(H:Buf w g (66::r)):
 Calls Tryz.prog 109 #[.pointer (some ⟨g,0,none⟩)] w fun e w'=>e=.returned (.tuple #[.bool false,.nilIface])∧Adv g r w w':=by
 go_enter Tryz.func109,Tryz.ntmps109
 go_wp2_with fail
 refine(readType_is g _ _ _ H).mono ?_
 rintro e w1 ⟨rfl,h1⟩
 go_wp2
 go_ret2
 exact⟨rfl,h1⟩
theorem readBool_56(g:Nat)(b:UInt8)(r:List UInt8)(w:World)(H:Buf w g (86::b::r)):
 Calls Tryz.prog 109 #[.pointer (some ⟨g,0,none⟩)] w fun e w'=>e=.returned (.tuple #[.bool ((b.toNat:Int) !=0),.nilIface])∧Adv g r w w':=by
 have hb1:(b.toNat:Int) % 4294967296=b.toNat:=by have:=b.toNat_lt;omega
 have hb2:IntKind.u64.wrap (b.toNat:Int)=b.toNat:=wraps_u64 _ (by omega) (by have:=b.toNat_lt;omega)
 go_enter Tryz.func109,Tryz.ntmps109
 go_wp2_with fail
 refine(readType_is g _ _ _ H).mono ?_
 rintro e w1 ⟨rfl,h1⟩
 go_wp2_with fail
 refine(buf_ReadByte g b r _ h1.2).mono ?_
 rintro e w2 ⟨rfl,h2⟩
 go_wp2
 go_ret2
 exact⟨rfl,h1.trans h2⟩
theorem conv_string(w:World)(v:Value)(l:List UInt8)(h:SlB w v l):(convert 27 9 v).run Tryz.prog w=.ok (.string ⟨l.toArray⟩) w:=by
 obtain⟨A,c,rfl,hl,hc,hA⟩:=h
 have fo:∀m:List UInt8,(m.map fun b=>(b.toNat:Int)).map (fun n=>UInt8.ofNat n.toNat)=m:=fun m=>by
  rw [List.map_map];conv=>rhs;rw [←List.map_id m]
  apply List.map_congr_left;intro b _;simp
 by_cases he:l=[]
 ·subst he
  cases A with
  | none=>exact run_convert_bytes_nil (P:=Tryz.prog) w 27 5 Tryz.underlying27 Tryz.underlying5 0 c 9 Tryz.underlying9
  | some a=>
    rw [List.length_nil,run_convert_bytes_string w 27 9 5 _ 0 c Tryz.underlying27 Tryz.underlying5 Tryz.underlying9,run_bytesToString w a 0 c [] (by simp [loadCells,loadCellsFrom])]
    rfl
 ·obtain⟨d,i,rfl,hd⟩:=hA he
  have:=run_convert_bytes_arg (P:=Tryz.prog) w 27 5 Tryz.underlying27 Tryz.underlying5 d i l.length c (l.map fun b=>(b.toNat:Int)) (by simp) (fun j hj=>by
   rw [hd.cell j hj];simp [List.getD,hj]) 9 Tryz.underlying9
  rw [this]
  simp only [strOfNums,fo]
theorem readString_8(g:Nat)(k:UInt8)(hk:k=161∨k=163)(l r:List UInt8)(n:UInt8)(hn:n.toNat=l.length)(w:World)(H:Buf w g (k::n::(l++r))):
 Calls Tryz.prog 107 #[.pointer (some ⟨g,0,none⟩)] w fun e w'=>e=.returned (.tuple #[.string ⟨l.toArray⟩,.nilIface])∧Adv g r w w':=by
 have hw:wrap64 (n.toNat:Int)=n.toNat:=by unfold wrap64;have:=n.toNat_lt;omega
 have N:Hid (n.toNat=l.length):=Lib.hid hn
 clear hn
 rcases hk with rfl | rfl
 all_goals
  go_enter Tryz.func107,Tryz.ntmps107
  go_wp2_with fail
  refine(readType_is g _ _ _ H).mono ?_
  rintro e w1 ⟨rfl,h1⟩
  go_wp2_with fail
  refine(buf_ReadByte g _ _ _ h1.2).mono ?_
  rintro e w2 ⟨rfl,h2⟩
  go_wp2_with fail
  refine(buf_Next g l r _ _ h2.2 (by rw [N.out])).mono ?_
  rintro e w3 ⟨v,rfl,h3,hv⟩
  have hs:=conv_string _ _ _ hv
  go_wp2
  go_ret2
  exact⟨rfl,(h1.trans h2).trans h3⟩
theorem readString_32(g:Nat)(k:UInt8)(hk:k=177∨k=179)(p l r:List UInt8)(hp:p.length=4)(hn:Lib.beNat p=l.length)(w:World)(H:Buf w g (k::(p++(l++r)))):
 Calls Tryz.prog 107 #[.pointer (some ⟨g,0,none⟩)] w fun e w'=>e=.returned (.tuple #[.string ⟨l.toArray⟩,.nilIface])∧Adv g r w w':=by
 have hlt:Lib.beNat p<4294967296:=by
  obtain⟨a,b,c,d,rfl⟩:=four_of hp
  have:=a.toNat_lt;have:=b.toNat_lt;have:=c.toNat_lt;have:=d.toNat_lt
  simp only [Lib.beNat,Lib.beFrom];omega
 have hw:wrap64 (Lib.beNat p:Int)=Lib.beNat p:=by unfold wrap64;omega
 have N:Hid (Lib.beNat p=l.length):=Lib.hid hn
 have PL:Hid (p.length=4):=Lib.hid hp
 clear hn hp
 rcases hk with rfl | rfl
 all_goals
  go_enter Tryz.func107,Tryz.ntmps107
  go_wp2_with fail
  refine(readType_is g _ _ _ H).mono ?_
  rintro e w1 ⟨rfl,h1⟩
  go_wp2_with fail
  refine(buf_Next g p (l++r) 4 _ h1.2 (by rw [PL.out];rfl)).mono ?_
  rintro e w2 ⟨v,rfl,h2,A,c,rfl,hc1,hc2,hA⟩
  obtain⟨d,i,rfl,hd⟩:=hA (by intro h;have:=PL.out;rw [h]at this;simp at this)
  go_wp2_with fail
  obtain⟨a,b,c',d',hpp⟩:=four_of PL.out
  rw [hpp]at hd hc1
  simp only [hpp]
  refine(be_Uint32 d i _ c a b c' d' _ (by simp) hd).mono ?_
  rintro e w3 ⟨rfl,h3⟩
  simp only [←hpp]
  rw [←hpp]at hd hc1
  have HP:=Lib.hid hpp
  clear hpp
  have hB:=h2.2.new h3
  go_wp2_with fail
  refine(buf_Next g l r _ _ hB (by rw [N.out])).mono ?_
  rintro e w4 ⟨v,rfl,h4,hv⟩
  have hs:=conv_string _ _ _ hv
  go_wp2
  go_ret2
  exact⟨rfl,((h1.trans h2).trans (Adv.look h2.2 h3)).trans h4⟩
theorem be32(d i n c:Nat)(p q:List UInt8)(w:World)(hp:p.length=4)(hn:4≤n)(hb:BytesAt w d i (p++q)):
 Calls Tryz.prog 186 #[.agg #[],.slice (some ⟨d,i,none⟩) n c] w fun e w'=>e=.returned (.int .u32 (Lib.beNat p))∧New w w':=by
 have h:=hb.take
 obtain⟨a,b,c',d',rfl⟩:=four_of hp
 exact be_Uint32 d i n c a b c' d' w hn h
theorem beNat_lt4{p:List UInt8}(hp:p.length=4):Lib.beNat p<4294967296:=by
 obtain⟨a,b,c,d,rfl⟩:=four_of hp
 have:=a.toNat_lt;have:=b.toNat_lt;have:=c.toNat_lt;have:=d.toNat_lt
 simp only [Lib.beNat,Lib.beFrom];omega
theorem ne_nil_of{l:List UInt8}{n:Nat}(h:l.length=n)(hn:0<n):l≠[]:=by
 rintro rfl;simp at h;omega
theorem bytesAt_front{w:World}{b:Nat}{l:List UInt8}{more:Array Value}(h:w.heap[b]? =some (.cells ((l.map fun x=>Value.int .u8 (x.toNat:Int)).toArray++more) 5 (0,0))):BytesAt w b 0 l:=by
 refine⟨_,h,fun j hj=>?_⟩
 rw [Nat.zero_add,Array.getElem?_append_left (by simpa using hj)]
 simp [hj]
theorem dep_front{ok:Nat→Prop}{w:World}{b:Nat}{l:List UInt8}{more:Array Value}(c:Nat)(hc:l.length≤c)(hm:c≤9223372036854775807)(ho:ok b)
 (h:w.heap[b]? =some (.cells ((l.map fun x=>Value.int .u8 (x.toNat:Int)).toArray++more) 5 (0,0))):Dep ok w (fun w'=>SlB w' (.slice (some ⟨b,0,none⟩) l.length c) l):=
 (Dep.blk h ho).imp fun _ h'=>⟨_,c,rfl,hc,hm,fun _=>⟨b,0,rfl,bytesAt_front h'⟩⟩
theorem info5:(Tryz.prog.info? 5).map (fun i=>(i.zero,i.size,i.bytes))=some (some (.int .u8 0),1,1):=by kernel_rfl
theorem append_fresh(w:World)(v:Value)(l:List UInt8)(h:SlB w v l)(hne:l≠[])(hl:l.length≤1099511627776):
 ∃c more,(Builtin.append_ #[27,27] 27 #[.slice none 0 0,v]).run Tryz.prog w=
  .ok (.slice (some ⟨w.heap.size,0,none⟩) l.length c) (w.drew.alloc (.cells ((l.map fun x=>Value.int .u8 (x.toNat:Int)).toArray++more) 5))∧l.length≤c∧c≤9223372036854775807:=by
 obtain⟨i0,hi,hz,hs,hb⟩:=info_parts info5
 obtain⟨A,c,rfl,hl1,hc,hA⟩:=h
 obtain⟨d,i,rfl,hd⟩:=hA hne
 have hpos:=List.length_pos_iff.2 hne
 have:=run_append_nil (P:=Tryz.prog) w 27 27 5 i0 _ Tryz.underlying27 hi hz ⟨d,i,none⟩ l.length c (l.map fun x=>Value.int .u8 (x.toNat:Int)) (by rw [hs];simp) (fun j v hj=>by
  have hjl:j<l.length:=by
   rcases Nat.lt_or_ge j l.length with h | h
   ·exact h
   ·simp [List.getElem?_eq_none (show(l.map fun x=>Value.int .u8 (x.toNat:Int)).length≤j by simpa using h)]at hj
  have hplain:(⟨d,i,none⟩:Addr).add j=⟨d,i+j,none⟩:=by unfold Addr.add;split<;>simp_all
  rw [hplain,hd.cell j hjl]
  simpa [hjl]using hj) hpos (by omega) (by rw [hb];omega)
 refine⟨_,_,this,grownCap_ge w l.length 0 5,?_⟩
 have:=grownCap_le_maxLen w l.length 0 5 (by unfold maxLen;omega)
 unfold maxLen at this
 exact this
theorem wpList_append_eq{P:Program}{w:World}{ops:Array Oper}{rest:List Oper}{o:Oper}{a:Act}{Q:Exit→Act→World→Prop}(hgd:o.guard=none)(s x:Operand)(t:TypeId)
 (ho:o.op=.call { callee:=.builtin .append,args:=#[s,x],argTypes:=#[t,t] }) (v u r:Value) (w':World) (hs:a.eval s=v) (hx:a.eval x=u)
 (hr:(Builtin.append_ #[t,t] o.type #[v,u]).run P w=.ok r w') (h:wpList P ops Q rest (a.put o.dst r) w'):wpList P ops Q (o::rest) a w:=
 wpList_plain hgd fun K hK=>by
  unfold Oper.wp execOp
  simp only [ho,resolve,invoke,builtin,Sem.run_bind,Sem.run_pure,Result.andThen_ok,List.map_toArray,List.map_cons,List.map_nil,hs,hx,hr]
  exact hK _ _ h
def Got(w:World)(g:Nat)(r:List UInt8)(φ:World→Prop)(w':World):Prop:=Adv g r w w'∧Dep (fun k=>w.heap.size≤k) w' φ
theorem make0(w:World):(Instr.makeSlice 27 (.int .i64 0) (.int .i64 0)).run Tryz.prog w=.ok (.slice (some ⟨w.heap.size,0,none⟩) 0 0) (w.alloc (.cells #[] 5)):=by kernel_rfl
theorem readBinary_0(g:Nat)(r:List UInt8)(w:World)(H:Buf w g (160::0::r)):
 Calls Tryz.prog 108 #[.pointer (some ⟨g,0,none⟩)] w fun e w'=>∃v,e=.returned (.tuple #[v,.nilIface])∧Got w g r (fun w=>SlB w v []) w':=by
 go_enter Tryz.func108,Tryz.ntmps108
 go_wp2_with fail
 refine(readType_is g _ _ _ H).mono ?_
 rintro e w1 ⟨rfl,h1⟩
 go_wp2_with fail
 refine(buf_ReadByte g _ _ _ h1.2).mono ?_
 rintro e w2 ⟨rfl,h2⟩
 have hm:=make0
 go_wp2
 go_ret2
 exact⟨_,rfl,⟨(h1.trans h2).1.alloc _,h2.2.new ((Keep.refl _ w2).alloc _)⟩,fun _ _=>⟨_,0,rfl,Nat.le_refl _,by omega,fun h=>absurd rfl h⟩⟩
theorem readBinary_8(g:Nat)(l r:List UInt8)(n:UInt8)(hn:n.toNat=l.length)(w:World)(H:Buf w g (160::n::(l++r))):
 Calls Tryz.prog 108 #[.pointer (some ⟨g,0,none⟩)] w fun e w'=>∃v,e=.returned (.tuple #[v,.nilIface])∧Got w g r (fun w=>SlB w v l) w':=by
 by_cases hne:l=[]
 ·subst hne
  have:n=0:=UInt8.toNat.inj (by simpa using hn)
  subst this
  exact readBinary_0 g r w H
 have hw:wrap64 (n.toNat:Int)=n.toNat:=by unfold wrap64;have:=n.toNat_lt;omega
 have hz:((n.toNat:Int)==0)=false:=by rw [beq_eq_false_iff_ne];have:=List.length_pos_iff.2 hne;omega
 have hlt:l.length<256:=by have:=n.toNat_lt;omega
 have N:Hid (n.toNat=l.length):=Lib.hid hn
 clear hn
 go_enter Tryz.func108,Tryz.ntmps108
 go_wp2_with fail
 refine(readType_is g _ _ _ H).mono ?_
 rintro e w1 ⟨rfl,h1⟩
 go_wp2_with fail
 refine(buf_ReadByte g _ _ _ h1.2).mono ?_
 rintro e w2 ⟨rfl,h2⟩
 go_wp2_with fail
 refine(buf_Next g l r _ _ h2.2 (by rw [N.out])).mono ?_
 rintro e w3 ⟨v,rfl,h3,hv⟩
 obtain⟨c,more,ha,hc,hm⟩:=append_fresh w3 v l hv hne (by omega)
 have h4:=(h1.trans h2).trans h3
 go_wp2_with (at_builtin;refine wpList_append_eq rfl _ _ 27 rfl _ _ _ _ rfl rfl ha ?_)
 go_ret2
 exact⟨_,rfl,⟨(h4.1.drew).alloc _,h4.2.new (((Keep.refl _ w3).drew).alloc _)⟩,dep_front c hc hm h4.size (blk_new _ _)⟩
theorem readBinary_32(g:Nat)(p l r:List UInt8)(hp:p.length=4)(hn:Lib.beNat p=l.length)(w:World)(H:Buf w g (176::(p++(l++r)))):
 Calls Tryz.prog 108 #[.pointer (some ⟨g,0,none⟩)] w fun e w'=>∃v,e=.returned (.tuple #[v,.nilIface])∧Got w g r (fun w=>SlB w v l) w':=by
 have hlt:=beNat_lt4 hp
 have hw:wrap64 (Lib.beNat p:Int)=Lib.beNat p:=by unfold wrap64;omega
 have hlt2:l.length<4294967296:=by omega
 have N:Hid (Lib.beNat p=l.length):=Lib.hid hn
 have PL:Hid (p.length=4):=Lib.hid hp
 clear hn hp
 by_cases hne:l=[]
 ·have hz:((Lib.beNat p:Int)==0)=true:=by rw [beq_iff_eq,N.out,hne];rfl
  have hz2:(Lib.beNat p:Int)=0:=by rw [N.out,hne];rfl
  have Z:=Lib.hid hz2
  clear hz2
  have hm:=make0
  go_enter Tryz.func108,Tryz.ntmps108
  go_wp2_with fail
  refine(readType_is g _ _ _ H).mono ?_
  rintro e w1 ⟨rfl,h1⟩
  go_wp2_with fail
  refine(buf_Next g p (l++r) 4 _ h1.2 (by rw [PL.out];rfl)).mono ?_
  rintro e w2 ⟨v,rfl,h2,A,c,rfl,hc1,hc2,hA⟩
  obtain⟨d,i,rfl,hd⟩:=hA (ne_nil_of PL.out (by omega))
  go_wp2_with fail
  refine(be32 d i _ c p [] _ PL.out (by rw [PL.out];omega) (by simpa using hd)).mono ?_
  rintro e w3 ⟨rfl,h3⟩
  go_wp2
  go_ret2
  subst hne
  have h4:Adv g r w w3:=(h1.trans h2).trans (Adv.look h2.2 h3)
  exact⟨_,rfl,⟨h4.1.alloc _,h4.2.new ((Keep.refl _ w3).alloc _)⟩,fun _ _=>⟨_,0,rfl,Nat.le_refl _,by omega,fun h=>absurd rfl h⟩⟩
 ·have hz:((Lib.beNat p:Int)==0)=false:=by rw [beq_eq_false_iff_ne,N.out];have:=List.length_pos_iff.2 hne;omega
  go_enter Tryz.func108,Tryz.ntmps108
  go_wp2_with fail
  refine(readType_is g _ _ _ H).mono ?_
  rintro e w1 ⟨rfl,h1⟩
  go_wp2_with fail
  refine(buf_Next g p (l++r) 4 _ h1.2 (by rw [PL.out];rfl)).mono ?_
  rintro e w2 ⟨v,rfl,h2,A,c,rfl,hc1,hc2,hA⟩
  obtain⟨d,i,rfl,hd⟩:=hA (ne_nil_of PL.out (by omega))
  go_wp2_with fail
  refine(be32 d i _ c p [] _ PL.out (by rw [PL.out];omega) (by simpa using hd)).mono ?_
  rintro e w3 ⟨rfl,h3⟩
  go_wp2_with fail
  refine(buf_Next g l r _ _ (h2.2.new h3) (by rw [N.out])).mono ?_
  rintro e w4 ⟨v,rfl,h4,hv⟩
  obtain⟨c',more,ha,hc,hm⟩:=append_fresh w4 v l hv hne (by omega)
  have h5:=((h1.trans h2).trans (Adv.look h2.2 h3)).trans h4
  go_wp2_with (at_builtin;refine wpList_append_eq rfl _ _ 27 rfl _ _ _ _ rfl rfl ha ?_)
  go_ret2
  exact⟨_,rfl,⟨(h5.1.drew).alloc _,h5.2.new (((Keep.refl _ w4).drew).alloc _)⟩,dep_front c' hc hm h5.size (blk_new _ _)⟩
def timeV(ms:Int):Value:=.agg #[.int .i64 (ms/1000),.int .i64 (ms % 1000*1000000)]
theorem tdiv_neg_pos(n k:Int)(hk:0<k)(h:n<0):n.tdiv k=-((-n)/k)∧n.tmod k=-((-n) % k):=by
 have h1:=Int.neg_tdiv (a:=-n) (b:=k)
 have h2:=Int.neg_tmod (-n) k
 rw [Int.neg_neg]at h1 h2
 rw [h1,h2,Int.tdiv_eq_ediv_of_nonneg (by omega),Int.tmod_eq_emod_of_nonneg (by omega)]
 exact⟨rfl,rfl⟩
theorem at_is(s n:Int)(w:World)(hs:-9300000000000000≤s∧s≤9300000000000000)(hn:-1000000000<n∧n<1000000000):
 Calls Tryz.prog 196 #[.int .i64 s,.int .i64 n] w fun e w'=>e=.returned (.agg #[.int .i64 (if n<0 then s-1 else s),.int .i64 (if n<0 then n+1000000000 else n)])∧New w w':=by
 obtain⟨hs1,hs2⟩:=hs
 obtain⟨hn1,hn2⟩:=hn
 by_cases h:n<0
 ·have hq:n.tdiv 1000000000=0:=by
   rw [(tdiv_neg_pos n 1000000000 (by omega) h).1];omega
  rw [if_pos h,if_pos h]
  go_enter Tryz.func196,Tryz.ntmps196
  go_wp2
  exact bodyPost_ret (v:=.agg #[.int .i64 (s-1),.int .i64 (n+1000000000)]) (by simp [results,Tryz.results196,go_sem]) rfl ⟨rfl,(Keep.refl _ w).alloc _⟩
 ·rw [if_neg h,if_neg h]
  have h2:¬1000000000≤n:=by omega
  go_enter Tryz.func196,Tryz.ntmps196
  go_wp2
  exact bodyPost_ret (v:=.agg #[.int .i64 s,.int .i64 n]) (by simp [results,Tryz.results196,go_sem]) rfl ⟨rfl,(Keep.refl _ w).alloc _⟩
theorem at_milli(ms q r:Int)(w:World)(hq:q=ms.tdiv 1000)(hr:r=ms.tmod 1000*1000000)(h1:-9223372036854775808≤ms)(h2:ms≤9223372036854775807):
 Calls Tryz.prog 196 #[.int .i64 q,.int .i64 r] w fun e w'=>e=.returned (timeV ms)∧New w w':=by
 have hqr:(q=ms/1000∧r=ms % 1000*1000000∧0≤r∨r<0∧q-1=ms/1000∧r+1000000000=ms % 1000*1000000)∧-9300000000000000≤q∧q≤9300000000000000∧-1000000000<r∧r<1000000000:=by
  by_cases h:ms<0
  ·obtain⟨e1,e2⟩:=tdiv_neg_pos ms 1000 (by omega) h
   rw [e1]at hq;rw [e2]at hr
   omega
  ·rw [Int.tdiv_eq_ediv_of_nonneg (by omega)]at hq
   rw [Int.tmod_eq_emod_of_nonneg (by omega)]at hr
   omega
 obtain⟨hc,b1,b2,b3,b4⟩:=hqr
 refine(at_is q r w ⟨b1,b2⟩ ⟨b3,b4⟩).mono ?_
 rintro e w' ⟨rfl,k⟩
 refine⟨?_,k⟩
 unfold timeV
 rcases hc with⟨e1,e2,h⟩ | ⟨h,e1,e2⟩
 ·rw [if_neg (by omega),if_neg (by omega),e1,e2]
 ·rw [if_pos h,if_pos h,e1,e2]
theorem atMilli_is(ms:Int)(w:World)(h1:-9223372036854775808≤ms)(h2:ms≤9223372036854775807):
 Calls Tryz.prog 192 #[.int .i64 ms] w fun e w'=>e=.returned (timeV ms)∧New w w':=by
 go_enter Tryz.func192,Tryz.ntmps192
 go_wp2_with fail
 refine(at_milli ms _ _ _ rfl (by unfold wrap64;have:=Int.tmod_lt_of_pos ms (show(0:Int)<1000 by omega);have:=Int.lt_tmod_of_pos ms (show(0:Int)<1000 by omega);omega) h1 h2).mono ?_
 rintro e w1 ⟨rfl,k⟩
 have hb:=k.blk (blk_new w _) trivial
 have c0:=(blk_cell hb 0).trans rfl
 have c1:=(blk_cell hb 1).trans rfl
 have f0:=blk_free hb 0
 have f1:=blk_free hb 1
 simp only [timeV]
 have k2:=(((Keep.refl (fun _=>True) w).alloc _).trans k)
 clear hb
 go_wp2
 refine bodyPost_ret (v:=timeV ms) (by simp [results,Tryz.results192,go_sem,timeV,c0,c1]) rfl ⟨rfl,?_⟩
 exact(k2.setCell (.inl (Nat.le_refl _)) _).setCell (.inl (Nat.le_refl _)) _
theorem readTimestamp_is(g:Nat)(p r:List UInt8)(hp:p.length=8)(w:World)(H:Buf w g (131::(p++r))):
 Calls Tryz.prog 110 #[.pointer (some ⟨g,0,none⟩)] w fun e w'=>e=.returned (.tuple #[timeV (wrap64 (Lib.beNat p)),.nilIface])∧Adv g r w w':=by
 go_enter Tryz.func110,Tryz.ntmps110
 go_wp2_with fail
 refine(readType_is g _ _ _ (H.new ((Keep.refl _ w).alloc _))).mono ?_
 rintro e w1 ⟨rfl,h1⟩
 go_wp2_with fail
 refine(buf_ReadUint64 g p r _ h1.2 hp).mono ?_
 rintro e w2 ⟨rfl,h2⟩
 go_wp2_with fail
 refine(atMilli_is _ _ (by unfold wrap64;omega) (by unfold wrap64;omega)).mono ?_
 rintro e w3 ⟨rfl,k3⟩
 have hg:=H.lt
 have h4:=(h1.trans h2).trans (Adv.look h2.2 k3)
 have hb:=h4.1.blk (blk_new w _) (by simp;omega)
 have c0:=(blk_cell hb 0).trans rfl
 have c1:=(blk_cell hb 1).trans rfl
 have f0:=blk_free hb 0
 have f1:=blk_free hb 1
 simp only [timeV]
 have k5:=(((Keep.refl (fun k=>k≠g) w).alloc _).trans h4.1)
 clear hb
 go_wp2
 refine bodyPost_ret (v:=.tuple #[timeV (wrap64 (Lib.beNat p)),.nilIface]) (by simp [results,Tryz.results110,go_sem,timeV,c0,c1]) rfl ⟨rfl,?_,?_⟩
 ·exact(k5.setCell (.inl (Nat.le_refl _)) _).setCell (.inl (Nat.le_refl _)) _
 ·exact h4.2.keep (((Keep.refl (fun k=>k≠w.heap.size) w3).setCell (.inr (by simp)) _).setCell (.inr (by simp)) _) (fun i hi=>by simp;omega)
theorem utc_is(ms:Int)(w:World):Calls Tryz.prog 197 #[timeV ms] w fun e w'=>e=.returned (timeV ms)∧New w w':=by
 unfold timeV
 go_enter Tryz.func197,Tryz.ntmps197
 go_wp2
 refine bodyPost_ret (v:=timeV ms) (by simp [results,Tryz.results197,go_sem,timeV]) rfl ⟨rfl,?_⟩
 exact((Keep.refl _ w).alloc _).alloc _
theorem unixMilli_is(ms:Int)(w:World)(h1:-9223372036854775808≤ms)(h2:ms≤9223372036854775807):
 Calls Tryz.prog 150 #[timeV ms] w fun e w'=>e=.returned (.int .i64 ms)∧New w w':=by
 have hq:(ms % 1000*1000000).tdiv 1000000=ms % 1000:=by
  rw [Int.tdiv_eq_ediv_of_nonneg (by omega)];omega
 have hw:wrap64 (wrap64 (ms/1000*1000)+ms % 1000)=ms:=by unfold wrap64;omega
 have h0:0≤ms % 1000*1000000:=by omega
 unfold timeV
 go_enter Tryz.func150,Tryz.ntmps150
 have HW:=Lib.hid hw
 clear hw
 go_wp2
 go_ret
 exact⟨ret_int HW.out,(Keep.refl _ w).alloc _⟩
theorem frombits32(n:Int)(w:World):(callFunc 190 #[.int .u32 n]).run Tryz.prog w=.ok (.value (.float .f32 n.toNat)) w:=by kernel_rfl
theorem frombits64(n:Int)(w:World):(callFunc 191 #[.int .u64 n]).run Tryz.prog w=.ok (.value (.float .f64 n.toNat)) w:=by kernel_rfl
theorem bits32(n:Nat)(w:World):(callFunc 148 #[.float .f32 n]).run Tryz.prog w=.ok (.value (.int .u32 n)) w:=by kernel_rfl
theorem bits64(n:Nat)(w:World):(callFunc 149 #[.float .f64 n]).run Tryz.prog w=.ok (.value (.int .u64 n)) w:=by kernel_rfl
attribute [go_sem] frombits32 frombits64 bits32 bits64
theorem readFloat_is(g:Nat)(p r:List UInt8)(hp:p.length=4)(w:World)(H:Buf w g (114::(p++r))):
 Calls Tryz.prog 105 #[.pointer (some ⟨g,0,none⟩)] w fun e w'=>e=.returned (.tuple #[.float .f32 (Lib.beNat p),.nilIface])∧Adv g r w w':=by
 go_enter Tryz.func105,Tryz.ntmps105
 go_wp2_with fail
 refine(readType_is g _ _ _ H).mono ?_
 rintro e w1 ⟨rfl,h1⟩
 go_wp2_with fail
 refine(buf_ReadUint32 g p r _ h1.2 hp).mono ?_
 rintro e w2 ⟨rfl,h2⟩
 go_wp2
 go_ret2
 exact⟨rfl,h1.trans h2⟩
theorem readDouble_is(g:Nat)(p r:List UInt8)(hp:p.length=8)(w:World)(H:Buf w g (130::(p++r))):
 Calls Tryz.prog 106 #[.pointer (some ⟨g,0,none⟩)] w fun e w'=>e=.returned (.tuple #[.float .f64 (Lib.beNat p),.nilIface])∧Adv g r w w':=by
 go_enter Tryz.func106,Tryz.ntmps106
 go_wp2_with fail
 refine(readType_is g _ _ _ H).mono ?_
 rintro e w1 ⟨rfl,h1⟩
 go_wp2_with fail
 refine(buf_ReadUint64 g p r _ h1.2 hp).mono ?_
 rintro e w2 ⟨rfl,h2⟩
 go_wp2
 go_ret2
 exact⟨rfl,h1.trans h2⟩
theorem sixteen_of{l:List UInt8}(h:l.length=16):∃b0 b1 b2 b3 b4 b5 b6 b7 b8 b9 b10 b11 b12 b13 b14 b15,l=[b0,b1,b2,b3,b4,b5,b6,b7,b8,b9,b10,b11,b12,b13,b14,b15]:=by
 match l,h with
 | [b0,b1,b2,b3,b4,b5,b6,b7,b8,b9,b10,b11,b12,b13,b14,b15],_=>exact⟨b0,b1,b2,b3,b4,b5,b6,b7,b8,b9,b10,b11,b12,b13,b14,b15,rfl⟩
def uuidV(l:List UInt8):Value:=.agg (l.map fun x=>Value.int .u8 (x.toNat:Int)).toArray
theorem wpList_copy16{w:World}{ops:Array Oper}{rest:List Oper}{o:Oper}{a:Act}{Q:Exit→Act→World→Prop}(hgd:o.guard=none)(d s:Operand)
 (ho:o.op=.call { callee:=.builtin .copy,args:=#[d,s],argTypes:=#[27,27] }) (g off c:Nat) (v:Value) (hd:a.eval d=.slice (some ⟨g,off,none⟩) 16 c) (hs:a.eval s=v)
 (cur:Array Value) (t:TypeId) (hg:w.heap[g]? =some (.cells cur t (0,0))) (hcur:off+16≤cur.size) (l:List UInt8) (hl:l.length=16) (hv:SlB w v l)
 (h:∀w',w'.heap[g]? =some (.cells (cur.toList.take off++((l.map fun x=>Value.int .u8 (x.toNat:Int))++cur.toList.drop (off+16))).toArray t (0,0))→Keep (fun k=>k≠g) w w'→wpList Tryz.prog ops Q rest (a.put o.dst (goInt 16)) w'):wpList Tryz.prog ops Q (o::rest) a w:=by
 obtain⟨A,c',rfl,h1,h2,hA⟩:=hv
 obtain⟨d',i,rfl,hd'⟩:=hA (ne_nil_of hl (by omega))
 obtain⟨i0,hi,hz,hs',hb⟩:=info_parts info5
 have hlm:(l.map fun x=>Value.int .u8 (x.toNat:Int)).length=16:=by simp [hl]
 refine wpList_copy_own hgd d s 27 27 ho 5 Tryz.underlying27 (by rw [hi];simp [hs']) g off 16 c ⟨d',i,none⟩ l.length c' hd hs cur t hg (l.map fun x=>Value.int .u8 (x.toNat:Int)) (by rw [hlm,hl];rfl) (fun j u hj=>?_) (by rw [hlm];exact hcur) (by simp [Value.oneCell']) (by rw [hlm];exact h _ (setRow_heap w g cur _ t _ hg) ⟨rfl,rfl,rfl,by simp [World.setRow],fun k _ hk=>setRow_other w g k _ hk⟩)
 have hjl:j<l.length:=by
  rcases Nat.lt_or_ge j l.length with h | h
  ·exact h
  ·simp [List.getElem?_eq_none (show(l.map fun x=>Value.int .u8 (x.toNat:Int)).length≤j by simpa using h)]at hj
 have hplain:(⟨d',i,none⟩:Addr).add j=⟨d',i+j,none⟩:=by unfold Addr.add;split<;>simp_all
 rw [hplain,hd'.cell j hjl]
 simpa [hjl]using hj
theorem readUUID_is(g:Nat)(p r:List UInt8)(hp:p.length=16)(w:World)(H:Buf w g (152::(p++r))):
 Calls Tryz.prog 203 #[.pointer (some ⟨g,0,none⟩)] w fun e w'=>e=.returned (.tuple #[uuidV p,.nilIface])∧Adv g r w w':=by
 have hgl:=H.lt
 go_enter Tryz.func203,Tryz.ntmps203
 go_wp2_with fail
 refine(readType_is g _ _ _ (H.new (((Keep.refl _ w).alloc _).alloc _))).mono ?_
 rintro e w1 ⟨rfl,h1⟩
 go_wp2_with fail
 refine(buf_Next g p r 16 _ h1.2 (by rw [hp];rfl)).mono ?_
 rintro e w2 ⟨v,rfl,h2,hv⟩
 have h3:=h1.trans h2
 have hb1:=h3.1.blk (blk_new (w.alloc _) _) (by simp;omega)
 have hb0:=h3.1.blk (blk_alloc (blk_new w _) _) (by simp;omega)
 simp only [World.size_alloc]at hb1
 obtain⟨b0,b1,b2,b3,b4,b5,b6,b7,b8,b9,b10,b11,b12,b13,b14,b15,rfl⟩:=sixteen_of hp
 have HV:=Lib.hid hv
 clear hv
 go_wp2_with (refine wpList_copy16 (o:=⟨some 33,_,_,_,_,_⟩) rfl (.tmp 31) (.tmp 32) rfl (w.heap.size+1) 0 16 v rfl rfl _ 309 hb1 (by simp) [b0,b1,b2,b3,b4,b5,b6,b7,b8,b9,b10,b11,b12,b13,b14,b15] hp HV.out ?_;intro w3 hb3 k3;have hb4:=k3.blk hb0 (by simp);have c0:=(blk_cell hb3 0).trans rfl;have d0:=(blk_cell hb4 0).trans rfl;have f0:=blk_free hb4 0;have c1:=(blk_cell hb3 1).trans rfl;have d1:=(blk_cell hb4 1).trans rfl;have f1:=blk_free hb4 1;have c2:=(blk_cell hb3 2).trans rfl;have d2:=(blk_cell hb4 2).trans rfl;have f2:=blk_free hb4 2;have c3:=(blk_cell hb3 3).trans rfl;have d3:=(blk_cell hb4 3).trans rfl;have f3:=blk_free hb4 3;have c4:=(blk_cell hb3 4).trans rfl;have d4:=(blk_cell hb4 4).trans rfl;have f4:=blk_free hb4 4;have c5:=(blk_cell hb3 5).trans rfl;have d5:=(blk_cell hb4 5).trans rfl;have f5:=blk_free hb4 5;have c6:=(blk_cell hb3 6).trans rfl;have d6:=(blk_cell hb4 6).trans rfl;have f6:=blk_free hb4 6;have c7:=(blk_cell hb3 7).trans rfl;have d7:=(blk_cell hb4 7).trans rfl;have f7:=blk_free hb4 7;have c8:=(blk_cell hb3 8).trans rfl;have d8:=(blk_cell hb4 8).trans rfl;have f8:=blk_free hb4 8;have c9:=(blk_cell hb3 9).trans rfl;have d9:=(blk_cell hb4 9).trans rfl;have f9:=blk_free hb4 9;have c10:=(blk_cell hb3 10).trans rfl;have d10:=(blk_cell hb4 10).trans rfl;have f10:=blk_free hb4 10;have c11:=(blk_cell hb3 11).trans rfl;have d11:=(blk_cell hb4 11).trans rfl;have f11:=blk_free hb4 11;have c12:=(blk_cell hb3 12).trans rfl;have d12:=(blk_cell hb4 12).trans rfl;have f12:=blk_free hb4 12;have c13:=(blk_cell hb3 13).trans rfl;have d13:=(blk_cell hb4 13).trans rfl;have f13:=blk_free hb4 13;have c14:=(blk_cell hb3 14).trans rfl;have d14:=(blk_cell hb4 14).trans rfl;have f14:=blk_free hb4 14;have c15:=(blk_cell hb3 15).trans rfl;have d15:=(blk_cell hb4 15).trans rfl;have f15:=blk_free hb4 15;clear hb3 hb4)
 have k6:Keep (fun k=>k≠g) w w3:=((((Keep.refl (fun k=>k≠g) w).alloc _).alloc _).trans h3.1).then k3 (fun i hi _=>by omega)
 have hB:Buf w3 g r:=h3.2.keep k3 (fun i hi=>by omega)
 refine bodyPost_ret (v:=.tuple #[uuidV [b0,b1,b2,b3,b4,b5,b6,b7,b8,b9,b10,b11,b12,b13,b14,b15],.nilIface]) (by simp [results,Tryz.results203,go_sem,uuidV,d0,d1,d2,d3,d4,d5,d6,d7,d8,d9,d10,d11,d12,d13,d14,d15]) rfl ⟨rfl,?_,?_⟩
 ·repeat (refine Keep.setCell ?_ (.inl (Nat.le_refl _)) _)
  exact k6
 ·refine hB.keep (ok:=fun k=>k≠w.heap.size) ?_ (fun i hi=>by simp;omega)
  repeat (refine Keep.setCell ?_ (.inr (by simp)) _)
  exact Keep.refl _ _
end Go.Proofs.YtfoegolfadhmjaaGreatDoor
