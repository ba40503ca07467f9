/- The rows' tables: a world in which they are laid; what a row's list gives. -/
import Derived.Test.YtfoegolfadhmjaaGreatDoorZ50
import Derived.Test.YtfoegolfadhmjaaGreatDoorTie
import Derived.ProofKit
import Derived.LaidMore
import Derived.OpenShut
import Derived.Stop.Joined
import Derived.Lib.LaidIn
set_option linter.all false
set_option maxRecDepth 100000
set_option maxHeartbeats 4000000
namespace Go.Proofs.YtfoegolfadhmjaaGreatDoor
open Go.ChangeShapes Go.WideShapes Go.ChangeAt Go.RowKit Go.Lib
theorem own:ownKnob Tryz.prog.godebug=none:=by kernel_rfl
noncomputable def laidWorld (os:Os):World:=
 let w0:=World.holding Tryz.prog os ⟨#[],#[],[]⟩
 let put (h:Array Obj) (g:Nat) (cs:Array Value):Array Obj:=h.modify g fun
  | .cells _ t frozen=>.cells cs t frozen
  | o=>o
 let h1:=put w0.heap 1 (Lib.firstTab.map fun z=>Value.int .u8 z).toArray
 let h2:=put h1 2 ((List.range 16).flatMap fun i=>[Value.int .u8 (Lib.accLo i),Value.int .u8 (Lib.accHi i)]).toArray
 let h3:=put h2 4 #[.iface 166 (.pointer (some ⟨w0.heap.size,0,none⟩))]
 { w0 with heap:=h3.push (.cells #[.string ⟨#[69,79,70]⟩] 168 (0,0)) }
theorem firstData_is:(Rows.laid_unicode_utf8_first:DataW Unit)=firstData:=by kernel_rfl
theorem acceptData_is:(Rows.laid_unicode_utf8_acceptRanges:DataW Unit)=acceptData:=by kernel_rfl
abbrev laidL:List (String×DataW Unit):=[("unicode/utf8.acceptRanges",Rows.laid_unicode_utf8_acceptRanges),("io.EOF",Rows.laid_io_EOF),("unicode/utf8.first",Rows.laid_unicode_utf8_first)]
theorem laid_met(os:Os)(args:Array Value):laidMet Tryz.prog laidL ((laidWorld os).forCall (fun _ _=>0) ⟨#[],args,[]⟩).memory:=
 laidMet_of_run' 8 (by kernel_rfl) (by kernel_rfl)
theorem vld_laid{W:World}(h:laidMet Tryz.prog laidL W):Vld W:=
 vld_of (by rw [←firstData_is];exact laidMet.reads h (.tail _ (.tail _ (.head _)))) (by rw [←acceptData_is];exact laidMet.reads h (.head _))
theorem laid_own:(laidL.all fun x=>x.2.handleName?.isNone)=true:=by kernel_rfl
theorem laid_out:laidOutB Tryz.prog=true:=by kernel_rfl
theorem card_main:Tryz.pinned.checked.prog.mainIs=some (true,"07602ffb06a6c960d0abeb22ff7e34fae122d74c4eee09c732784a76be53c40a".toList):=by kernel_rfl
theorem card_looks:true=Tryz.prog.looks []:=by kernel_rfl
theorem stand26:Tryz.prog.wantsStandIn 26=false:=by kernel_rfl
theorem stand27:Tryz.prog.wantsStandIn 27=false:=by kernel_rfl
end Go.Proofs.YtfoegolfadhmjaaGreatDoor
