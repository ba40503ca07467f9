/- spec.DetachOf. -/
import Derived.Test.YtfoegolfadhmjaaGreatDoorZ26
set_option linter.all false
set_option maxRecDepth 100000
set_option maxHeartbeats 4000000
namespace Go.Proofs.YtfoegolfadhmjaaGreatDoor
open Go.RowKit Go.WideShapes
theorem mem_vm{w:World}{v:V}{vs:List V}{a0 a1 a2 a3 a4 a5:Value}{cells:List Value}(h:VM w v (.agg #[a0,a1,a2,a3,a4,a5]))(hs:Mem w vs cells):Mem w (v::vs) (a0::a1::a2::a3::a4::a5::cells):=
 (mem_of h).append hs
end Go.Proofs.YtfoegolfadhmjaaGreatDoor
