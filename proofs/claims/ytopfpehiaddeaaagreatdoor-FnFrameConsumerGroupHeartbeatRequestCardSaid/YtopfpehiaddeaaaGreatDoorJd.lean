/-
  Closed facts of this program, which its rows share: how it is made.
-/
import Derived.Test.YtopfpehiaddeaaaGreatDoorRows
import Derived.JoinedOf
import Derived.KernelRfl
namespace Go.Proofs.YtopfpehiaddeaaaGreatDoor
open Go
theorem jMake : (Tryz.prog.make == some Rows.fnFrameConsumerGroupHeartbeatRequestRow.make) = true := by kernel_rfl
end Go.Proofs.YtopfpehiaddeaaaGreatDoor
