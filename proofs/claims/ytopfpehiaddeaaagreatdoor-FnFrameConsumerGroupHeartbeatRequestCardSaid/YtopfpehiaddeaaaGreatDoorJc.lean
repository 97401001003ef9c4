/-
  Closed facts of this program, which its rows share: what is lifted.
-/
import Derived.Test.YtopfpehiaddeaaaGreatDoorRows
import Derived.JoinedOf
import Derived.KernelRfl
namespace Go.Proofs.YtopfpehiaddeaaaGreatDoor
open Go
theorem jLift : (Rows.fnFrameConsumerGroupHeartbeatRequestRow.lifted == Tryz.prog.liftsFinal) = true := by kernel_rfl
end Go.Proofs.YtopfpehiaddeaaaGreatDoor
