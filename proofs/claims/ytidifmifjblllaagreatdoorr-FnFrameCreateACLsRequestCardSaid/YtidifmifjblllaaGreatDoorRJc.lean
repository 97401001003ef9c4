/-
  Closed facts of this program, which its rows share: what is lifted.
-/
import Derived.Test.YtidifmifjblllaaGreatDoorRRows
import Derived.JoinedOf
import Derived.KernelRfl
namespace Go.Proofs.YtidifmifjblllaaGreatDoorR
open Go
theorem jLift : (Rows.fnFrameCreateACLsRequestRow.lifted == Tryz.prog.liftsFinal) = true := by kernel_rfl
end Go.Proofs.YtidifmifjblllaaGreatDoorR
