/-
  Closed facts of this program, which its rows share: what is lifted.
-/
import Derived.Test.YtkceiijlnaakjaaGreatDoorRows
import Derived.JoinedOf
import Derived.KernelRfl
namespace Go.Proofs.YtkceiijlnaakjaaGreatDoor
open Go
theorem jLift : (Rows.fnTellAlterShareGroupOffsetsRequestUptoRow.lifted == Tryz.prog.liftsFinal) = true := by kernel_rfl
end Go.Proofs.YtkceiijlnaakjaaGreatDoor
