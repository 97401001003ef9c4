/-
  Closed facts of this program, which its rows share: how it is made.
-/
import Derived.Test.YtkceiijlnaakjaaGreatDoorRows
import Derived.JoinedOf
import Derived.KernelRfl
namespace Go.Proofs.YtkceiijlnaakjaaGreatDoor
open Go
theorem jMake : (Tryz.prog.make == some Rows.fnTellAlterShareGroupOffsetsRequestUptoRow.make) = true := by kernel_rfl
end Go.Proofs.YtkceiijlnaakjaaGreatDoor
