/-
  Closed facts of this program, which its rows share: what is lifted.
-/
import Derived.Test.YtkgihecaappglaaGreatDoorRows
import Derived.JoinedOf
import Derived.KernelRfl
namespace Go.Proofs.YtkgihecaappglaaGreatDoor
open Go
theorem jLift : (Rows.fnUnsafeFetchResponseRow.lifted == Tryz.prog.liftsFinal) = true := by kernel_rfl
end Go.Proofs.YtkgihecaappglaaGreatDoor
