/-
  Closed facts of this program, which its rows share: what is lifted.
-/
import Derived.Test.YtieneknlekaonaaDoorRows
import Derived.JoinedOf
import Derived.KernelRfl
namespace Go.Proofs.YtieneknlekaonaaDoor
open Go
theorem jLift : (Rows.fnUnsafeAlterClientQuotasResponseRow.lifted == Tryd.prog.liftsFinal) = true := by kernel_rfl
end Go.Proofs.YtieneknlekaonaaDoor
