/-
  Closed facts of this program, which its rows share: how it is made.
-/
import Derived.Test.YtieneknlekaonaaDoorRows
import Derived.JoinedOf
import Derived.KernelRfl
namespace Go.Proofs.YtieneknlekaonaaDoor
open Go
theorem jMake : (Tryd.prog.make == some Rows.fnUnsafeAlterClientQuotasResponseRow.make) = true := by kernel_rfl
end Go.Proofs.YtieneknlekaonaaDoor
