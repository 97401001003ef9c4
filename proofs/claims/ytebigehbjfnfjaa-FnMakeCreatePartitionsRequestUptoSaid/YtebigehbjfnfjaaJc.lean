/-
  Closed facts of this program, which its rows share: what is lifted.
-/
import Derived.Test.YtebigehbjfnfjaaRows
import Derived.JoinedOf
import Derived.KernelRfl
namespace Go.Proofs.Ytebigehbjfnfjaa
open Go
theorem jLift : (Rows.fnMakeAlterPartitionResponseUptoRow.lifted == Try.prog.liftsFinal) = true := by kernel_rfl
end Go.Proofs.Ytebigehbjfnfjaa
