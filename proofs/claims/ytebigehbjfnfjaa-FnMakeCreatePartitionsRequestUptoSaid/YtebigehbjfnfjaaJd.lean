/-
  Closed facts of this program, which its rows share: how it is made.
-/
import Derived.Test.YtebigehbjfnfjaaRows
import Derived.JoinedOf
import Derived.KernelRfl
namespace Go.Proofs.Ytebigehbjfnfjaa
open Go
theorem jMake : (Try.prog.make == some Rows.fnMakeAlterPartitionResponseUptoRow.make) = true := by kernel_rfl
end Go.Proofs.Ytebigehbjfnfjaa
