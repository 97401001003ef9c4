/-
  Closed facts of this program, which its rows share: it may be entered.
-/
import Derived.Test.YtebigehbjfnfjaaRows
import Derived.JoinedOf
import Derived.KernelRfl
namespace Go.Proofs.Ytebigehbjfnfjaa
open Go
theorem jMay : Try.prog.mayEnter = true := by kernel_rfl
end Go.Proofs.Ytebigehbjfnfjaa
