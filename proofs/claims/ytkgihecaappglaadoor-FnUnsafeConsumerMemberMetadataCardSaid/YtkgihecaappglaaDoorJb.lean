/-
  Closed facts of this program, which its rows share: it may be entered.
-/
import Derived.Test.YtkgihecaappglaaDoorRows
import Derived.JoinedOf
import Derived.KernelRfl
namespace Go.Proofs.YtkgihecaappglaaDoor
open Go
theorem jMay : Tryd.prog.mayEnter = true := by kernel_rfl
end Go.Proofs.YtkgihecaappglaaDoor
