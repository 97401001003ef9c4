/-
  Closed facts of this program, which its rows share: it may be entered.
-/
import Derived.Test.YtkgihecaappglaaGreatDoorRows
import Derived.JoinedOf
import Derived.KernelRfl
namespace Go.Proofs.YtkgihecaappglaaGreatDoor
open Go
theorem jMay : Tryz.prog.mayEnter = true := by kernel_rfl
end Go.Proofs.YtkgihecaappglaaGreatDoor
