/-
  Closed facts of this program, which its rows share: how it is made.
-/
import Derived.Test.YtkgihecaappglaaGreatDoorRows
import Derived.JoinedOf
import Derived.KernelRfl
namespace Go.Proofs.YtkgihecaappglaaGreatDoor
open Go
theorem jMake : (Tryz.prog.make == some Rows.fnUnsafeFetchResponseRow.make) = true := by kernel_rfl
end Go.Proofs.YtkgihecaappglaaGreatDoor
