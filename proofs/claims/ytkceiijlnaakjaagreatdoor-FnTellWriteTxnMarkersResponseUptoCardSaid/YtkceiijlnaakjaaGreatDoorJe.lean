/-
  Closed facts of this program, which its rows share: what its main is.
-/
import Derived.Test.YtkceiijlnaakjaaGreatDoorRows
import Derived.JoinedOf
import Derived.SevenTiedAt
import Derived.KernelRfl
namespace Go.Proofs.YtkceiijlnaakjaaGreatDoor
open Go
theorem jMain : Tryz.prog.mainIs = some (true, "42b49a8ac704914b2ddbc483d9508e2c5c07f5e9685188a43ad7ee497d91d1f1".toList) := by kernel_rfl
theorem jLooks : false = Tryz.prog.looks [] := by kernel_rfl
end Go.Proofs.YtkceiijlnaakjaaGreatDoor
