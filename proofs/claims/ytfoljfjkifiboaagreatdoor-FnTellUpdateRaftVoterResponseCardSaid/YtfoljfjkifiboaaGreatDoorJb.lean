/-
  Closed facts of this program, which its rows share: it may be entered.
-/
import Derived.Test.YtfoljfjkifiboaaGreatDoorRows
import Derived.JoinedOf
import Derived.KernelRfl
namespace Go.Proofs.YtfoljfjkifiboaaGreatDoor
open Go
theorem jMay : Tryz.prog.mayEnter = true := by kernel_rfl
end Go.Proofs.YtfoljfjkifiboaaGreatDoor
