/-
  Closed facts of this program, which its rows share: what its main is.
-/
import Derived.Test.YtfoljfjkifiboaaGreatDoorRows
import Derived.JoinedOf
import Derived.SevenTiedAt
import Derived.KernelRfl
namespace Go.Proofs.YtfoljfjkifiboaaGreatDoor
open Go
theorem jMain : Tryz.prog.mainIs = some (true, "af531776d047fc6da166072732ff3fb78e56b092d6c3c372dc5220c0bb102e41".toList) := by kernel_rfl
theorem jLooks : false = Tryz.prog.looks [] := by kernel_rfl
end Go.Proofs.YtfoljfjkifiboaaGreatDoor
