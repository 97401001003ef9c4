/-
  Closed facts of this program, which its rows share: what its main is.
-/
import Derived.Test.YthjbggibpkgmpaaGreatDoorRows
import Derived.JoinedOf
import Derived.SevenTiedAt
import Derived.KernelRfl
namespace Go.Proofs.YthjbggibpkgmpaaGreatDoor
open Go
theorem jMain : Tryz.prog.mainIs = some (true, "7843e2e327881765293ecb2c7a7d5cd1c4cc285ad5e185d22ed35e564e813dfc".toList) := by kernel_rfl
theorem jLooks : false = Tryz.prog.looks [] := by kernel_rfl
end Go.Proofs.YthjbggibpkgmpaaGreatDoor
