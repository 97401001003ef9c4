/-
  Closed facts of this program, which its rows share: what its main is.
-/
import Derived.Test.YtidifmifjblllaaGreatDoorRRows
import Derived.JoinedOf
import Derived.SevenTiedAt
import Derived.KernelRfl
namespace Go.Proofs.YtidifmifjblllaaGreatDoorR
open Go
theorem jMain : Tryz.prog.mainIs = some (true, "d4410e0ae6eb6b92e5ae76361a494d0ba2f20f30d0c4546e192c6e96508ec12f".toList) := by kernel_rfl
theorem jLooks : false = Tryz.prog.looks [] := by kernel_rfl
end Go.Proofs.YtidifmifjblllaaGreatDoorR
