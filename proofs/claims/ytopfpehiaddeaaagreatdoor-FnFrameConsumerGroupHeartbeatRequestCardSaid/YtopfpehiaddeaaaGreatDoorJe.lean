/-
  Closed facts of this program, which its rows share: what its main is.
-/
import Derived.Test.YtopfpehiaddeaaaGreatDoorRows
import Derived.JoinedOf
import Derived.SevenTiedAt
import Derived.KernelRfl
namespace Go.Proofs.YtopfpehiaddeaaaGreatDoor
open Go
theorem jMain : Tryz.prog.mainIs = some (true, "87c5ffd1676f2786c1c6683951c97c56858dc533970f995847b99d3a111aba01".toList) := by kernel_rfl
theorem jLooks : false = Tryz.prog.looks [] := by kernel_rfl
end Go.Proofs.YtopfpehiaddeaaaGreatDoor
