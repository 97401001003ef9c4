/-
  Closed facts of this program, which its rows share: what its main is.
-/
import Derived.Test.YtljndbdfoiagpaaGreatDoorRows
import Derived.JoinedOf
import Derived.SevenTiedAt
import Derived.KernelRfl
namespace Go.Proofs.YtljndbdfoiagpaaGreatDoor
open Go
theorem jMain : Tryz.prog.mainIs = some (true, "e92e53707b35ad2a0023603f8fbe85c758b3616ccd40f8f20f7735e60e7c7bca".toList) := by kernel_rfl
theorem jLooks : false = Tryz.prog.looks [] := by kernel_rfl
end Go.Proofs.YtljndbdfoiagpaaGreatDoor
