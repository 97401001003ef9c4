/-
  Closed facts of this program, which its rows share: what its main is.
-/
import Derived.Test.YtkgihecaappglaaGreatDoorRows
import Derived.JoinedOf
import Derived.SevenTiedAt
import Derived.KernelRfl
namespace Go.Proofs.YtkgihecaappglaaGreatDoor
open Go
theorem jMain : Tryz.prog.mainIs = some (true, "bcb94881c3157bbcd13154ca75216933b8ab2f635b44f9e7eb6a9976cff8a91c".toList) := by kernel_rfl
theorem jLooks : false = Tryz.prog.looks [] := by kernel_rfl
end Go.Proofs.YtkgihecaappglaaGreatDoor
