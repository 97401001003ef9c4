/-
  Closed facts of this program, which its rows share: what its main is.
-/
import Derived.Test.YtcknmmkgmlkhaaaGreatDoorRows
import Derived.JoinedOf
import Derived.SevenTiedAt
import Derived.KernelRfl
namespace Go.Proofs.YtcknmmkgmlkhaaaGreatDoor
open Go
theorem jMain : Tryz.prog.mainIs = some (true, "5f4d16a474fce8d8431efec0f294ecea4545ba3ea2bdeb99bf03cd0e62ad3b90".toList) := by kernel_rfl
theorem jLooks : false = Tryz.prog.looks [] := by kernel_rfl
end Go.Proofs.YtcknmmkgmlkhaaaGreatDoor
