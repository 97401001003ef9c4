/-
  Closed facts of this program, which its rows share: how it is made.
-/
import Derived.Test.YthjbggibpkgmpaaGreatDoorRows
import Derived.JoinedOf
import Derived.KernelRfl
namespace Go.Proofs.YthjbggibpkgmpaaGreatDoor
open Go
theorem jMake : (Tryz.prog.make == some Rows.fnBehindAddPartitionsToTxnResponseUptoRow.make) = true := by kernel_rfl
end Go.Proofs.YthjbggibpkgmpaaGreatDoor
