/-
  Closed facts of this program, which its rows share: what is lifted.
-/
import Derived.Test.YthjbggibpkgmpaaGreatDoorRows
import Derived.JoinedOf
import Derived.KernelRfl
namespace Go.Proofs.YthjbggibpkgmpaaGreatDoor
open Go
theorem jLift : (Rows.fnBehindAddPartitionsToTxnResponseUptoRow.lifted == Tryz.prog.liftsFinal) = true := by kernel_rfl
end Go.Proofs.YthjbggibpkgmpaaGreatDoor
