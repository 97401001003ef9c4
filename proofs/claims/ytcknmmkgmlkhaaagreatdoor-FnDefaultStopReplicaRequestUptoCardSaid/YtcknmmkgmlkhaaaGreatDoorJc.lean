/-
  Closed facts of this program, which its rows share: what is lifted.
-/
import Derived.Test.YtcknmmkgmlkhaaaGreatDoorRows
import Derived.JoinedOf
import Derived.KernelRfl
namespace Go.Proofs.YtcknmmkgmlkhaaaGreatDoor
open Go
theorem jLift : (Rows.fnDefaultBeginQuorumEpochRequestUptoRow.lifted == Tryz.prog.liftsFinal) = true := by kernel_rfl
end Go.Proofs.YtcknmmkgmlkhaaaGreatDoor
