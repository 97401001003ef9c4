/-
  Closed facts of this program, which its rows share: how it is made.
-/
import Derived.Test.YtcknmmkgmlkhaaaGreatDoorRows
import Derived.JoinedOf
import Derived.KernelRfl
namespace Go.Proofs.YtcknmmkgmlkhaaaGreatDoor
open Go
theorem jMake : (Tryz.prog.make == some Rows.fnDefaultBeginQuorumEpochRequestUptoRow.make) = true := by kernel_rfl
end Go.Proofs.YtcknmmkgmlkhaaaGreatDoor
