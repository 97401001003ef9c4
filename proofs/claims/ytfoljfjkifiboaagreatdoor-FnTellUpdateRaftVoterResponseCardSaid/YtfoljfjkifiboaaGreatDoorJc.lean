/-
  Closed facts of this program, which its rows share: what is lifted.
-/
import Derived.Test.YtfoljfjkifiboaaGreatDoorRows
import Derived.JoinedOf
import Derived.KernelRfl
namespace Go.Proofs.YtfoljfjkifiboaaGreatDoor
open Go
theorem jLift : (Rows.fnTellUpdateRaftVoterResponseRow.lifted == Tryz.prog.liftsFinal) = true := by kernel_rfl
end Go.Proofs.YtfoljfjkifiboaaGreatDoor
