/-
  Closed facts of this program, which its rows share: how it is made.
-/
import Derived.Test.YtfoljfjkifiboaaGreatDoorRows
import Derived.JoinedOf
import Derived.KernelRfl
namespace Go.Proofs.YtfoljfjkifiboaaGreatDoor
open Go
theorem jMake : (Tryz.prog.make == some Rows.fnTellUpdateRaftVoterResponseRow.make) = true := by kernel_rfl
end Go.Proofs.YtfoljfjkifiboaaGreatDoor
