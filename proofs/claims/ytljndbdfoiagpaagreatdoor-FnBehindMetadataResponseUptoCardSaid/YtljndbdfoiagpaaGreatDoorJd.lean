/-
  Closed facts of this program, which its rows share: how it is made.
-/
import Derived.Test.YtljndbdfoiagpaaGreatDoorRows
import Derived.JoinedOf
import Derived.KernelRfl
namespace Go.Proofs.YtljndbdfoiagpaaGreatDoor
open Go
theorem jMake : (Tryz.prog.make == some Rows.fnBehindAlterPartitionAssignmentsRequestUptoRow.make) = true := by kernel_rfl
end Go.Proofs.YtljndbdfoiagpaaGreatDoor
