/-
  Closed facts of this program, which its rows share: what is lifted.
-/
import Derived.Test.YtljndbdfoiagpaaGreatDoorRows
import Derived.JoinedOf
import Derived.KernelRfl
namespace Go.Proofs.YtljndbdfoiagpaaGreatDoor
open Go
theorem jLift : (Rows.fnBehindAlterPartitionAssignmentsRequestUptoRow.lifted == Tryz.prog.liftsFinal) = true := by kernel_rfl
end Go.Proofs.YtljndbdfoiagpaaGreatDoor
