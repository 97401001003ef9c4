/-
  Closed facts of this program, which its rows share: what is lifted.
-/
import Derived.Test.YtkgihecaappglaaDoorRows
import Derived.JoinedOf
import Derived.KernelRfl
namespace Go.Proofs.YtkgihecaappglaaDoor
open Go
theorem jLift : (Rows.fnUnsafeConsumerMemberMetadataRow.lifted == Tryd.prog.liftsFinal) = true := by kernel_rfl
end Go.Proofs.YtkgihecaappglaaDoor
