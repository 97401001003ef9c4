/-
  Closed facts of this program, which its rows share: how it is made.
-/
import Derived.Test.YtkgihecaappglaaDoorRows
import Derived.JoinedOf
import Derived.KernelRfl
namespace Go.Proofs.YtkgihecaappglaaDoor
open Go
theorem jMake : (Tryd.prog.make == some Rows.fnUnsafeConsumerMemberMetadataRow.make) = true := by kernel_rfl
end Go.Proofs.YtkgihecaappglaaDoor
