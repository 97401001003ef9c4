/-
  Closed facts of this program, which its rows share: what is lifted.
-/
import Derived.Test.YtfoljfjkifiboaaRows
import Derived.JoinedOf
import Derived.KernelRfl
namespace Go.Proofs.Ytfoljfjkifiboaa
open Go
theorem jLift : (Rows.fnMakeTxnMetadataValueRow.lifted == Try.prog.liftsFinal) = true := by kernel_rfl
end Go.Proofs.Ytfoljfjkifiboaa
