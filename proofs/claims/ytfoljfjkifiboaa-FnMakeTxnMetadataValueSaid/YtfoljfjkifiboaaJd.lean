/-
  Closed facts of this program, which its rows share: how it is made.
-/
import Derived.Test.YtfoljfjkifiboaaRows
import Derived.JoinedOf
import Derived.KernelRfl
namespace Go.Proofs.Ytfoljfjkifiboaa
open Go
theorem jMake : (Try.prog.make == some Rows.fnMakeTxnMetadataValueRow.make) = true := by kernel_rfl
end Go.Proofs.Ytfoljfjkifiboaa
