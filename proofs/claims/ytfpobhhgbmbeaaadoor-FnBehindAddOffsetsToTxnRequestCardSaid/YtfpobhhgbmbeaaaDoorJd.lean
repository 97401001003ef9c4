/-
  Closed facts of this program, which its rows share: how it is made.
-/
import Derived.Test.YtfpobhhgbmbeaaaDoorRows
import Derived.JoinedOf
import Derived.KernelRfl
namespace Go.Proofs.YtfpobhhgbmbeaaaDoor
open Go
theorem jMake : (Tryd.prog.make == some Rows.fnBehindAddOffsetsToTxnRequestRow.make) = true := by kernel_rfl
end Go.Proofs.YtfpobhhgbmbeaaaDoor
