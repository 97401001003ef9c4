/-
  Closed facts of this program, which its rows share: what is lifted.
-/
import Derived.Test.YtfpobhhgbmbeaaaDoorRows
import Derived.JoinedOf
import Derived.KernelRfl
namespace Go.Proofs.YtfpobhhgbmbeaaaDoor
open Go
theorem jLift : (Rows.fnBehindAddOffsetsToTxnRequestRow.lifted == Tryd.prog.liftsFinal) = true := by kernel_rfl
end Go.Proofs.YtfpobhhgbmbeaaaDoor
