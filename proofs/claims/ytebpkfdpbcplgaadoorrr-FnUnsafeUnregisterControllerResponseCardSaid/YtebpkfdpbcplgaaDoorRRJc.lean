/-
  Closed facts of this program, which its rows share: what is lifted.
-/
import Derived.Test.YtebpkfdpbcplgaaDoorRRRows
import Derived.JoinedOf
import Derived.KernelRfl
namespace Go.Proofs.YtebpkfdpbcplgaaDoorRR
open Go
theorem jLift : (Rows.fnUnsafeSyncGroupResponseRow.lifted == Tryd.prog.liftsFinal) = true := by kernel_rfl
end Go.Proofs.YtebpkfdpbcplgaaDoorRR
