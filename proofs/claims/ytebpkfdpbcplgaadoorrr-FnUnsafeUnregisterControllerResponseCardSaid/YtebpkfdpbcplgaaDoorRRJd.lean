/-
  Closed facts of this program, which its rows share: how it is made.
-/
import Derived.Test.YtebpkfdpbcplgaaDoorRRRows
import Derived.JoinedOf
import Derived.KernelRfl
namespace Go.Proofs.YtebpkfdpbcplgaaDoorRR
open Go
theorem jMake : (Tryd.prog.make == some Rows.fnUnsafeSyncGroupResponseRow.make) = true := by kernel_rfl
end Go.Proofs.YtebpkfdpbcplgaaDoorRR
