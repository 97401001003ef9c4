/-
  Closed facts of this program, which its rows share: how it is made.
-/
import Derived.Test.YtidifmifjblllaaGreatDoorRRows
import Derived.JoinedOf
import Derived.KernelRfl
namespace Go.Proofs.YtidifmifjblllaaGreatDoorR
open Go
theorem jMake : (Tryz.prog.make == some Rows.fnFrameCreateACLsRequestRow.make) = true := by kernel_rfl
end Go.Proofs.YtidifmifjblllaaGreatDoorR
