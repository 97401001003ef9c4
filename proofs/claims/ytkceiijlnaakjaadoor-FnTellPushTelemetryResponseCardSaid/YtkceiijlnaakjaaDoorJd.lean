/-
  Closed facts of this program, which its rows share: how it is made.
-/
import Derived.Test.YtkceiijlnaakjaaDoorRows
import Derived.JoinedOf
import Derived.KernelRfl
namespace Go.Proofs.YtkceiijlnaakjaaDoor
open Go
theorem jMake : (Tryd.prog.make == some Rows.fnTellPushTelemetryResponseRow.make) = true := by kernel_rfl
end Go.Proofs.YtkceiijlnaakjaaDoor
