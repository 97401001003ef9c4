/-
  Closed facts of this program, which its rows share: what is lifted.
-/
import Derived.Test.YtkceiijlnaakjaaDoorRows
import Derived.JoinedOf
import Derived.KernelRfl
namespace Go.Proofs.YtkceiijlnaakjaaDoor
open Go
theorem jLift : (Rows.fnTellPushTelemetryResponseRow.lifted == Tryd.prog.liftsFinal) = true := by kernel_rfl
end Go.Proofs.YtkceiijlnaakjaaDoor
