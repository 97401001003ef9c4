/-
  Closed facts of this program, which its rows share: what is lifted.
-/
import Derived.Test.YtolcohnlcakchaaDoorRows
import Derived.JoinedOf
import Derived.KernelRfl
namespace Go.Proofs.YtolcohnlcakchaaDoor
open Go
theorem jLift : (Rows.fnUnsafeBrokerHeartbeatResponseRow.lifted == Tryd.prog.liftsFinal) = true := by kernel_rfl
end Go.Proofs.YtolcohnlcakchaaDoor
