/-
  Closed facts of this program, which its rows share: how it is made.
-/
import Derived.Test.YtolcohnlcakchaaDoorRows
import Derived.JoinedOf
import Derived.KernelRfl
namespace Go.Proofs.YtolcohnlcakchaaDoor
open Go
theorem jMake : (Tryd.prog.make == some Rows.fnUnsafeBrokerHeartbeatResponseRow.make) = true := by kernel_rfl
end Go.Proofs.YtolcohnlcakchaaDoor
