/-
  Closed facts of this program, which its rows share: it may be entered.
-/
import Derived.Test.YtfoljfjkifiboaaRows
import Derived.JoinedOf
import Derived.KernelRfl
namespace Go.Proofs.Ytfoljfjkifiboaa
open Go
theorem jMay : Try.prog.mayEnter = true := by kernel_rfl
end Go.Proofs.Ytfoljfjkifiboaa
