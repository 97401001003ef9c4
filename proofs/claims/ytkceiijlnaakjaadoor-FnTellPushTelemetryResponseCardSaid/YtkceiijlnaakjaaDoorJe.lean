/-
  Closed facts of this program, which its rows share: what its main is.
-/
import Derived.Test.YtkceiijlnaakjaaDoorRows
import Derived.JoinedOf
import Derived.SevenTiedAt
import Derived.KernelRfl
namespace Go.Proofs.YtkceiijlnaakjaaDoor
open Go
theorem jMain : Tryd.prog.mainIs = some (true, "55299335a28a53267334b4cfaab32f2cd1370e9c42351eaf9733722b48ada8d9".toList) := by kernel_rfl
theorem jLooks : false = Tryd.prog.looks [] := by kernel_rfl
end Go.Proofs.YtkceiijlnaakjaaDoor
