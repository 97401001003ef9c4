/-
  Closed facts of this program, which its rows share: what its main is.
-/
import Derived.Test.YtkgihecaappglaaDoorRows
import Derived.JoinedOf
import Derived.SevenTiedAt
import Derived.KernelRfl
namespace Go.Proofs.YtkgihecaappglaaDoor
open Go
theorem jMain : Tryd.prog.mainIs = some (true, "21986074d051154016eab077599bb3e9a1edac6da091e9aef4b7fe3ab3a59f78".toList) := by kernel_rfl
theorem jLooks : false = Tryd.prog.looks [] := by kernel_rfl
end Go.Proofs.YtkgihecaappglaaDoor
