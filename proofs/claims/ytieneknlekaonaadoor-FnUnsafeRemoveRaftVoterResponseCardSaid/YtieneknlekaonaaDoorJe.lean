/-
  Closed facts of this program, which its rows share: what its main is.
-/
import Derived.Test.YtieneknlekaonaaDoorRows
import Derived.JoinedOf
import Derived.SevenTiedAt
import Derived.KernelRfl
namespace Go.Proofs.YtieneknlekaonaaDoor
open Go
theorem jMain : Tryd.prog.mainIs = some (true, "b6c32a2adf760e1f662a716f062875115922cac70eb76b58d23fbd76494a9af4".toList) := by kernel_rfl
theorem jLooks : false = Tryd.prog.looks [] := by kernel_rfl
end Go.Proofs.YtieneknlekaonaaDoor
