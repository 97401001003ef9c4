/-
  Closed facts of this program, which its rows share: what its main is.
-/
import Derived.Test.YtfpobhhgbmbeaaaDoorRows
import Derived.JoinedOf
import Derived.SevenTiedAt
import Derived.KernelRfl
namespace Go.Proofs.YtfpobhhgbmbeaaaDoor
open Go
theorem jMain : Tryd.prog.mainIs = some (true, "ec0becf0ac43e2ffa85fec231be22cea059831a0d100a499d6b2a4a11010c2a7".toList) := by kernel_rfl
theorem jLooks : false = Tryd.prog.looks [] := by kernel_rfl
end Go.Proofs.YtfpobhhgbmbeaaaDoor
