/-
  Closed facts of this program, which its rows share: what its main is.
-/
import Derived.Test.YtolcohnlcakchaaDoorRows
import Derived.JoinedOf
import Derived.SevenTiedAt
import Derived.KernelRfl
namespace Go.Proofs.YtolcohnlcakchaaDoor
open Go
theorem jMain : Tryd.prog.mainIs = some (true, "751a0e9509237f76669c8d94372f65b2bc574025996187945004391cf35196a5".toList) := by kernel_rfl
theorem jLooks : false = Tryd.prog.looks [] := by kernel_rfl
end Go.Proofs.YtolcohnlcakchaaDoor
