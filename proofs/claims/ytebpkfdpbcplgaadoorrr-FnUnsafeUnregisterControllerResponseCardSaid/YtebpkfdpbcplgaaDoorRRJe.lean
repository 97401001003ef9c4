/-
  Closed facts of this program, which its rows share: what its main is.
-/
import Derived.Test.YtebpkfdpbcplgaaDoorRRRows
import Derived.JoinedOf
import Derived.SevenTiedAt
import Derived.KernelRfl
namespace Go.Proofs.YtebpkfdpbcplgaaDoorRR
open Go
theorem jMain : Tryd.prog.mainIs = some (true, "f078e2a25b8d08072eb172984e233063520726e8ce37b23255c36fc1b6a983f9".toList) := by kernel_rfl
theorem jLooks : false = Tryd.prog.looks [] := by kernel_rfl
end Go.Proofs.YtebpkfdpbcplgaaDoorRR
