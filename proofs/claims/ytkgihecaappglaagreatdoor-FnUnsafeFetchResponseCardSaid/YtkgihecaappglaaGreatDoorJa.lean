/-
  Closed facts of this program, which its rows share: what it lays out.
-/
import Derived.Test.YtkgihecaappglaaGreatDoorRows
import Derived.JoinedOf
import Derived.KernelRfl
namespace Go.Proofs.YtkgihecaappglaaGreatDoor
open Go
theorem jLaid : laidOutB Tryz.prog = true := by kernel_rfl
theorem jMaps : mapsRowed Tryz.prog = true := by kernel_rfl
theorem jKeys : (Rows.fnUnsafeFetchResponseRow.plainKeys == Tryz.prog.plainKeys) = true := by kernel_rfl
theorem jStops : Tryz.prog.stopsHeard = true := by kernel_rfl
end Go.Proofs.YtkgihecaappglaaGreatDoor
