/-
  Closed facts of this program, which its rows share: what it lays out.
-/
import Derived.Test.YtkgihecaappglaaDoorRows
import Derived.JoinedOf
import Derived.KernelRfl
namespace Go.Proofs.YtkgihecaappglaaDoor
open Go
theorem jLaid : laidOutB Tryd.prog = true := by kernel_rfl
theorem jMaps : mapsRowed Tryd.prog = true := by kernel_rfl
theorem jKeys : (Rows.fnUnsafeConsumerMemberMetadataRow.plainKeys == Tryd.prog.plainKeys) = true := by kernel_rfl
theorem jStops : Tryd.prog.stopsHeard = true := by kernel_rfl
end Go.Proofs.YtkgihecaappglaaDoor
