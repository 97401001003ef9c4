/-
  Closed facts of this program, which its rows share: what it lays out.
-/
import Derived.Test.YtebigehbjfnfjaaRows
import Derived.JoinedOf
import Derived.KernelRfl
namespace Go.Proofs.Ytebigehbjfnfjaa
open Go
theorem jLaid : laidOutB Try.prog = true := by kernel_rfl
theorem jMaps : mapsRowed Try.prog = true := by kernel_rfl
theorem jKeys : (Rows.fnMakeAlterPartitionResponseUptoRow.plainKeys == Try.prog.plainKeys) = true := by kernel_rfl
theorem jStops : Try.prog.stopsHeard = true := by kernel_rfl
end Go.Proofs.Ytebigehbjfnfjaa
