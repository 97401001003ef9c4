/-
  Closed facts of this program, which its rows share: what it lays out.
-/
import Derived.Test.YtfoljfjkifiboaaRows
import Derived.JoinedOf
import Derived.KernelRfl
namespace Go.Proofs.Ytfoljfjkifiboaa
open Go
theorem jLaid : laidOutB Try.prog = true := by kernel_rfl
theorem jMaps : mapsRowed Try.prog = true := by kernel_rfl
theorem jKeys : (Rows.fnMakeTxnMetadataValueRow.plainKeys == Try.prog.plainKeys) = true := by kernel_rfl
theorem jStops : Try.prog.stopsHeard = true := by kernel_rfl
end Go.Proofs.Ytfoljfjkifiboaa
