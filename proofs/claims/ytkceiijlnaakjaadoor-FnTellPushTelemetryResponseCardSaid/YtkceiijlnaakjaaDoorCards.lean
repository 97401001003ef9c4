/-
  DERIVED. GIVEN WITH THE SEED: THE CARDS: each row of YtkceiijlnaakjaaDoorRows.lean that lists a variable, with what it lists TIED to the program's text (the seventh form; the later family's looks); each row that meets fmt, with fmt's text TOLD by the authors' own Lean function (tested against real Go, not proved from fmt's source: count such statements apart). THE CARD IS WHAT COUNTS. Prove the row's statement (the work); the ties are given (YtkceiijlnaakjaaDoorTie.lean); close each card by the builder's one call (the guide's Derived/Test/ToyasCard.lean, 'card_holds'). Laid BY PROGRAM, IN A SANDBOX (cutbox-door.mjs). By AI agents, Wed Nov 11 2026. No macro, syntax, notation, axiom, sorry.
-/
import Derived.Test.YtkceiijlnaakjaaDoorRows
import GoSem.ClaimSeven
namespace Go.Proofs.YtkceiijlnaakjaaDoor
namespace Rows

/-- THE TIED CARD OF 'laws.FnTellPushTelemetryResponse'. -/
def fnTellPushTelemetryResponseCard : Claim7 := { stood := { row := fnTellPushTelemetryResponseRow, standIns := [], harness := (true, "55299335a28a53267334b4cfaab32f2cd1370e9c42351eaf9733722b48ada8d9"), looks := false }, kinds := [], alts := [], laidByText := true, laidKinds := [.sentinel], laidTests := true, laidLooks := .later }
def FnTellPushTelemetryResponseCardSaid : Prop := Claim7.holds Tryd.pinned (.plain (OpenSpec.ofChange fnTellPushTelemetryResponseSpec)) fnTellPushTelemetryResponseCard

/-- THE SECOND FORM's CARD OF 'laws.FnTellPushTelemetryResponse'. -/
def fnTellPushTelemetryResponseUptoCard : Claim7 := { stood := { row := fnTellPushTelemetryResponseUptoRow, standIns := [], harness := (true, "55299335a28a53267334b4cfaab32f2cd1370e9c42351eaf9733722b48ada8d9"), looks := false }, kinds := [], alts := [], laidByText := true, laidKinds := [.sentinel], laidTests := true, laidLooks := .later }
def FnTellPushTelemetryResponseUptoCardSaid : Prop := Claim7.holds Tryd.pinned (.plain (OpenSpec.upto fnTellPushTelemetryResponseSpec)) fnTellPushTelemetryResponseUptoCard
end Rows
end Go.Proofs.YtkceiijlnaakjaaDoor
