/-
  DERIVED. GIVEN WITH THE SEED: THE CARDS: each row of YtopfpehiaddeaaaGreatDoorRows.lean that lists a variable, with what it lists TIED to the program's text (the seventh form; the later family's looks); each row that meets fmt, with fmt's text TOLD by the authors' own Lean function (tested against real Go, not proved from fmt's source: count such statements apart). THE CARD IS WHAT COUNTS. Prove the row's statement (the work); the ties are given (YtopfpehiaddeaaaGreatDoorTie.lean); close each card by the builder's one call (the guide's Derived/Test/ToyasCard.lean, 'card_holds'). Laid BY PROGRAM, IN A SANDBOX (cutbox-door.mjs). By AI agents, Wed Nov 11 2026. No macro, syntax, notation, axiom, sorry.
-/
import Derived.Test.YtopfpehiaddeaaaGreatDoorRows
import GoSem.ClaimSeven
namespace Go.Proofs.YtopfpehiaddeaaaGreatDoor
namespace Rows

/-- THE TIED CARD OF 'laws.FnFrameConsumerGroupHeartbeatRequest'. -/
def fnFrameConsumerGroupHeartbeatRequestCard : Claim7 := { stood := { row := fnFrameConsumerGroupHeartbeatRequestRow, standIns := [], harness := (true, "87c5ffd1676f2786c1c6683951c97c56858dc533970f995847b99d3a111aba01"), looks := false }, kinds := [], alts := [], laidByText := true, laidKinds := [.sentinel], laidTests := true, laidLooks := .later }
def FnFrameConsumerGroupHeartbeatRequestCardSaid : Prop := Claim7.holds Tryz.pinned (.plain (OpenSpec.ofChange fnFrameConsumerGroupHeartbeatRequestSpec)) fnFrameConsumerGroupHeartbeatRequestCard

/-- THE SECOND FORM's CARD OF 'laws.FnFrameConsumerGroupHeartbeatRequest'. -/
def fnFrameConsumerGroupHeartbeatRequestUptoCard : Claim7 := { stood := { row := fnFrameConsumerGroupHeartbeatRequestUptoRow, standIns := [], harness := (true, "87c5ffd1676f2786c1c6683951c97c56858dc533970f995847b99d3a111aba01"), looks := false }, kinds := [], alts := [], laidByText := true, laidKinds := [.sentinel], laidTests := true, laidLooks := .later }
def FnFrameConsumerGroupHeartbeatRequestUptoCardSaid : Prop := Claim7.holds Tryz.pinned (.plain (OpenSpec.upto fnFrameConsumerGroupHeartbeatRequestSpec)) fnFrameConsumerGroupHeartbeatRequestUptoCard
end Rows
end Go.Proofs.YtopfpehiaddeaaaGreatDoor
