/-
  DERIVED. GIVEN WITH THE SEED: THE CARDS: each row of YtidifmifjblllaaGreatDoorRRows.lean that lists a variable, with what it lists TIED to the program's text (the seventh form; the later family's looks); each row that meets fmt, with fmt's text TOLD by the authors' own Lean function (tested against real Go, not proved from fmt's source: count such statements apart). THE CARD IS WHAT COUNTS. Prove the row's statement (the work); the ties are given (YtidifmifjblllaaGreatDoorRTie.lean); close each card by the builder's one call (the guide's Derived/Test/ToyasCard.lean, 'card_holds'). Laid BY PROGRAM, IN A SANDBOX (cutbox-door.mjs). By AI agents, Wed Nov 11 2026. No macro, syntax, notation, axiom, sorry.
-/
import Derived.Test.YtidifmifjblllaaGreatDoorRRows
import GoSem.ClaimSeven
namespace Go.Proofs.YtidifmifjblllaaGreatDoorR
namespace Rows

/-- THE TIED CARD OF 'laws.FnFrameCreateACLsRequest'. -/
def fnFrameCreateACLsRequestCard : Claim7 := { stood := { row := fnFrameCreateACLsRequestRow, standIns := [], harness := (true, "d4410e0ae6eb6b92e5ae76361a494d0ba2f20f30d0c4546e192c6e96508ec12f"), looks := false }, kinds := [], alts := [], laidByText := true, laidKinds := [.sentinel], laidTests := true, laidLooks := .later }
def FnFrameCreateACLsRequestCardSaid : Prop := Claim7.holds Tryz.pinned (.plain (OpenSpec.ofChange fnFrameCreateACLsRequestSpec)) fnFrameCreateACLsRequestCard

/-- THE SECOND FORM's CARD OF 'laws.FnFrameCreateACLsRequest'. -/
def fnFrameCreateACLsRequestUptoCard : Claim7 := { stood := { row := fnFrameCreateACLsRequestUptoRow, standIns := [], harness := (true, "d4410e0ae6eb6b92e5ae76361a494d0ba2f20f30d0c4546e192c6e96508ec12f"), looks := false }, kinds := [], alts := [], laidByText := true, laidKinds := [.sentinel], laidTests := true, laidLooks := .later }
def FnFrameCreateACLsRequestUptoCardSaid : Prop := Claim7.holds Tryz.pinned (.plain (OpenSpec.upto fnFrameCreateACLsRequestSpec)) fnFrameCreateACLsRequestUptoCard
end Rows
end Go.Proofs.YtidifmifjblllaaGreatDoorR
