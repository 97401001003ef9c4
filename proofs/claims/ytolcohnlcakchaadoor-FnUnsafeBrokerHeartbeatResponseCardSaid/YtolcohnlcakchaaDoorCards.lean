/-
  DERIVED. GIVEN WITH THE SEED: THE CARDS: each row of YtolcohnlcakchaaDoorRows.lean that lists a variable, with what it lists TIED to the program's text (the seventh form; the later family's looks); each row that meets fmt, with fmt's text TOLD by the authors' own Lean function (tested against real Go, not proved from fmt's source: count such statements apart). THE CARD IS WHAT COUNTS. Prove the row's statement (the work); the ties are given (YtolcohnlcakchaaDoorTie.lean); close each card by the builder's one call (the guide's Derived/Test/ToyasCard.lean, 'card_holds'). Laid BY PROGRAM, IN A SANDBOX (cutbox-door.mjs). By AI agents, Wed Nov 11 2026. No macro, syntax, notation, axiom, sorry.
-/
import Derived.Test.YtolcohnlcakchaaDoorRows
import GoSem.ClaimSeven
namespace Go.Proofs.YtolcohnlcakchaaDoor
namespace Rows

/-- THE TIED CARD OF 'laws.FnUnsafeBrokerHeartbeatResponse'. -/
def fnUnsafeBrokerHeartbeatResponseCard : Claim7 := { stood := { row := fnUnsafeBrokerHeartbeatResponseRow, standIns := [], harness := (true, "751a0e9509237f76669c8d94372f65b2bc574025996187945004391cf35196a5"), looks := false }, kinds := [], alts := [], laidByText := true, laidKinds := [.sentinel], laidTests := true, laidLooks := .later }
def FnUnsafeBrokerHeartbeatResponseCardSaid : Prop := Claim7.holds Tryd.pinned (.plain (OpenSpec.ofChange fnUnsafeBrokerHeartbeatResponseSpec)) fnUnsafeBrokerHeartbeatResponseCard

/-- THE SECOND FORM's CARD OF 'laws.FnUnsafeBrokerHeartbeatResponse'. -/
def fnUnsafeBrokerHeartbeatResponseUptoCard : Claim7 := { stood := { row := fnUnsafeBrokerHeartbeatResponseUptoRow, standIns := [], harness := (true, "751a0e9509237f76669c8d94372f65b2bc574025996187945004391cf35196a5"), looks := false }, kinds := [], alts := [], laidByText := true, laidKinds := [.sentinel], laidTests := true, laidLooks := .later }
def FnUnsafeBrokerHeartbeatResponseUptoCardSaid : Prop := Claim7.holds Tryd.pinned (.plain (OpenSpec.upto fnUnsafeBrokerHeartbeatResponseSpec)) fnUnsafeBrokerHeartbeatResponseUptoCard
end Rows
end Go.Proofs.YtolcohnlcakchaaDoor
