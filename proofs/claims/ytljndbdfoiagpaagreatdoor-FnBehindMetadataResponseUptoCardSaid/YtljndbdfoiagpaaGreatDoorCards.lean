/-
  DERIVED. GIVEN WITH THE SEED: THE CARDS: each row of YtljndbdfoiagpaaGreatDoorRows.lean that lists a variable, with what it lists TIED to the program's text (the seventh form; the later family's looks); each row that meets fmt, with fmt's text TOLD by the authors' own Lean function (tested against real Go, not proved from fmt's source: count such statements apart). THE CARD IS WHAT COUNTS. Prove the row's statement (the work); the ties are given (YtljndbdfoiagpaaGreatDoorTie.lean); close each card by the builder's one call (the guide's Derived/Test/ToyasCard.lean, 'card_holds'). Laid BY PROGRAM, IN A SANDBOX (cutbox-door.mjs). By AI agents, Wed Nov 11 2026. No macro, syntax, notation, axiom, sorry.
-/
import Derived.Test.YtljndbdfoiagpaaGreatDoorRows
import GoSem.ClaimSeven
namespace Go.Proofs.YtljndbdfoiagpaaGreatDoor
namespace Rows

/-- THE TIED CARD OF 'laws.FnBehindMetadataResponse'. -/
def fnBehindMetadataResponseCard : Claim7 := { stood := { row := fnBehindMetadataResponseRow, standIns := [], harness := (true, "e92e53707b35ad2a0023603f8fbe85c758b3616ccd40f8f20f7735e60e7c7bca"), looks := false }, kinds := [], alts := [], laidByText := true, laidKinds := [.sentinel], laidTests := true, laidLooks := .later }
def FnBehindMetadataResponseCardSaid : Prop := Claim7.holds Tryz.pinned (.plain (OpenSpec.ofChange fnBehindMetadataResponseSpec)) fnBehindMetadataResponseCard

/-- THE TIED CARD OF 'laws.FnBehindAlterPartitionAssignmentsRequest'. -/
def fnBehindAlterPartitionAssignmentsRequestCard : Claim7 := { stood := { row := fnBehindAlterPartitionAssignmentsRequestRow, standIns := [], harness := (true, "e92e53707b35ad2a0023603f8fbe85c758b3616ccd40f8f20f7735e60e7c7bca"), looks := false }, kinds := [], alts := [], laidByText := true, laidKinds := [.sentinel], laidTests := true, laidLooks := .later }
def FnBehindAlterPartitionAssignmentsRequestCardSaid : Prop := Claim7.holds Tryz.pinned (.plain (OpenSpec.ofChange fnBehindAlterPartitionAssignmentsRequestSpec)) fnBehindAlterPartitionAssignmentsRequestCard

/-- THE SECOND FORM's CARD OF 'laws.FnBehindMetadataResponse'. -/
def fnBehindMetadataResponseUptoCard : Claim7 := { stood := { row := fnBehindMetadataResponseUptoRow, standIns := [], harness := (true, "e92e53707b35ad2a0023603f8fbe85c758b3616ccd40f8f20f7735e60e7c7bca"), looks := false }, kinds := [], alts := [], laidByText := true, laidKinds := [.sentinel], laidTests := true, laidLooks := .later }
def FnBehindMetadataResponseUptoCardSaid : Prop := Claim7.holds Tryz.pinned (.plain (OpenSpec.upto fnBehindMetadataResponseSpec)) fnBehindMetadataResponseUptoCard

/-- THE SECOND FORM's CARD OF 'laws.FnBehindAlterPartitionAssignmentsRequest'. -/
def fnBehindAlterPartitionAssignmentsRequestUptoCard : Claim7 := { stood := { row := fnBehindAlterPartitionAssignmentsRequestUptoRow, standIns := [], harness := (true, "e92e53707b35ad2a0023603f8fbe85c758b3616ccd40f8f20f7735e60e7c7bca"), looks := false }, kinds := [], alts := [], laidByText := true, laidKinds := [.sentinel], laidTests := true, laidLooks := .later }
def FnBehindAlterPartitionAssignmentsRequestUptoCardSaid : Prop := Claim7.holds Tryz.pinned (.plain (OpenSpec.upto fnBehindAlterPartitionAssignmentsRequestSpec)) fnBehindAlterPartitionAssignmentsRequestUptoCard
end Rows
end Go.Proofs.YtljndbdfoiagpaaGreatDoor
