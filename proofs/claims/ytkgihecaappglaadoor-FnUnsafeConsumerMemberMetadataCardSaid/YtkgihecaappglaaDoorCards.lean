/-
  DERIVED. GIVEN WITH THE SEED: THE CARDS: each row of YtkgihecaappglaaDoorRows.lean that lists a variable, with what it lists TIED to the program's text (the seventh form; the later family's looks); each row that meets fmt, with fmt's text TOLD by the authors' own Lean function (tested against real Go, not proved from fmt's source: count such statements apart). THE CARD IS WHAT COUNTS. Prove the row's statement (the work); the ties are given (YtkgihecaappglaaDoorTie.lean); close each card by the builder's one call (the guide's Derived/Test/ToyasCard.lean, 'card_holds'). Laid BY PROGRAM, IN A SANDBOX (cutbox-door.mjs). By AI agents, Wed Nov 11 2026. No macro, syntax, notation, axiom, sorry.
-/
import Derived.Test.YtkgihecaappglaaDoorRows
import GoSem.ClaimSeven
namespace Go.Proofs.YtkgihecaappglaaDoor
namespace Rows

/-- THE TIED CARD OF 'laws.FnUnsafeConsumerMemberMetadata'. -/
def fnUnsafeConsumerMemberMetadataCard : Claim7 := { stood := { row := fnUnsafeConsumerMemberMetadataRow, standIns := [], harness := (true, "21986074d051154016eab077599bb3e9a1edac6da091e9aef4b7fe3ab3a59f78"), looks := false }, kinds := [], alts := [], laidByText := true, laidKinds := [.sentinel], laidTests := true, laidLooks := .later }
def FnUnsafeConsumerMemberMetadataCardSaid : Prop := Claim7.holds Tryd.pinned (.plain (OpenSpec.ofChange fnUnsafeConsumerMemberMetadataSpec)) fnUnsafeConsumerMemberMetadataCard

/-- THE SECOND FORM's CARD OF 'laws.FnUnsafeConsumerMemberMetadata'. -/
def fnUnsafeConsumerMemberMetadataUptoCard : Claim7 := { stood := { row := fnUnsafeConsumerMemberMetadataUptoRow, standIns := [], harness := (true, "21986074d051154016eab077599bb3e9a1edac6da091e9aef4b7fe3ab3a59f78"), looks := false }, kinds := [], alts := [], laidByText := true, laidKinds := [.sentinel], laidTests := true, laidLooks := .later }
def FnUnsafeConsumerMemberMetadataUptoCardSaid : Prop := Claim7.holds Tryd.pinned (.plain (OpenSpec.upto fnUnsafeConsumerMemberMetadataSpec)) fnUnsafeConsumerMemberMetadataUptoCard
end Rows
end Go.Proofs.YtkgihecaappglaaDoor
