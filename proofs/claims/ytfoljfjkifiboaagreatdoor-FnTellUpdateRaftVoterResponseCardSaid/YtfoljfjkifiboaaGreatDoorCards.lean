/-
  DERIVED. GIVEN WITH THE SEED: THE CARDS: each row of YtfoljfjkifiboaaGreatDoorRows.lean that lists a variable, with what it lists TIED to the program's text (the seventh form; the later family's looks); each row that meets fmt, with fmt's text TOLD by the authors' own Lean function (tested against real Go, not proved from fmt's source: count such statements apart). THE CARD IS WHAT COUNTS. Prove the row's statement (the work); the ties are given (YtfoljfjkifiboaaGreatDoorTie.lean); close each card by the builder's one call (the guide's Derived/Test/ToyasCard.lean, 'card_holds'). Laid BY PROGRAM, IN A SANDBOX (cutbox-door.mjs). By AI agents, Wed Nov 11 2026. No macro, syntax, notation, axiom, sorry.
-/
import Derived.Test.YtfoljfjkifiboaaGreatDoorRows
import GoSem.ClaimSeven
namespace Go.Proofs.YtfoljfjkifiboaaGreatDoor
namespace Rows

/-- THE TIED CARD OF 'laws.FnTellUpdateRaftVoterResponse'. -/
def fnTellUpdateRaftVoterResponseCard : Claim7 := { stood := { row := fnTellUpdateRaftVoterResponseRow, standIns := [], harness := (true, "af531776d047fc6da166072732ff3fb78e56b092d6c3c372dc5220c0bb102e41"), looks := false }, kinds := [], alts := [], laidByText := true, laidKinds := [.sentinel], laidTests := true, laidLooks := .later }
def FnTellUpdateRaftVoterResponseCardSaid : Prop := Claim7.holds Tryz.pinned (.plain (OpenSpec.ofChange fnTellUpdateRaftVoterResponseSpec)) fnTellUpdateRaftVoterResponseCard

/-- THE TIED CARD OF 'laws.FnTellGroupMetadataValue'. -/
def fnTellGroupMetadataValueCard : Claim7 := { stood := { row := fnTellGroupMetadataValueRow, standIns := [], harness := (true, "af531776d047fc6da166072732ff3fb78e56b092d6c3c372dc5220c0bb102e41"), looks := false }, kinds := [], alts := [], laidByText := true, laidKinds := [.sentinel], laidTests := true, laidLooks := .later }
def FnTellGroupMetadataValueCardSaid : Prop := Claim7.holds Tryz.pinned (.plain (OpenSpec.ofChange fnTellGroupMetadataValueSpec)) fnTellGroupMetadataValueCard

/-- THE SECOND FORM's CARD OF 'laws.FnTellUpdateRaftVoterResponse'. -/
def fnTellUpdateRaftVoterResponseUptoCard : Claim7 := { stood := { row := fnTellUpdateRaftVoterResponseUptoRow, standIns := [], harness := (true, "af531776d047fc6da166072732ff3fb78e56b092d6c3c372dc5220c0bb102e41"), looks := false }, kinds := [], alts := [], laidByText := true, laidKinds := [.sentinel], laidTests := true, laidLooks := .later }
def FnTellUpdateRaftVoterResponseUptoCardSaid : Prop := Claim7.holds Tryz.pinned (.plain (OpenSpec.upto fnTellUpdateRaftVoterResponseSpec)) fnTellUpdateRaftVoterResponseUptoCard

/-- THE SECOND FORM's CARD OF 'laws.FnTellGroupMetadataValue'. -/
def fnTellGroupMetadataValueUptoCard : Claim7 := { stood := { row := fnTellGroupMetadataValueUptoRow, standIns := [], harness := (true, "af531776d047fc6da166072732ff3fb78e56b092d6c3c372dc5220c0bb102e41"), looks := false }, kinds := [], alts := [], laidByText := true, laidKinds := [.sentinel], laidTests := true, laidLooks := .later }
def FnTellGroupMetadataValueUptoCardSaid : Prop := Claim7.holds Tryz.pinned (.plain (OpenSpec.upto fnTellGroupMetadataValueSpec)) fnTellGroupMetadataValueUptoCard
end Rows
end Go.Proofs.YtfoljfjkifiboaaGreatDoor
