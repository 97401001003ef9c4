/-
  DERIVED. GIVEN WITH THE SEED: THE CARDS: each row of YtioafahhbmhjmaaDoorRows.lean that lists a variable, with what it lists TIED to the program's text (the seventh form; the later family's looks); each row that meets fmt, with fmt's text TOLD by the authors' own Lean function (tested against real Go, not proved from fmt's source: count such statements apart). THE CARD IS WHAT COUNTS. Prove the row's statement (the work); the ties are given (YtioafahhbmhjmaaDoorTie.lean); close each card by the builder's one call (the guide's Derived/Test/ToyasCard.lean, 'card_holds'). Laid BY PROGRAM, IN A SANDBOX (cutbox-door.mjs). By AI agents, Wed Nov 11 2026. No macro, syntax, notation, axiom, sorry.
-/
import Derived.Test.YtioafahhbmhjmaaDoorRows
import GoSem.ClaimSeven
namespace Go.Proofs.YtioafahhbmhjmaaDoor
namespace Rows

/-- THE TIED CARD OF 'laws.FnBehindSASLHandshakeResponse'. -/
def fnBehindSASLHandshakeResponseCard : Claim7 := { stood := { row := fnBehindSASLHandshakeResponseRow, standIns := [], harness := (true, "4b951ba02a64e5c86b17eb2b2a9702b12eab2b5b64a03ee5cb80af28fbaac733"), looks := false }, kinds := [], alts := [], laidByText := true, laidKinds := [.sentinel], laidTests := true, laidLooks := .later }
def FnBehindSASLHandshakeResponseCardSaid : Prop := Claim7.holds Tryd.pinned (.plain (OpenSpec.ofChange fnBehindSASLHandshakeResponseSpec)) fnBehindSASLHandshakeResponseCard

/-- THE TIED CARD OF 'laws.FnUnsafeOffsetDeleteRequest'. -/
def fnUnsafeOffsetDeleteRequestCard : Claim7 := { stood := { row := fnUnsafeOffsetDeleteRequestRow, standIns := [], harness := (true, "4b951ba02a64e5c86b17eb2b2a9702b12eab2b5b64a03ee5cb80af28fbaac733"), looks := false }, kinds := [], alts := [], laidByText := true, laidKinds := [.sentinel], laidTests := true, laidLooks := .later }
def FnUnsafeOffsetDeleteRequestCardSaid : Prop := Claim7.holds Tryd.pinned (.plain (OpenSpec.ofChange fnUnsafeOffsetDeleteRequestSpec)) fnUnsafeOffsetDeleteRequestCard

/-- THE TIED CARD OF 'laws.FnUnsafeConsumerMemberMetadata'. -/
def fnUnsafeConsumerMemberMetadataCard : Claim7 := { stood := { row := fnUnsafeConsumerMemberMetadataRow, standIns := [], harness := (true, "4b951ba02a64e5c86b17eb2b2a9702b12eab2b5b64a03ee5cb80af28fbaac733"), looks := false }, kinds := [], alts := [], laidByText := true, laidKinds := [.sentinel], laidTests := true, laidLooks := .later }
def FnUnsafeConsumerMemberMetadataCardSaid : Prop := Claim7.holds Tryd.pinned (.plain (OpenSpec.ofChange fnUnsafeConsumerMemberMetadataSpec)) fnUnsafeConsumerMemberMetadataCard

/-- THE SECOND FORM's CARD OF 'laws.FnBehindSASLHandshakeResponse'. -/
def fnBehindSASLHandshakeResponseUptoCard : Claim7 := { stood := { row := fnBehindSASLHandshakeResponseUptoRow, standIns := [], harness := (true, "4b951ba02a64e5c86b17eb2b2a9702b12eab2b5b64a03ee5cb80af28fbaac733"), looks := false }, kinds := [], alts := [], laidByText := true, laidKinds := [.sentinel], laidTests := true, laidLooks := .later }
def FnBehindSASLHandshakeResponseUptoCardSaid : Prop := Claim7.holds Tryd.pinned (.plain (OpenSpec.upto fnBehindSASLHandshakeResponseSpec)) fnBehindSASLHandshakeResponseUptoCard

/-- THE SECOND FORM's CARD OF 'laws.FnUnsafeOffsetDeleteRequest'. -/
def fnUnsafeOffsetDeleteRequestUptoCard : Claim7 := { stood := { row := fnUnsafeOffsetDeleteRequestUptoRow, standIns := [], harness := (true, "4b951ba02a64e5c86b17eb2b2a9702b12eab2b5b64a03ee5cb80af28fbaac733"), looks := false }, kinds := [], alts := [], laidByText := true, laidKinds := [.sentinel], laidTests := true, laidLooks := .later }
def FnUnsafeOffsetDeleteRequestUptoCardSaid : Prop := Claim7.holds Tryd.pinned (.plain (OpenSpec.upto fnUnsafeOffsetDeleteRequestSpec)) fnUnsafeOffsetDeleteRequestUptoCard

/-- THE SECOND FORM's CARD OF 'laws.FnUnsafeConsumerMemberMetadata'. -/
def fnUnsafeConsumerMemberMetadataUptoCard : Claim7 := { stood := { row := fnUnsafeConsumerMemberMetadataUptoRow, standIns := [], harness := (true, "4b951ba02a64e5c86b17eb2b2a9702b12eab2b5b64a03ee5cb80af28fbaac733"), looks := false }, kinds := [], alts := [], laidByText := true, laidKinds := [.sentinel], laidTests := true, laidLooks := .later }
def FnUnsafeConsumerMemberMetadataUptoCardSaid : Prop := Claim7.holds Tryd.pinned (.plain (OpenSpec.upto fnUnsafeConsumerMemberMetadataSpec)) fnUnsafeConsumerMemberMetadataUptoCard
end Rows
end Go.Proofs.YtioafahhbmhjmaaDoor
