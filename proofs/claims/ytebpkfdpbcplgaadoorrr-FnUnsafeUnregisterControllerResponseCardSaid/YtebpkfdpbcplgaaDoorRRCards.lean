/-
  DERIVED. GIVEN WITH THE SEED: THE CARDS: each row of YtebpkfdpbcplgaaDoorRRRows.lean that lists a variable, with what it lists TIED to the program's text (the seventh form; the later family's looks); each row that meets fmt, with fmt's text TOLD by the authors' own Lean function (tested against real Go, not proved from fmt's source: count such statements apart). THE CARD IS WHAT COUNTS. Prove the row's statement (the work); the ties are given (YtebpkfdpbcplgaaDoorRRTie.lean); close each card by the builder's one call (the guide's Derived/Test/ToyasCard.lean, 'card_holds'). Laid BY PROGRAM, IN A SANDBOX (cutbox-door.mjs). By AI agents, Wed Nov 11 2026. No macro, syntax, notation, axiom, sorry.
-/
import Derived.Test.YtebpkfdpbcplgaaDoorRRRows
import GoSem.ClaimSeven
namespace Go.Proofs.YtebpkfdpbcplgaaDoorRR
namespace Rows

/-- THE TIED CARD OF 'laws.FnUnsafeConsumerMemberMetadata'. -/
def fnUnsafeConsumerMemberMetadataCard : Claim7 := { stood := { row := fnUnsafeConsumerMemberMetadataRow, standIns := [], harness := (true, "f078e2a25b8d08072eb172984e233063520726e8ce37b23255c36fc1b6a983f9"), looks := false }, kinds := [], alts := [], laidByText := true, laidKinds := [.sentinel], laidTests := true, laidLooks := .later }
def FnUnsafeConsumerMemberMetadataCardSaid : Prop := Claim7.holds Tryd.pinned (.plain (OpenSpec.ofChange fnUnsafeConsumerMemberMetadataSpec)) fnUnsafeConsumerMemberMetadataCard

/-- THE TIED CARD OF 'laws.FnUnsafeSyncGroupResponse'. -/
def fnUnsafeSyncGroupResponseCard : Claim7 := { stood := { row := fnUnsafeSyncGroupResponseRow, standIns := [], harness := (true, "f078e2a25b8d08072eb172984e233063520726e8ce37b23255c36fc1b6a983f9"), looks := false }, kinds := [], alts := [], laidByText := true, laidKinds := [.sentinel], laidTests := true, laidLooks := .later }
def FnUnsafeSyncGroupResponseCardSaid : Prop := Claim7.holds Tryd.pinned (.plain (OpenSpec.ofChange fnUnsafeSyncGroupResponseSpec)) fnUnsafeSyncGroupResponseCard

/-- THE TIED CARD OF 'laws.FnUnsafeUnregisterBrokerRequest'. -/
def fnUnsafeUnregisterBrokerRequestCard : Claim7 := { stood := { row := fnUnsafeUnregisterBrokerRequestRow, standIns := [], harness := (true, "f078e2a25b8d08072eb172984e233063520726e8ce37b23255c36fc1b6a983f9"), looks := false }, kinds := [], alts := [], laidByText := true, laidKinds := [.sentinel], laidTests := true, laidLooks := .later }
def FnUnsafeUnregisterBrokerRequestCardSaid : Prop := Claim7.holds Tryd.pinned (.plain (OpenSpec.ofChange fnUnsafeUnregisterBrokerRequestSpec)) fnUnsafeUnregisterBrokerRequestCard

/-- THE TIED CARD OF 'laws.FnUnsafeUnregisterControllerResponse'. -/
def fnUnsafeUnregisterControllerResponseCard : Claim7 := { stood := { row := fnUnsafeUnregisterControllerResponseRow, standIns := [], harness := (true, "f078e2a25b8d08072eb172984e233063520726e8ce37b23255c36fc1b6a983f9"), looks := false }, kinds := [], alts := [], laidByText := true, laidKinds := [.sentinel], laidTests := true, laidLooks := .later }
def FnUnsafeUnregisterControllerResponseCardSaid : Prop := Claim7.holds Tryd.pinned (.plain (OpenSpec.ofChange fnUnsafeUnregisterControllerResponseSpec)) fnUnsafeUnregisterControllerResponseCard

/-- THE SECOND FORM's CARD OF 'laws.FnUnsafeConsumerMemberMetadata'. -/
def fnUnsafeConsumerMemberMetadataUptoCard : Claim7 := { stood := { row := fnUnsafeConsumerMemberMetadataUptoRow, standIns := [], harness := (true, "f078e2a25b8d08072eb172984e233063520726e8ce37b23255c36fc1b6a983f9"), looks := false }, kinds := [], alts := [], laidByText := true, laidKinds := [.sentinel], laidTests := true, laidLooks := .later }
def FnUnsafeConsumerMemberMetadataUptoCardSaid : Prop := Claim7.holds Tryd.pinned (.plain (OpenSpec.upto fnUnsafeConsumerMemberMetadataSpec)) fnUnsafeConsumerMemberMetadataUptoCard

/-- THE SECOND FORM's CARD OF 'laws.FnUnsafeSyncGroupResponse'. -/
def fnUnsafeSyncGroupResponseUptoCard : Claim7 := { stood := { row := fnUnsafeSyncGroupResponseUptoRow, standIns := [], harness := (true, "f078e2a25b8d08072eb172984e233063520726e8ce37b23255c36fc1b6a983f9"), looks := false }, kinds := [], alts := [], laidByText := true, laidKinds := [.sentinel], laidTests := true, laidLooks := .later }
def FnUnsafeSyncGroupResponseUptoCardSaid : Prop := Claim7.holds Tryd.pinned (.plain (OpenSpec.upto fnUnsafeSyncGroupResponseSpec)) fnUnsafeSyncGroupResponseUptoCard

/-- THE SECOND FORM's CARD OF 'laws.FnUnsafeUnregisterBrokerRequest'. -/
def fnUnsafeUnregisterBrokerRequestUptoCard : Claim7 := { stood := { row := fnUnsafeUnregisterBrokerRequestUptoRow, standIns := [], harness := (true, "f078e2a25b8d08072eb172984e233063520726e8ce37b23255c36fc1b6a983f9"), looks := false }, kinds := [], alts := [], laidByText := true, laidKinds := [.sentinel], laidTests := true, laidLooks := .later }
def FnUnsafeUnregisterBrokerRequestUptoCardSaid : Prop := Claim7.holds Tryd.pinned (.plain (OpenSpec.upto fnUnsafeUnregisterBrokerRequestSpec)) fnUnsafeUnregisterBrokerRequestUptoCard

/-- THE SECOND FORM's CARD OF 'laws.FnUnsafeUnregisterControllerResponse'. -/
def fnUnsafeUnregisterControllerResponseUptoCard : Claim7 := { stood := { row := fnUnsafeUnregisterControllerResponseUptoRow, standIns := [], harness := (true, "f078e2a25b8d08072eb172984e233063520726e8ce37b23255c36fc1b6a983f9"), looks := false }, kinds := [], alts := [], laidByText := true, laidKinds := [.sentinel], laidTests := true, laidLooks := .later }
def FnUnsafeUnregisterControllerResponseUptoCardSaid : Prop := Claim7.holds Tryd.pinned (.plain (OpenSpec.upto fnUnsafeUnregisterControllerResponseSpec)) fnUnsafeUnregisterControllerResponseUptoCard
end Rows
end Go.Proofs.YtebpkfdpbcplgaaDoorRR
