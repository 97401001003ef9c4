/-
  DERIVED. GIVEN WITH THE SEED: THE CARDS: each row of YtcknmmkgmlkhaaaGreatDoorRows.lean that lists a variable, with what it lists TIED to the program's text (the seventh form; the later family's looks); each row that meets fmt, with fmt's text TOLD by the authors' own Lean function (tested against real Go, not proved from fmt's source: count such statements apart). THE CARD IS WHAT COUNTS. Prove the row's statement (the work); the ties are given (YtcknmmkgmlkhaaaGreatDoorTie.lean); close each card by the builder's one call (the guide's Derived/Test/ToyasCard.lean, 'card_holds'). Laid BY PROGRAM, IN A SANDBOX (cutbox-door.mjs). By AI agents, Wed Nov 11 2026. No macro, syntax, notation, axiom, sorry.
-/
import Derived.Test.YtcknmmkgmlkhaaaGreatDoorRows
import GoSem.ClaimSeven
namespace Go.Proofs.YtcknmmkgmlkhaaaGreatDoor
namespace Rows

/-- THE TIED CARD OF 'laws.FnDefaultDeleteRecordsRequest'. -/
def fnDefaultDeleteRecordsRequestCard : Claim7 := { stood := { row := fnDefaultDeleteRecordsRequestRow, standIns := [], harness := (true, "5f4d16a474fce8d8431efec0f294ecea4545ba3ea2bdeb99bf03cd0e62ad3b90"), looks := false }, kinds := [], alts := [], laidByText := true, laidKinds := [.sentinel], laidTests := true, laidLooks := .later }
def FnDefaultDeleteRecordsRequestCardSaid : Prop := Claim7.holds Tryz.pinned (.plain (OpenSpec.ofChange fnDefaultDeleteRecordsRequestSpec)) fnDefaultDeleteRecordsRequestCard

/-- THE TIED CARD OF 'laws.FnDefaultListTransactionsRequest'. -/
def fnDefaultListTransactionsRequestCard : Claim7 := { stood := { row := fnDefaultListTransactionsRequestRow, standIns := [], harness := (true, "5f4d16a474fce8d8431efec0f294ecea4545ba3ea2bdeb99bf03cd0e62ad3b90"), looks := false }, kinds := [], alts := [], laidByText := true, laidKinds := [.sentinel], laidTests := true, laidLooks := .later }
def FnDefaultListTransactionsRequestCardSaid : Prop := Claim7.holds Tryz.pinned (.plain (OpenSpec.ofChange fnDefaultListTransactionsRequestSpec)) fnDefaultListTransactionsRequestCard

/-- THE TIED CARD OF 'laws.FnDefaultDeleteTopicsRequest'. -/
def fnDefaultDeleteTopicsRequestCard : Claim7 := { stood := { row := fnDefaultDeleteTopicsRequestRow, standIns := [], harness := (true, "5f4d16a474fce8d8431efec0f294ecea4545ba3ea2bdeb99bf03cd0e62ad3b90"), looks := false }, kinds := [], alts := [], laidByText := true, laidKinds := [.sentinel], laidTests := true, laidLooks := .later }
def FnDefaultDeleteTopicsRequestCardSaid : Prop := Claim7.holds Tryz.pinned (.plain (OpenSpec.ofChange fnDefaultDeleteTopicsRequestSpec)) fnDefaultDeleteTopicsRequestCard

/-- THE TIED CARD OF 'laws.FnDefaultStopReplicaRequest'. -/
def fnDefaultStopReplicaRequestCard : Claim7 := { stood := { row := fnDefaultStopReplicaRequestRow, standIns := [], harness := (true, "5f4d16a474fce8d8431efec0f294ecea4545ba3ea2bdeb99bf03cd0e62ad3b90"), looks := false }, kinds := [], alts := [], laidByText := true, laidKinds := [.sentinel], laidTests := true, laidLooks := .later }
def FnDefaultStopReplicaRequestCardSaid : Prop := Claim7.holds Tryz.pinned (.plain (OpenSpec.ofChange fnDefaultStopReplicaRequestSpec)) fnDefaultStopReplicaRequestCard

/-- THE TIED CARD OF 'laws.FnDefaultBeginQuorumEpochRequest'. -/
def fnDefaultBeginQuorumEpochRequestCard : Claim7 := { stood := { row := fnDefaultBeginQuorumEpochRequestRow, standIns := [], harness := (true, "5f4d16a474fce8d8431efec0f294ecea4545ba3ea2bdeb99bf03cd0e62ad3b90"), looks := false }, kinds := [], alts := [], laidByText := true, laidKinds := [.sentinel], laidTests := true, laidLooks := .later }
def FnDefaultBeginQuorumEpochRequestCardSaid : Prop := Claim7.holds Tryz.pinned (.plain (OpenSpec.ofChange fnDefaultBeginQuorumEpochRequestSpec)) fnDefaultBeginQuorumEpochRequestCard

/-- THE TIED CARD OF 'laws.FnDefaultCreateTopicsRequest'. -/
def fnDefaultCreateTopicsRequestCard : Claim7 := { stood := { row := fnDefaultCreateTopicsRequestRow, standIns := [], harness := (true, "5f4d16a474fce8d8431efec0f294ecea4545ba3ea2bdeb99bf03cd0e62ad3b90"), looks := false }, kinds := [], alts := [], laidByText := true, laidKinds := [.sentinel], laidTests := true, laidLooks := .later }
def FnDefaultCreateTopicsRequestCardSaid : Prop := Claim7.holds Tryz.pinned (.plain (OpenSpec.ofChange fnDefaultCreateTopicsRequestSpec)) fnDefaultCreateTopicsRequestCard

/-- THE TIED CARD OF 'laws.FnDefaultShareFetchRequest'. -/
def fnDefaultShareFetchRequestCard : Claim7 := { stood := { row := fnDefaultShareFetchRequestRow, standIns := [], harness := (true, "5f4d16a474fce8d8431efec0f294ecea4545ba3ea2bdeb99bf03cd0e62ad3b90"), looks := false }, kinds := [], alts := [], laidByText := true, laidKinds := [.sentinel], laidTests := true, laidLooks := .later }
def FnDefaultShareFetchRequestCardSaid : Prop := Claim7.holds Tryz.pinned (.plain (OpenSpec.ofChange fnDefaultShareFetchRequestSpec)) fnDefaultShareFetchRequestCard

/-- THE SECOND FORM's CARD OF 'laws.FnDefaultDeleteRecordsRequest'. -/
def fnDefaultDeleteRecordsRequestUptoCard : Claim7 := { stood := { row := fnDefaultDeleteRecordsRequestUptoRow, standIns := [], harness := (true, "5f4d16a474fce8d8431efec0f294ecea4545ba3ea2bdeb99bf03cd0e62ad3b90"), looks := false }, kinds := [], alts := [], laidByText := true, laidKinds := [.sentinel], laidTests := true, laidLooks := .later }
def FnDefaultDeleteRecordsRequestUptoCardSaid : Prop := Claim7.holds Tryz.pinned (.plain (OpenSpec.upto fnDefaultDeleteRecordsRequestSpec)) fnDefaultDeleteRecordsRequestUptoCard

/-- THE SECOND FORM's CARD OF 'laws.FnDefaultListTransactionsRequest'. -/
def fnDefaultListTransactionsRequestUptoCard : Claim7 := { stood := { row := fnDefaultListTransactionsRequestUptoRow, standIns := [], harness := (true, "5f4d16a474fce8d8431efec0f294ecea4545ba3ea2bdeb99bf03cd0e62ad3b90"), looks := false }, kinds := [], alts := [], laidByText := true, laidKinds := [.sentinel], laidTests := true, laidLooks := .later }
def FnDefaultListTransactionsRequestUptoCardSaid : Prop := Claim7.holds Tryz.pinned (.plain (OpenSpec.upto fnDefaultListTransactionsRequestSpec)) fnDefaultListTransactionsRequestUptoCard

/-- THE SECOND FORM's CARD OF 'laws.FnDefaultDeleteTopicsRequest'. -/
def fnDefaultDeleteTopicsRequestUptoCard : Claim7 := { stood := { row := fnDefaultDeleteTopicsRequestUptoRow, standIns := [], harness := (true, "5f4d16a474fce8d8431efec0f294ecea4545ba3ea2bdeb99bf03cd0e62ad3b90"), looks := false }, kinds := [], alts := [], laidByText := true, laidKinds := [.sentinel], laidTests := true, laidLooks := .later }
def FnDefaultDeleteTopicsRequestUptoCardSaid : Prop := Claim7.holds Tryz.pinned (.plain (OpenSpec.upto fnDefaultDeleteTopicsRequestSpec)) fnDefaultDeleteTopicsRequestUptoCard

/-- THE SECOND FORM's CARD OF 'laws.FnDefaultStopReplicaRequest'. -/
def fnDefaultStopReplicaRequestUptoCard : Claim7 := { stood := { row := fnDefaultStopReplicaRequestUptoRow, standIns := [], harness := (true, "5f4d16a474fce8d8431efec0f294ecea4545ba3ea2bdeb99bf03cd0e62ad3b90"), looks := false }, kinds := [], alts := [], laidByText := true, laidKinds := [.sentinel], laidTests := true, laidLooks := .later }
def FnDefaultStopReplicaRequestUptoCardSaid : Prop := Claim7.holds Tryz.pinned (.plain (OpenSpec.upto fnDefaultStopReplicaRequestSpec)) fnDefaultStopReplicaRequestUptoCard

/-- THE SECOND FORM's CARD OF 'laws.FnDefaultBeginQuorumEpochRequest'. -/
def fnDefaultBeginQuorumEpochRequestUptoCard : Claim7 := { stood := { row := fnDefaultBeginQuorumEpochRequestUptoRow, standIns := [], harness := (true, "5f4d16a474fce8d8431efec0f294ecea4545ba3ea2bdeb99bf03cd0e62ad3b90"), looks := false }, kinds := [], alts := [], laidByText := true, laidKinds := [.sentinel], laidTests := true, laidLooks := .later }
def FnDefaultBeginQuorumEpochRequestUptoCardSaid : Prop := Claim7.holds Tryz.pinned (.plain (OpenSpec.upto fnDefaultBeginQuorumEpochRequestSpec)) fnDefaultBeginQuorumEpochRequestUptoCard

/-- THE SECOND FORM's CARD OF 'laws.FnDefaultCreateTopicsRequest'. -/
def fnDefaultCreateTopicsRequestUptoCard : Claim7 := { stood := { row := fnDefaultCreateTopicsRequestUptoRow, standIns := [], harness := (true, "5f4d16a474fce8d8431efec0f294ecea4545ba3ea2bdeb99bf03cd0e62ad3b90"), looks := false }, kinds := [], alts := [], laidByText := true, laidKinds := [.sentinel], laidTests := true, laidLooks := .later }
def FnDefaultCreateTopicsRequestUptoCardSaid : Prop := Claim7.holds Tryz.pinned (.plain (OpenSpec.upto fnDefaultCreateTopicsRequestSpec)) fnDefaultCreateTopicsRequestUptoCard

/-- THE SECOND FORM's CARD OF 'laws.FnDefaultShareFetchRequest'. -/
def fnDefaultShareFetchRequestUptoCard : Claim7 := { stood := { row := fnDefaultShareFetchRequestUptoRow, standIns := [], harness := (true, "5f4d16a474fce8d8431efec0f294ecea4545ba3ea2bdeb99bf03cd0e62ad3b90"), looks := false }, kinds := [], alts := [], laidByText := true, laidKinds := [.sentinel], laidTests := true, laidLooks := .later }
def FnDefaultShareFetchRequestUptoCardSaid : Prop := Claim7.holds Tryz.pinned (.plain (OpenSpec.upto fnDefaultShareFetchRequestSpec)) fnDefaultShareFetchRequestUptoCard
end Rows
end Go.Proofs.YtcknmmkgmlkhaaaGreatDoor
