/-
  DERIVED. GIVEN WITH THE SEED: THE CARDS: each row of YtieneknlekaonaaDoorRows.lean that lists a variable, with what it lists TIED to the program's text (the seventh form; the later family's looks); each row that meets fmt, with fmt's text TOLD by the authors' own Lean function (tested against real Go, not proved from fmt's source: count such statements apart). THE CARD IS WHAT COUNTS. Prove the row's statement (the work); the ties are given (YtieneknlekaonaaDoorTie.lean); close each card by the builder's one call (the guide's Derived/Test/ToyasCard.lean, 'card_holds'). Laid BY PROGRAM, IN A SANDBOX (cutbox-door.mjs). By AI agents, Wed Nov 11 2026. No macro, syntax, notation, axiom, sorry.
-/
import Derived.Test.YtieneknlekaonaaDoorRows
import GoSem.ClaimSeven
namespace Go.Proofs.YtieneknlekaonaaDoor
namespace Rows

/-- THE TIED CARD OF 'laws.FnUnsafeAlterClientQuotasResponse'. -/
def fnUnsafeAlterClientQuotasResponseCard : Claim7 := { stood := { row := fnUnsafeAlterClientQuotasResponseRow, standIns := [], harness := (true, "b6c32a2adf760e1f662a716f062875115922cac70eb76b58d23fbd76494a9af4"), looks := false }, kinds := [], alts := [], laidByText := true, laidKinds := [.sentinel], laidTests := true, laidLooks := .later }
def FnUnsafeAlterClientQuotasResponseCardSaid : Prop := Claim7.holds Tryd.pinned (.plain (OpenSpec.ofChange fnUnsafeAlterClientQuotasResponseSpec)) fnUnsafeAlterClientQuotasResponseCard

/-- THE TIED CARD OF 'laws.FnUnsafeDescribeACLsResponse'. -/
def fnUnsafeDescribeACLsResponseCard : Claim7 := { stood := { row := fnUnsafeDescribeACLsResponseRow, standIns := [], harness := (true, "b6c32a2adf760e1f662a716f062875115922cac70eb76b58d23fbd76494a9af4"), looks := false }, kinds := [], alts := [], laidByText := true, laidKinds := [.sentinel], laidTests := true, laidLooks := .later }
def FnUnsafeDescribeACLsResponseCardSaid : Prop := Claim7.holds Tryd.pinned (.plain (OpenSpec.ofChange fnUnsafeDescribeACLsResponseSpec)) fnUnsafeDescribeACLsResponseCard

/-- THE TIED CARD OF 'laws.FnUnsafeDescribeGroupsRequest'. -/
def fnUnsafeDescribeGroupsRequestCard : Claim7 := { stood := { row := fnUnsafeDescribeGroupsRequestRow, standIns := [], harness := (true, "b6c32a2adf760e1f662a716f062875115922cac70eb76b58d23fbd76494a9af4"), looks := false }, kinds := [], alts := [], laidByText := true, laidKinds := [.sentinel], laidTests := true, laidLooks := .later }
def FnUnsafeDescribeGroupsRequestCardSaid : Prop := Claim7.holds Tryd.pinned (.plain (OpenSpec.ofChange fnUnsafeDescribeGroupsRequestSpec)) fnUnsafeDescribeGroupsRequestCard

/-- THE TIED CARD OF 'laws.FnUnsafeDescribeLogDirsResponse'. -/
def fnUnsafeDescribeLogDirsResponseCard : Claim7 := { stood := { row := fnUnsafeDescribeLogDirsResponseRow, standIns := [], harness := (true, "b6c32a2adf760e1f662a716f062875115922cac70eb76b58d23fbd76494a9af4"), looks := false }, kinds := [], alts := [], laidByText := true, laidKinds := [.sentinel], laidTests := true, laidLooks := .later }
def FnUnsafeDescribeLogDirsResponseCardSaid : Prop := Claim7.holds Tryd.pinned (.plain (OpenSpec.ofChange fnUnsafeDescribeLogDirsResponseSpec)) fnUnsafeDescribeLogDirsResponseCard

/-- THE TIED CARD OF 'laws.FnUnsafeFindCoordinatorRequest'. -/
def fnUnsafeFindCoordinatorRequestCard : Claim7 := { stood := { row := fnUnsafeFindCoordinatorRequestRow, standIns := [], harness := (true, "b6c32a2adf760e1f662a716f062875115922cac70eb76b58d23fbd76494a9af4"), looks := false }, kinds := [], alts := [], laidByText := true, laidKinds := [.sentinel], laidTests := true, laidLooks := .later }
def FnUnsafeFindCoordinatorRequestCardSaid : Prop := Claim7.holds Tryd.pinned (.plain (OpenSpec.ofChange fnUnsafeFindCoordinatorRequestSpec)) fnUnsafeFindCoordinatorRequestCard

/-- THE TIED CARD OF 'laws.FnUnsafeGetTelemetrySubscriptionsResponse'. -/
def fnUnsafeGetTelemetrySubscriptionsResponseCard : Claim7 := { stood := { row := fnUnsafeGetTelemetrySubscriptionsResponseRow, standIns := [], harness := (true, "b6c32a2adf760e1f662a716f062875115922cac70eb76b58d23fbd76494a9af4"), looks := false }, kinds := [], alts := [], laidByText := true, laidKinds := [.sentinel], laidTests := true, laidLooks := .later }
def FnUnsafeGetTelemetrySubscriptionsResponseCardSaid : Prop := Claim7.holds Tryd.pinned (.plain (OpenSpec.ofChange fnUnsafeGetTelemetrySubscriptionsResponseSpec)) fnUnsafeGetTelemetrySubscriptionsResponseCard

/-- THE TIED CARD OF 'laws.FnUnsafeInitProducerIDResponse'. -/
def fnUnsafeInitProducerIDResponseCard : Claim7 := { stood := { row := fnUnsafeInitProducerIDResponseRow, standIns := [], harness := (true, "b6c32a2adf760e1f662a716f062875115922cac70eb76b58d23fbd76494a9af4"), looks := false }, kinds := [], alts := [], laidByText := true, laidKinds := [.sentinel], laidTests := true, laidLooks := .later }
def FnUnsafeInitProducerIDResponseCardSaid : Prop := Claim7.holds Tryd.pinned (.plain (OpenSpec.ofChange fnUnsafeInitProducerIDResponseSpec)) fnUnsafeInitProducerIDResponseCard

/-- THE TIED CARD OF 'laws.FnUnsafeJoinGroupRequest'. -/
def fnUnsafeJoinGroupRequestCard : Claim7 := { stood := { row := fnUnsafeJoinGroupRequestRow, standIns := [], harness := (true, "b6c32a2adf760e1f662a716f062875115922cac70eb76b58d23fbd76494a9af4"), looks := false }, kinds := [], alts := [], laidByText := true, laidKinds := [.sentinel], laidTests := true, laidLooks := .later }
def FnUnsafeJoinGroupRequestCardSaid : Prop := Claim7.holds Tryd.pinned (.plain (OpenSpec.ofChange fnUnsafeJoinGroupRequestSpec)) fnUnsafeJoinGroupRequestCard

/-- THE TIED CARD OF 'laws.FnUnsafeOffsetFetchResponse'. -/
def fnUnsafeOffsetFetchResponseCard : Claim7 := { stood := { row := fnUnsafeOffsetFetchResponseRow, standIns := [], harness := (true, "b6c32a2adf760e1f662a716f062875115922cac70eb76b58d23fbd76494a9af4"), looks := false }, kinds := [], alts := [], laidByText := true, laidKinds := [.sentinel], laidTests := true, laidLooks := .later }
def FnUnsafeOffsetFetchResponseCardSaid : Prop := Claim7.holds Tryd.pinned (.plain (OpenSpec.ofChange fnUnsafeOffsetFetchResponseSpec)) fnUnsafeOffsetFetchResponseCard

/-- THE TIED CARD OF 'laws.FnUnsafeProduceRequest'. -/
def fnUnsafeProduceRequestCard : Claim7 := { stood := { row := fnUnsafeProduceRequestRow, standIns := [], harness := (true, "b6c32a2adf760e1f662a716f062875115922cac70eb76b58d23fbd76494a9af4"), looks := false }, kinds := [], alts := [], laidByText := true, laidKinds := [.sentinel], laidTests := true, laidLooks := .later }
def FnUnsafeProduceRequestCardSaid : Prop := Claim7.holds Tryd.pinned (.plain (OpenSpec.ofChange fnUnsafeProduceRequestSpec)) fnUnsafeProduceRequestCard

/-- THE TIED CARD OF 'laws.FnUnsafeReadShareGroupStateSummaryRequest'. -/
def fnUnsafeReadShareGroupStateSummaryRequestCard : Claim7 := { stood := { row := fnUnsafeReadShareGroupStateSummaryRequestRow, standIns := [], harness := (true, "b6c32a2adf760e1f662a716f062875115922cac70eb76b58d23fbd76494a9af4"), looks := false }, kinds := [], alts := [], laidByText := true, laidKinds := [.sentinel], laidTests := true, laidLooks := .later }
def FnUnsafeReadShareGroupStateSummaryRequestCardSaid : Prop := Claim7.holds Tryd.pinned (.plain (OpenSpec.ofChange fnUnsafeReadShareGroupStateSummaryRequestSpec)) fnUnsafeReadShareGroupStateSummaryRequestCard

/-- THE TIED CARD OF 'laws.FnUnsafeRemoveRaftVoterResponse'. -/
def fnUnsafeRemoveRaftVoterResponseCard : Claim7 := { stood := { row := fnUnsafeRemoveRaftVoterResponseRow, standIns := [], harness := (true, "b6c32a2adf760e1f662a716f062875115922cac70eb76b58d23fbd76494a9af4"), looks := false }, kinds := [], alts := [], laidByText := true, laidKinds := [.sentinel], laidTests := true, laidLooks := .later }
def FnUnsafeRemoveRaftVoterResponseCardSaid : Prop := Claim7.holds Tryd.pinned (.plain (OpenSpec.ofChange fnUnsafeRemoveRaftVoterResponseSpec)) fnUnsafeRemoveRaftVoterResponseCard

/-- THE SECOND FORM's CARD OF 'laws.FnUnsafeAlterClientQuotasResponse'. -/
def fnUnsafeAlterClientQuotasResponseUptoCard : Claim7 := { stood := { row := fnUnsafeAlterClientQuotasResponseUptoRow, standIns := [], harness := (true, "b6c32a2adf760e1f662a716f062875115922cac70eb76b58d23fbd76494a9af4"), looks := false }, kinds := [], alts := [], laidByText := true, laidKinds := [.sentinel], laidTests := true, laidLooks := .later }
def FnUnsafeAlterClientQuotasResponseUptoCardSaid : Prop := Claim7.holds Tryd.pinned (.plain (OpenSpec.upto fnUnsafeAlterClientQuotasResponseSpec)) fnUnsafeAlterClientQuotasResponseUptoCard

/-- THE SECOND FORM's CARD OF 'laws.FnUnsafeDescribeACLsResponse'. -/
def fnUnsafeDescribeACLsResponseUptoCard : Claim7 := { stood := { row := fnUnsafeDescribeACLsResponseUptoRow, standIns := [], harness := (true, "b6c32a2adf760e1f662a716f062875115922cac70eb76b58d23fbd76494a9af4"), looks := false }, kinds := [], alts := [], laidByText := true, laidKinds := [.sentinel], laidTests := true, laidLooks := .later }
def FnUnsafeDescribeACLsResponseUptoCardSaid : Prop := Claim7.holds Tryd.pinned (.plain (OpenSpec.upto fnUnsafeDescribeACLsResponseSpec)) fnUnsafeDescribeACLsResponseUptoCard

/-- THE SECOND FORM's CARD OF 'laws.FnUnsafeDescribeGroupsRequest'. -/
def fnUnsafeDescribeGroupsRequestUptoCard : Claim7 := { stood := { row := fnUnsafeDescribeGroupsRequestUptoRow, standIns := [], harness := (true, "b6c32a2adf760e1f662a716f062875115922cac70eb76b58d23fbd76494a9af4"), looks := false }, kinds := [], alts := [], laidByText := true, laidKinds := [.sentinel], laidTests := true, laidLooks := .later }
def FnUnsafeDescribeGroupsRequestUptoCardSaid : Prop := Claim7.holds Tryd.pinned (.plain (OpenSpec.upto fnUnsafeDescribeGroupsRequestSpec)) fnUnsafeDescribeGroupsRequestUptoCard

/-- THE SECOND FORM's CARD OF 'laws.FnUnsafeDescribeLogDirsResponse'. -/
def fnUnsafeDescribeLogDirsResponseUptoCard : Claim7 := { stood := { row := fnUnsafeDescribeLogDirsResponseUptoRow, standIns := [], harness := (true, "b6c32a2adf760e1f662a716f062875115922cac70eb76b58d23fbd76494a9af4"), looks := false }, kinds := [], alts := [], laidByText := true, laidKinds := [.sentinel], laidTests := true, laidLooks := .later }
def FnUnsafeDescribeLogDirsResponseUptoCardSaid : Prop := Claim7.holds Tryd.pinned (.plain (OpenSpec.upto fnUnsafeDescribeLogDirsResponseSpec)) fnUnsafeDescribeLogDirsResponseUptoCard

/-- THE SECOND FORM's CARD OF 'laws.FnUnsafeFindCoordinatorRequest'. -/
def fnUnsafeFindCoordinatorRequestUptoCard : Claim7 := { stood := { row := fnUnsafeFindCoordinatorRequestUptoRow, standIns := [], harness := (true, "b6c32a2adf760e1f662a716f062875115922cac70eb76b58d23fbd76494a9af4"), looks := false }, kinds := [], alts := [], laidByText := true, laidKinds := [.sentinel], laidTests := true, laidLooks := .later }
def FnUnsafeFindCoordinatorRequestUptoCardSaid : Prop := Claim7.holds Tryd.pinned (.plain (OpenSpec.upto fnUnsafeFindCoordinatorRequestSpec)) fnUnsafeFindCoordinatorRequestUptoCard

/-- THE SECOND FORM's CARD OF 'laws.FnUnsafeGetTelemetrySubscriptionsResponse'. -/
def fnUnsafeGetTelemetrySubscriptionsResponseUptoCard : Claim7 := { stood := { row := fnUnsafeGetTelemetrySubscriptionsResponseUptoRow, standIns := [], harness := (true, "b6c32a2adf760e1f662a716f062875115922cac70eb76b58d23fbd76494a9af4"), looks := false }, kinds := [], alts := [], laidByText := true, laidKinds := [.sentinel], laidTests := true, laidLooks := .later }
def FnUnsafeGetTelemetrySubscriptionsResponseUptoCardSaid : Prop := Claim7.holds Tryd.pinned (.plain (OpenSpec.upto fnUnsafeGetTelemetrySubscriptionsResponseSpec)) fnUnsafeGetTelemetrySubscriptionsResponseUptoCard

/-- THE SECOND FORM's CARD OF 'laws.FnUnsafeInitProducerIDResponse'. -/
def fnUnsafeInitProducerIDResponseUptoCard : Claim7 := { stood := { row := fnUnsafeInitProducerIDResponseUptoRow, standIns := [], harness := (true, "b6c32a2adf760e1f662a716f062875115922cac70eb76b58d23fbd76494a9af4"), looks := false }, kinds := [], alts := [], laidByText := true, laidKinds := [.sentinel], laidTests := true, laidLooks := .later }
def FnUnsafeInitProducerIDResponseUptoCardSaid : Prop := Claim7.holds Tryd.pinned (.plain (OpenSpec.upto fnUnsafeInitProducerIDResponseSpec)) fnUnsafeInitProducerIDResponseUptoCard

/-- THE SECOND FORM's CARD OF 'laws.FnUnsafeJoinGroupRequest'. -/
def fnUnsafeJoinGroupRequestUptoCard : Claim7 := { stood := { row := fnUnsafeJoinGroupRequestUptoRow, standIns := [], harness := (true, "b6c32a2adf760e1f662a716f062875115922cac70eb76b58d23fbd76494a9af4"), looks := false }, kinds := [], alts := [], laidByText := true, laidKinds := [.sentinel], laidTests := true, laidLooks := .later }
def FnUnsafeJoinGroupRequestUptoCardSaid : Prop := Claim7.holds Tryd.pinned (.plain (OpenSpec.upto fnUnsafeJoinGroupRequestSpec)) fnUnsafeJoinGroupRequestUptoCard

/-- THE SECOND FORM's CARD OF 'laws.FnUnsafeOffsetFetchResponse'. -/
def fnUnsafeOffsetFetchResponseUptoCard : Claim7 := { stood := { row := fnUnsafeOffsetFetchResponseUptoRow, standIns := [], harness := (true, "b6c32a2adf760e1f662a716f062875115922cac70eb76b58d23fbd76494a9af4"), looks := false }, kinds := [], alts := [], laidByText := true, laidKinds := [.sentinel], laidTests := true, laidLooks := .later }
def FnUnsafeOffsetFetchResponseUptoCardSaid : Prop := Claim7.holds Tryd.pinned (.plain (OpenSpec.upto fnUnsafeOffsetFetchResponseSpec)) fnUnsafeOffsetFetchResponseUptoCard

/-- THE SECOND FORM's CARD OF 'laws.FnUnsafeProduceRequest'. -/
def fnUnsafeProduceRequestUptoCard : Claim7 := { stood := { row := fnUnsafeProduceRequestUptoRow, standIns := [], harness := (true, "b6c32a2adf760e1f662a716f062875115922cac70eb76b58d23fbd76494a9af4"), looks := false }, kinds := [], alts := [], laidByText := true, laidKinds := [.sentinel], laidTests := true, laidLooks := .later }
def FnUnsafeProduceRequestUptoCardSaid : Prop := Claim7.holds Tryd.pinned (.plain (OpenSpec.upto fnUnsafeProduceRequestSpec)) fnUnsafeProduceRequestUptoCard

/-- THE SECOND FORM's CARD OF 'laws.FnUnsafeReadShareGroupStateSummaryRequest'. -/
def fnUnsafeReadShareGroupStateSummaryRequestUptoCard : Claim7 := { stood := { row := fnUnsafeReadShareGroupStateSummaryRequestUptoRow, standIns := [], harness := (true, "b6c32a2adf760e1f662a716f062875115922cac70eb76b58d23fbd76494a9af4"), looks := false }, kinds := [], alts := [], laidByText := true, laidKinds := [.sentinel], laidTests := true, laidLooks := .later }
def FnUnsafeReadShareGroupStateSummaryRequestUptoCardSaid : Prop := Claim7.holds Tryd.pinned (.plain (OpenSpec.upto fnUnsafeReadShareGroupStateSummaryRequestSpec)) fnUnsafeReadShareGroupStateSummaryRequestUptoCard

/-- THE SECOND FORM's CARD OF 'laws.FnUnsafeRemoveRaftVoterResponse'. -/
def fnUnsafeRemoveRaftVoterResponseUptoCard : Claim7 := { stood := { row := fnUnsafeRemoveRaftVoterResponseUptoRow, standIns := [], harness := (true, "b6c32a2adf760e1f662a716f062875115922cac70eb76b58d23fbd76494a9af4"), looks := false }, kinds := [], alts := [], laidByText := true, laidKinds := [.sentinel], laidTests := true, laidLooks := .later }
def FnUnsafeRemoveRaftVoterResponseUptoCardSaid : Prop := Claim7.holds Tryd.pinned (.plain (OpenSpec.upto fnUnsafeRemoveRaftVoterResponseSpec)) fnUnsafeRemoveRaftVoterResponseUptoCard
end Rows
end Go.Proofs.YtieneknlekaonaaDoor
