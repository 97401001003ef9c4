/-
  NARROWER THAN 'FOR EVERY INPUT', by the rows' own cells (each row's printed sentence says how): FnUnsafeAlterClientQuotasResponse: laid · FnUnsafeDescribeACLsResponse: laid · FnUnsafeDescribeGroupsRequest: laid · FnUnsafeDescribeLogDirsResponse: laid · FnUnsafeFindCoordinatorRequest: laid · FnUnsafeGetTelemetrySubscriptionsResponse: laid · FnUnsafeInitProducerIDResponse: laid · FnUnsafeJoinGroupRequest: laid · FnUnsafeOffsetFetchResponse: laid · FnUnsafeProduceRequest: laid · FnUnsafeReadShareGroupStateSummaryRequest: laid · FnUnsafeRemoveRaftVoterResponse: laid.
  DERIVED. THE GIVEN ROWS OF THIS SEAT. 12 by the template 'for every input the law returns true; each argument reads behind the call as it read before'; 0 by the template 'total and deterministic' (their statements: YtieneknlekaonaaDoorTotals.lean).
  GIVEN WITH THE SEED: the statements are not yours to turn. If you find one false, say at which input.
  Laid BY PROGRAM, IN A SANDBOX (cutbox-rows.mjs): the forced cells as the released guide's own fill.sh prints them over the translation c037cb079e31e76b… (all of the seat's roots in one cut). By AI agents, Wed Nov 11 2026. No macro, syntax, notation, axiom, sorry.
-/
import Derived.Test.YtieneknlekaonaaDoorChecked
import GoSem.Claim
import GoSem.ClaimJoined
import GoSem.ClaimMapViews
import Derived.JoinedTies
import Derived.KernelRfl
namespace Go.Proofs.YtieneknlekaonaaDoor
/- THE CELL 'sum', in the pinned program and in every row, IS THE sha256 OF THE DUMP (.gsa) THAT YtieneknlekaonaaDoorProg.lean LOADS. Nothing in Lean hashes anything: it is a label: what it is worth is what the hold of that sum in a sandbox is worth. -/
noncomputable def Tryd.pinned : Pinned := { name := "ytieneknlekaonaadoor", sum := "c037cb079e31e76b6056ce1ed47decb2e6dcd53ed18fe757b98492ee326b9d97", checked := Tryd.checked }
namespace Rows
def none {H : Type} : Left H := { results := [], args := [] }

/- WHAT THE LISTED PACKAGE-LEVEL VARIABLES READ AS WHEN THE CALL BEGINS. Each datum BY PROGRAM (the guide's laid-datum.mjs) off the statement by which the dump's own 'gosem.cut.vars' lays the variable. In a bare row this is a premise. The card (YtieneknlekaonaaDoorCards.lean) ties it to the program's text. -/
def laid_pub_mailsack_pub_kmsg_inner_kbin_ErrNotEnoughData {H : Type} : DataW H := .iface "*errors.errorString" (.ptr (.agg [.lit (.string [114, 101, 115, 112, 111, 110, 115, 101, 32, 100, 105, 100, 32, 110, 111, 116, 32, 99, 111, 110, 116, 97, 105, 110, 32, 101, 110, 111, 117, 103, 104, 32, 100, 97, 116, 97, 32, 116, 111, 32, 98, 101, 32, 118, 97, 108, 105, 100])]))

/-- 'laws.FnUnsafeAlterClientQuotasResponse': WHATEVER THE INPUT: true; the input reads as it did. -/
def fnUnsafeAlterClientQuotasResponseSpec : ChangeSpec := { name := "fnUnsafeAlterClientQuotasResponse", fn := fun _ => fun
  | [d1, d2] => { results := [.lit (.bool true)], args := [d1, d2] }
  | _ => none }
def fnUnsafeAlterClientQuotasResponseRow : OpenClaim := { program := "ytieneknlekaonaadoor", sum := "c037cb079e31e76b6056ce1ed47decb2e6dcd53ed18fe757b98492ee326b9d97", func := "pub-mailsack/laws.FnUnsafeAlterClientQuotasResponse", spec := "fnUnsafeAlterClientQuotasResponse", inPlace := ["internal/reflectlite.ValueOf", "internal/reflectlite.Swapper", "(internal/reflectlite.Value).Len"], unfollowed := true, recurses := true, named := ["encoding/binary.BigEndian", "pub-mailsack/pub/kmsg/inner/kbin.ErrNotEnoughData"], apart := false, laid := [("pub-mailsack/pub/kmsg/inner/kbin.ErrNotEnoughData", laid_pub_mailsack_pub_kmsg_inner_kbin_ErrNotEnoughData)] }
def FnUnsafeAlterClientQuotasResponseSaid : Prop := fnUnsafeAlterClientQuotasResponseRow.holds Tryd.pinned (OpenSpec.ofChange fnUnsafeAlterClientQuotasResponseSpec)

/-- ITS FALSE NEIGHBOUR: 'it returns false'. Refute it at one input. -/
def fnUnsafeAlterClientQuotasResponseWrong : ChangeSpec := { name := "fnUnsafeAlterClientQuotasResponse", fn := fun _ => fun
  | [d1, d2] => { results := [.lit (.bool false)], args := [d1, d2] }
  | _ => none }
def FnUnsafeAlterClientQuotasResponseWrongFalsely : Prop := fnUnsafeAlterClientQuotasResponseRow.holds Tryd.pinned (OpenSpec.ofChange fnUnsafeAlterClientQuotasResponseWrong)

/-- 'laws.FnUnsafeDescribeACLsResponse': WHATEVER THE INPUT: true; the input reads as it did. -/
def fnUnsafeDescribeACLsResponseSpec : ChangeSpec := { name := "fnUnsafeDescribeACLsResponse", fn := fun _ => fun
  | [d1, d2] => { results := [.lit (.bool true)], args := [d1, d2] }
  | _ => none }
def fnUnsafeDescribeACLsResponseRow : OpenClaim := { program := "ytieneknlekaonaadoor", sum := "c037cb079e31e76b6056ce1ed47decb2e6dcd53ed18fe757b98492ee326b9d97", func := "pub-mailsack/laws.FnUnsafeDescribeACLsResponse", spec := "fnUnsafeDescribeACLsResponse", inPlace := ["internal/reflectlite.ValueOf", "internal/reflectlite.Swapper", "(internal/reflectlite.Value).Len"], unfollowed := true, recurses := true, named := ["encoding/binary.BigEndian", "pub-mailsack/pub/kmsg/inner/kbin.ErrNotEnoughData"], apart := false, laid := [("pub-mailsack/pub/kmsg/inner/kbin.ErrNotEnoughData", laid_pub_mailsack_pub_kmsg_inner_kbin_ErrNotEnoughData)] }
def FnUnsafeDescribeACLsResponseSaid : Prop := fnUnsafeDescribeACLsResponseRow.holds Tryd.pinned (OpenSpec.ofChange fnUnsafeDescribeACLsResponseSpec)

/-- ITS FALSE NEIGHBOUR: 'it returns false'. Refute it at one input. -/
def fnUnsafeDescribeACLsResponseWrong : ChangeSpec := { name := "fnUnsafeDescribeACLsResponse", fn := fun _ => fun
  | [d1, d2] => { results := [.lit (.bool false)], args := [d1, d2] }
  | _ => none }
def FnUnsafeDescribeACLsResponseWrongFalsely : Prop := fnUnsafeDescribeACLsResponseRow.holds Tryd.pinned (OpenSpec.ofChange fnUnsafeDescribeACLsResponseWrong)

/-- 'laws.FnUnsafeDescribeGroupsRequest': WHATEVER THE INPUT: true; the input reads as it did. -/
def fnUnsafeDescribeGroupsRequestSpec : ChangeSpec := { name := "fnUnsafeDescribeGroupsRequest", fn := fun _ => fun
  | [d1, d2] => { results := [.lit (.bool true)], args := [d1, d2] }
  | _ => none }
def fnUnsafeDescribeGroupsRequestRow : OpenClaim := { program := "ytieneknlekaonaadoor", sum := "c037cb079e31e76b6056ce1ed47decb2e6dcd53ed18fe757b98492ee326b9d97", func := "pub-mailsack/laws.FnUnsafeDescribeGroupsRequest", spec := "fnUnsafeDescribeGroupsRequest", inPlace := ["internal/reflectlite.ValueOf", "internal/reflectlite.Swapper", "(internal/reflectlite.Value).Len"], unfollowed := true, recurses := true, named := ["encoding/binary.BigEndian", "pub-mailsack/pub/kmsg/inner/kbin.ErrNotEnoughData"], apart := false, laid := [("pub-mailsack/pub/kmsg/inner/kbin.ErrNotEnoughData", laid_pub_mailsack_pub_kmsg_inner_kbin_ErrNotEnoughData)] }
def FnUnsafeDescribeGroupsRequestSaid : Prop := fnUnsafeDescribeGroupsRequestRow.holds Tryd.pinned (OpenSpec.ofChange fnUnsafeDescribeGroupsRequestSpec)

/-- ITS FALSE NEIGHBOUR: 'it returns false'. Refute it at one input. -/
def fnUnsafeDescribeGroupsRequestWrong : ChangeSpec := { name := "fnUnsafeDescribeGroupsRequest", fn := fun _ => fun
  | [d1, d2] => { results := [.lit (.bool false)], args := [d1, d2] }
  | _ => none }
def FnUnsafeDescribeGroupsRequestWrongFalsely : Prop := fnUnsafeDescribeGroupsRequestRow.holds Tryd.pinned (OpenSpec.ofChange fnUnsafeDescribeGroupsRequestWrong)

/-- 'laws.FnUnsafeDescribeLogDirsResponse': WHATEVER THE INPUT: true; the input reads as it did. -/
def fnUnsafeDescribeLogDirsResponseSpec : ChangeSpec := { name := "fnUnsafeDescribeLogDirsResponse", fn := fun _ => fun
  | [d1, d2] => { results := [.lit (.bool true)], args := [d1, d2] }
  | _ => none }
def fnUnsafeDescribeLogDirsResponseRow : OpenClaim := { program := "ytieneknlekaonaadoor", sum := "c037cb079e31e76b6056ce1ed47decb2e6dcd53ed18fe757b98492ee326b9d97", func := "pub-mailsack/laws.FnUnsafeDescribeLogDirsResponse", spec := "fnUnsafeDescribeLogDirsResponse", inPlace := ["internal/reflectlite.ValueOf", "internal/reflectlite.Swapper", "(internal/reflectlite.Value).Len"], unfollowed := true, recurses := true, named := ["encoding/binary.BigEndian", "pub-mailsack/pub/kmsg/inner/kbin.ErrNotEnoughData"], apart := false, laid := [("pub-mailsack/pub/kmsg/inner/kbin.ErrNotEnoughData", laid_pub_mailsack_pub_kmsg_inner_kbin_ErrNotEnoughData)] }
def FnUnsafeDescribeLogDirsResponseSaid : Prop := fnUnsafeDescribeLogDirsResponseRow.holds Tryd.pinned (OpenSpec.ofChange fnUnsafeDescribeLogDirsResponseSpec)

/-- ITS FALSE NEIGHBOUR: 'it returns false'. Refute it at one input. -/
def fnUnsafeDescribeLogDirsResponseWrong : ChangeSpec := { name := "fnUnsafeDescribeLogDirsResponse", fn := fun _ => fun
  | [d1, d2] => { results := [.lit (.bool false)], args := [d1, d2] }
  | _ => none }
def FnUnsafeDescribeLogDirsResponseWrongFalsely : Prop := fnUnsafeDescribeLogDirsResponseRow.holds Tryd.pinned (OpenSpec.ofChange fnUnsafeDescribeLogDirsResponseWrong)

/-- 'laws.FnUnsafeFindCoordinatorRequest': WHATEVER THE INPUT: true; the input reads as it did. -/
def fnUnsafeFindCoordinatorRequestSpec : ChangeSpec := { name := "fnUnsafeFindCoordinatorRequest", fn := fun _ => fun
  | [d1, d2] => { results := [.lit (.bool true)], args := [d1, d2] }
  | _ => none }
def fnUnsafeFindCoordinatorRequestRow : OpenClaim := { program := "ytieneknlekaonaadoor", sum := "c037cb079e31e76b6056ce1ed47decb2e6dcd53ed18fe757b98492ee326b9d97", func := "pub-mailsack/laws.FnUnsafeFindCoordinatorRequest", spec := "fnUnsafeFindCoordinatorRequest", inPlace := ["internal/reflectlite.ValueOf", "internal/reflectlite.Swapper", "(internal/reflectlite.Value).Len"], unfollowed := true, recurses := true, named := ["encoding/binary.BigEndian", "pub-mailsack/pub/kmsg/inner/kbin.ErrNotEnoughData"], apart := false, laid := [("pub-mailsack/pub/kmsg/inner/kbin.ErrNotEnoughData", laid_pub_mailsack_pub_kmsg_inner_kbin_ErrNotEnoughData)] }
def FnUnsafeFindCoordinatorRequestSaid : Prop := fnUnsafeFindCoordinatorRequestRow.holds Tryd.pinned (OpenSpec.ofChange fnUnsafeFindCoordinatorRequestSpec)

/-- ITS FALSE NEIGHBOUR: 'it returns false'. Refute it at one input. -/
def fnUnsafeFindCoordinatorRequestWrong : ChangeSpec := { name := "fnUnsafeFindCoordinatorRequest", fn := fun _ => fun
  | [d1, d2] => { results := [.lit (.bool false)], args := [d1, d2] }
  | _ => none }
def FnUnsafeFindCoordinatorRequestWrongFalsely : Prop := fnUnsafeFindCoordinatorRequestRow.holds Tryd.pinned (OpenSpec.ofChange fnUnsafeFindCoordinatorRequestWrong)

/-- 'laws.FnUnsafeGetTelemetrySubscriptionsResponse': WHATEVER THE INPUT: true; the input reads as it did. -/
def fnUnsafeGetTelemetrySubscriptionsResponseSpec : ChangeSpec := { name := "fnUnsafeGetTelemetrySubscriptionsResponse", fn := fun _ => fun
  | [d1, d2] => { results := [.lit (.bool true)], args := [d1, d2] }
  | _ => none }
def fnUnsafeGetTelemetrySubscriptionsResponseRow : OpenClaim := { program := "ytieneknlekaonaadoor", sum := "c037cb079e31e76b6056ce1ed47decb2e6dcd53ed18fe757b98492ee326b9d97", func := "pub-mailsack/laws.FnUnsafeGetTelemetrySubscriptionsResponse", spec := "fnUnsafeGetTelemetrySubscriptionsResponse", inPlace := ["internal/reflectlite.ValueOf", "internal/reflectlite.Swapper", "(internal/reflectlite.Value).Len"], unfollowed := true, recurses := true, named := ["encoding/binary.BigEndian", "pub-mailsack/pub/kmsg/inner/kbin.ErrNotEnoughData"], apart := false, laid := [("pub-mailsack/pub/kmsg/inner/kbin.ErrNotEnoughData", laid_pub_mailsack_pub_kmsg_inner_kbin_ErrNotEnoughData)] }
def FnUnsafeGetTelemetrySubscriptionsResponseSaid : Prop := fnUnsafeGetTelemetrySubscriptionsResponseRow.holds Tryd.pinned (OpenSpec.ofChange fnUnsafeGetTelemetrySubscriptionsResponseSpec)

/-- ITS FALSE NEIGHBOUR: 'it returns false'. Refute it at one input. -/
def fnUnsafeGetTelemetrySubscriptionsResponseWrong : ChangeSpec := { name := "fnUnsafeGetTelemetrySubscriptionsResponse", fn := fun _ => fun
  | [d1, d2] => { results := [.lit (.bool false)], args := [d1, d2] }
  | _ => none }
def FnUnsafeGetTelemetrySubscriptionsResponseWrongFalsely : Prop := fnUnsafeGetTelemetrySubscriptionsResponseRow.holds Tryd.pinned (OpenSpec.ofChange fnUnsafeGetTelemetrySubscriptionsResponseWrong)

/-- 'laws.FnUnsafeInitProducerIDResponse': WHATEVER THE INPUT: true; the input reads as it did. -/
def fnUnsafeInitProducerIDResponseSpec : ChangeSpec := { name := "fnUnsafeInitProducerIDResponse", fn := fun _ => fun
  | [d1, d2] => { results := [.lit (.bool true)], args := [d1, d2] }
  | _ => none }
def fnUnsafeInitProducerIDResponseRow : OpenClaim := { program := "ytieneknlekaonaadoor", sum := "c037cb079e31e76b6056ce1ed47decb2e6dcd53ed18fe757b98492ee326b9d97", func := "pub-mailsack/laws.FnUnsafeInitProducerIDResponse", spec := "fnUnsafeInitProducerIDResponse", inPlace := ["internal/reflectlite.ValueOf", "internal/reflectlite.Swapper", "(internal/reflectlite.Value).Len"], unfollowed := true, recurses := true, named := ["encoding/binary.BigEndian", "pub-mailsack/pub/kmsg/inner/kbin.ErrNotEnoughData"], apart := false, laid := [("pub-mailsack/pub/kmsg/inner/kbin.ErrNotEnoughData", laid_pub_mailsack_pub_kmsg_inner_kbin_ErrNotEnoughData)] }
def FnUnsafeInitProducerIDResponseSaid : Prop := fnUnsafeInitProducerIDResponseRow.holds Tryd.pinned (OpenSpec.ofChange fnUnsafeInitProducerIDResponseSpec)

/-- ITS FALSE NEIGHBOUR: 'it returns false'. Refute it at one input. -/
def fnUnsafeInitProducerIDResponseWrong : ChangeSpec := { name := "fnUnsafeInitProducerIDResponse", fn := fun _ => fun
  | [d1, d2] => { results := [.lit (.bool false)], args := [d1, d2] }
  | _ => none }
def FnUnsafeInitProducerIDResponseWrongFalsely : Prop := fnUnsafeInitProducerIDResponseRow.holds Tryd.pinned (OpenSpec.ofChange fnUnsafeInitProducerIDResponseWrong)

/-- 'laws.FnUnsafeJoinGroupRequest': WHATEVER THE INPUT: true; the input reads as it did. -/
def fnUnsafeJoinGroupRequestSpec : ChangeSpec := { name := "fnUnsafeJoinGroupRequest", fn := fun _ => fun
  | [d1, d2] => { results := [.lit (.bool true)], args := [d1, d2] }
  | _ => none }
def fnUnsafeJoinGroupRequestRow : OpenClaim := { program := "ytieneknlekaonaadoor", sum := "c037cb079e31e76b6056ce1ed47decb2e6dcd53ed18fe757b98492ee326b9d97", func := "pub-mailsack/laws.FnUnsafeJoinGroupRequest", spec := "fnUnsafeJoinGroupRequest", inPlace := ["internal/reflectlite.ValueOf", "internal/reflectlite.Swapper", "(internal/reflectlite.Value).Len"], unfollowed := true, recurses := true, named := ["encoding/binary.BigEndian", "pub-mailsack/pub/kmsg/inner/kbin.ErrNotEnoughData"], apart := false, laid := [("pub-mailsack/pub/kmsg/inner/kbin.ErrNotEnoughData", laid_pub_mailsack_pub_kmsg_inner_kbin_ErrNotEnoughData)] }
def FnUnsafeJoinGroupRequestSaid : Prop := fnUnsafeJoinGroupRequestRow.holds Tryd.pinned (OpenSpec.ofChange fnUnsafeJoinGroupRequestSpec)

/-- ITS FALSE NEIGHBOUR: 'it returns false'. Refute it at one input. -/
def fnUnsafeJoinGroupRequestWrong : ChangeSpec := { name := "fnUnsafeJoinGroupRequest", fn := fun _ => fun
  | [d1, d2] => { results := [.lit (.bool false)], args := [d1, d2] }
  | _ => none }
def FnUnsafeJoinGroupRequestWrongFalsely : Prop := fnUnsafeJoinGroupRequestRow.holds Tryd.pinned (OpenSpec.ofChange fnUnsafeJoinGroupRequestWrong)

/-- 'laws.FnUnsafeOffsetFetchResponse': WHATEVER THE INPUT: true; the input reads as it did. -/
def fnUnsafeOffsetFetchResponseSpec : ChangeSpec := { name := "fnUnsafeOffsetFetchResponse", fn := fun _ => fun
  | [d1, d2] => { results := [.lit (.bool true)], args := [d1, d2] }
  | _ => none }
def fnUnsafeOffsetFetchResponseRow : OpenClaim := { program := "ytieneknlekaonaadoor", sum := "c037cb079e31e76b6056ce1ed47decb2e6dcd53ed18fe757b98492ee326b9d97", func := "pub-mailsack/laws.FnUnsafeOffsetFetchResponse", spec := "fnUnsafeOffsetFetchResponse", inPlace := ["internal/reflectlite.ValueOf", "internal/reflectlite.Swapper", "(internal/reflectlite.Value).Len"], unfollowed := true, recurses := true, named := ["encoding/binary.BigEndian", "pub-mailsack/pub/kmsg/inner/kbin.ErrNotEnoughData"], apart := false, laid := [("pub-mailsack/pub/kmsg/inner/kbin.ErrNotEnoughData", laid_pub_mailsack_pub_kmsg_inner_kbin_ErrNotEnoughData)] }
def FnUnsafeOffsetFetchResponseSaid : Prop := fnUnsafeOffsetFetchResponseRow.holds Tryd.pinned (OpenSpec.ofChange fnUnsafeOffsetFetchResponseSpec)

/-- ITS FALSE NEIGHBOUR: 'it returns false'. Refute it at one input. -/
def fnUnsafeOffsetFetchResponseWrong : ChangeSpec := { name := "fnUnsafeOffsetFetchResponse", fn := fun _ => fun
  | [d1, d2] => { results := [.lit (.bool false)], args := [d1, d2] }
  | _ => none }
def FnUnsafeOffsetFetchResponseWrongFalsely : Prop := fnUnsafeOffsetFetchResponseRow.holds Tryd.pinned (OpenSpec.ofChange fnUnsafeOffsetFetchResponseWrong)

/-- 'laws.FnUnsafeProduceRequest': WHATEVER THE INPUT: true; the input reads as it did. -/
def fnUnsafeProduceRequestSpec : ChangeSpec := { name := "fnUnsafeProduceRequest", fn := fun _ => fun
  | [d1, d2] => { results := [.lit (.bool true)], args := [d1, d2] }
  | _ => none }
def fnUnsafeProduceRequestRow : OpenClaim := { program := "ytieneknlekaonaadoor", sum := "c037cb079e31e76b6056ce1ed47decb2e6dcd53ed18fe757b98492ee326b9d97", func := "pub-mailsack/laws.FnUnsafeProduceRequest", spec := "fnUnsafeProduceRequest", inPlace := ["internal/reflectlite.ValueOf", "internal/reflectlite.Swapper", "(internal/reflectlite.Value).Len"], unfollowed := true, recurses := true, named := ["encoding/binary.BigEndian", "pub-mailsack/pub/kmsg/inner/kbin.ErrNotEnoughData"], apart := false, laid := [("pub-mailsack/pub/kmsg/inner/kbin.ErrNotEnoughData", laid_pub_mailsack_pub_kmsg_inner_kbin_ErrNotEnoughData)] }
def FnUnsafeProduceRequestSaid : Prop := fnUnsafeProduceRequestRow.holds Tryd.pinned (OpenSpec.ofChange fnUnsafeProduceRequestSpec)

/-- ITS FALSE NEIGHBOUR: 'it returns false'. Refute it at one input. -/
def fnUnsafeProduceRequestWrong : ChangeSpec := { name := "fnUnsafeProduceRequest", fn := fun _ => fun
  | [d1, d2] => { results := [.lit (.bool false)], args := [d1, d2] }
  | _ => none }
def FnUnsafeProduceRequestWrongFalsely : Prop := fnUnsafeProduceRequestRow.holds Tryd.pinned (OpenSpec.ofChange fnUnsafeProduceRequestWrong)

/-- 'laws.FnUnsafeReadShareGroupStateSummaryRequest': WHATEVER THE INPUT: true; the input reads as it did. -/
def fnUnsafeReadShareGroupStateSummaryRequestSpec : ChangeSpec := { name := "fnUnsafeReadShareGroupStateSummaryRequest", fn := fun _ => fun
  | [d1, d2] => { results := [.lit (.bool true)], args := [d1, d2] }
  | _ => none }
def fnUnsafeReadShareGroupStateSummaryRequestRow : OpenClaim := { program := "ytieneknlekaonaadoor", sum := "c037cb079e31e76b6056ce1ed47decb2e6dcd53ed18fe757b98492ee326b9d97", func := "pub-mailsack/laws.FnUnsafeReadShareGroupStateSummaryRequest", spec := "fnUnsafeReadShareGroupStateSummaryRequest", inPlace := ["internal/reflectlite.ValueOf", "internal/reflectlite.Swapper", "(internal/reflectlite.Value).Len"], unfollowed := true, recurses := true, named := ["encoding/binary.BigEndian", "pub-mailsack/pub/kmsg/inner/kbin.ErrNotEnoughData"], apart := false, laid := [("pub-mailsack/pub/kmsg/inner/kbin.ErrNotEnoughData", laid_pub_mailsack_pub_kmsg_inner_kbin_ErrNotEnoughData)] }
def FnUnsafeReadShareGroupStateSummaryRequestSaid : Prop := fnUnsafeReadShareGroupStateSummaryRequestRow.holds Tryd.pinned (OpenSpec.ofChange fnUnsafeReadShareGroupStateSummaryRequestSpec)

/-- ITS FALSE NEIGHBOUR: 'it returns false'. Refute it at one input. -/
def fnUnsafeReadShareGroupStateSummaryRequestWrong : ChangeSpec := { name := "fnUnsafeReadShareGroupStateSummaryRequest", fn := fun _ => fun
  | [d1, d2] => { results := [.lit (.bool false)], args := [d1, d2] }
  | _ => none }
def FnUnsafeReadShareGroupStateSummaryRequestWrongFalsely : Prop := fnUnsafeReadShareGroupStateSummaryRequestRow.holds Tryd.pinned (OpenSpec.ofChange fnUnsafeReadShareGroupStateSummaryRequestWrong)

/-- 'laws.FnUnsafeRemoveRaftVoterResponse': WHATEVER THE INPUT: true; the input reads as it did. -/
def fnUnsafeRemoveRaftVoterResponseSpec : ChangeSpec := { name := "fnUnsafeRemoveRaftVoterResponse", fn := fun _ => fun
  | [d1, d2] => { results := [.lit (.bool true)], args := [d1, d2] }
  | _ => none }
def fnUnsafeRemoveRaftVoterResponseRow : OpenClaim := { program := "ytieneknlekaonaadoor", sum := "c037cb079e31e76b6056ce1ed47decb2e6dcd53ed18fe757b98492ee326b9d97", func := "pub-mailsack/laws.FnUnsafeRemoveRaftVoterResponse", spec := "fnUnsafeRemoveRaftVoterResponse", inPlace := ["internal/reflectlite.ValueOf", "internal/reflectlite.Swapper", "(internal/reflectlite.Value).Len"], unfollowed := true, recurses := true, named := ["encoding/binary.BigEndian", "pub-mailsack/pub/kmsg/inner/kbin.ErrNotEnoughData"], apart := false, laid := [("pub-mailsack/pub/kmsg/inner/kbin.ErrNotEnoughData", laid_pub_mailsack_pub_kmsg_inner_kbin_ErrNotEnoughData)] }
def FnUnsafeRemoveRaftVoterResponseSaid : Prop := fnUnsafeRemoveRaftVoterResponseRow.holds Tryd.pinned (OpenSpec.ofChange fnUnsafeRemoveRaftVoterResponseSpec)

/-- ITS FALSE NEIGHBOUR: 'it returns false'. Refute it at one input. -/
def fnUnsafeRemoveRaftVoterResponseWrong : ChangeSpec := { name := "fnUnsafeRemoveRaftVoterResponse", fn := fun _ => fun
  | [d1, d2] => { results := [.lit (.bool false)], args := [d1, d2] }
  | _ => none }
def FnUnsafeRemoveRaftVoterResponseWrongFalsely : Prop := fnUnsafeRemoveRaftVoterResponseRow.holds Tryd.pinned (OpenSpec.ofChange fnUnsafeRemoveRaftVoterResponseWrong)

/- THE SECOND FORM. 'bulk': how many values and letters a reading holds, each counted each time it is reached (what is shared counts as often as it is met; a slice's spare places count too). A statement '..UptoSaid' is the law's where the arguments, and the package variables that the reading takes, are together of bulk at most 1048576: NARROWER than '..Said'. Prove '..Said' where nothing that the law and all that it calls make is longer than what came in: it says more and counts as full. Else prove '..UptoSaid'. A law counts once. -/
mutual
def uptoBulk {H : Type} : DataW H → Nat
  | .lit (.string bytes) => bytes.length + 1
  | .lit _ => 1
  | .nil => 1
  | .ptr d => uptoBulk d + 1
  | .slice elems spare => uptoBulkAll elems + uptoBulkAll spare + 1
  | .agg parts => uptoBulkAll parts + 1
  | .iface _ d => uptoBulk d + 1
  | .map entries => uptoBulkEntries entries + 1
  | .held _ => 1
def uptoBulkAll {H : Type} : List (DataW H) → Nat
  | [] => 0
  | d :: r => uptoBulk d + uptoBulkAll r
def uptoBulkEntries {H : Type} : List (Lit × DataW H) → Nat
  | [] => 0
  | x :: r => uptoBulkEntry x + uptoBulkEntries r
def uptoBulkEntry {H : Type} : Lit × DataW H → Nat
  | (.string bytes, d) => bytes.length + uptoBulk d + 1
  | (_, d) => uptoBulk d + 1
 end
def uptoSmall : (H : Type) → List (DataW H) → Bool := fun _ ds => decide (uptoBulkAll ds ≤ 1048576)
def OpenSpec.upto (s : _root_.Go.ChangeSpec) : _root_.Go.OpenSpec := { _root_.Go.OpenSpec.ofChange s with cond := some uptoSmall }

/-- 'laws.FnUnsafeAlterClientQuotasResponse', WHERE WHAT IT READS IS OF BULK AT MOST 1048576: true; the input reads as it did. -/
def fnUnsafeAlterClientQuotasResponseUptoRow : OpenClaim := { program := "ytieneknlekaonaadoor", sum := "c037cb079e31e76b6056ce1ed47decb2e6dcd53ed18fe757b98492ee326b9d97", func := "pub-mailsack/laws.FnUnsafeAlterClientQuotasResponse", spec := "fnUnsafeAlterClientQuotasResponse", inPlace := ["internal/reflectlite.ValueOf", "internal/reflectlite.Swapper", "(internal/reflectlite.Value).Len"], unfollowed := true, recurses := true, named := ["encoding/binary.BigEndian", "pub-mailsack/pub/kmsg/inner/kbin.ErrNotEnoughData"], apart := false, laid := [("pub-mailsack/pub/kmsg/inner/kbin.ErrNotEnoughData", laid_pub_mailsack_pub_kmsg_inner_kbin_ErrNotEnoughData)], narrowed := true }
def FnUnsafeAlterClientQuotasResponseUptoSaid : Prop := fnUnsafeAlterClientQuotasResponseUptoRow.holds Tryd.pinned (OpenSpec.upto fnUnsafeAlterClientQuotasResponseSpec)

/-- 'laws.FnUnsafeDescribeACLsResponse', WHERE WHAT IT READS IS OF BULK AT MOST 1048576: true; the input reads as it did. -/
def fnUnsafeDescribeACLsResponseUptoRow : OpenClaim := { program := "ytieneknlekaonaadoor", sum := "c037cb079e31e76b6056ce1ed47decb2e6dcd53ed18fe757b98492ee326b9d97", func := "pub-mailsack/laws.FnUnsafeDescribeACLsResponse", spec := "fnUnsafeDescribeACLsResponse", inPlace := ["internal/reflectlite.ValueOf", "internal/reflectlite.Swapper", "(internal/reflectlite.Value).Len"], unfollowed := true, recurses := true, named := ["encoding/binary.BigEndian", "pub-mailsack/pub/kmsg/inner/kbin.ErrNotEnoughData"], apart := false, laid := [("pub-mailsack/pub/kmsg/inner/kbin.ErrNotEnoughData", laid_pub_mailsack_pub_kmsg_inner_kbin_ErrNotEnoughData)], narrowed := true }
def FnUnsafeDescribeACLsResponseUptoSaid : Prop := fnUnsafeDescribeACLsResponseUptoRow.holds Tryd.pinned (OpenSpec.upto fnUnsafeDescribeACLsResponseSpec)

/-- 'laws.FnUnsafeDescribeGroupsRequest', WHERE WHAT IT READS IS OF BULK AT MOST 1048576: true; the input reads as it did. -/
def fnUnsafeDescribeGroupsRequestUptoRow : OpenClaim := { program := "ytieneknlekaonaadoor", sum := "c037cb079e31e76b6056ce1ed47decb2e6dcd53ed18fe757b98492ee326b9d97", func := "pub-mailsack/laws.FnUnsafeDescribeGroupsRequest", spec := "fnUnsafeDescribeGroupsRequest", inPlace := ["internal/reflectlite.ValueOf", "internal/reflectlite.Swapper", "(internal/reflectlite.Value).Len"], unfollowed := true, recurses := true, named := ["encoding/binary.BigEndian", "pub-mailsack/pub/kmsg/inner/kbin.ErrNotEnoughData"], apart := false, laid := [("pub-mailsack/pub/kmsg/inner/kbin.ErrNotEnoughData", laid_pub_mailsack_pub_kmsg_inner_kbin_ErrNotEnoughData)], narrowed := true }
def FnUnsafeDescribeGroupsRequestUptoSaid : Prop := fnUnsafeDescribeGroupsRequestUptoRow.holds Tryd.pinned (OpenSpec.upto fnUnsafeDescribeGroupsRequestSpec)

/-- 'laws.FnUnsafeDescribeLogDirsResponse', WHERE WHAT IT READS IS OF BULK AT MOST 1048576: true; the input reads as it did. -/
def fnUnsafeDescribeLogDirsResponseUptoRow : OpenClaim := { program := "ytieneknlekaonaadoor", sum := "c037cb079e31e76b6056ce1ed47decb2e6dcd53ed18fe757b98492ee326b9d97", func := "pub-mailsack/laws.FnUnsafeDescribeLogDirsResponse", spec := "fnUnsafeDescribeLogDirsResponse", inPlace := ["internal/reflectlite.ValueOf", "internal/reflectlite.Swapper", "(internal/reflectlite.Value).Len"], unfollowed := true, recurses := true, named := ["encoding/binary.BigEndian", "pub-mailsack/pub/kmsg/inner/kbin.ErrNotEnoughData"], apart := false, laid := [("pub-mailsack/pub/kmsg/inner/kbin.ErrNotEnoughData", laid_pub_mailsack_pub_kmsg_inner_kbin_ErrNotEnoughData)], narrowed := true }
def FnUnsafeDescribeLogDirsResponseUptoSaid : Prop := fnUnsafeDescribeLogDirsResponseUptoRow.holds Tryd.pinned (OpenSpec.upto fnUnsafeDescribeLogDirsResponseSpec)

/-- 'laws.FnUnsafeFindCoordinatorRequest', WHERE WHAT IT READS IS OF BULK AT MOST 1048576: true; the input reads as it did. -/
def fnUnsafeFindCoordinatorRequestUptoRow : OpenClaim := { program := "ytieneknlekaonaadoor", sum := "c037cb079e31e76b6056ce1ed47decb2e6dcd53ed18fe757b98492ee326b9d97", func := "pub-mailsack/laws.FnUnsafeFindCoordinatorRequest", spec := "fnUnsafeFindCoordinatorRequest", inPlace := ["internal/reflectlite.ValueOf", "internal/reflectlite.Swapper", "(internal/reflectlite.Value).Len"], unfollowed := true, recurses := true, named := ["encoding/binary.BigEndian", "pub-mailsack/pub/kmsg/inner/kbin.ErrNotEnoughData"], apart := false, laid := [("pub-mailsack/pub/kmsg/inner/kbin.ErrNotEnoughData", laid_pub_mailsack_pub_kmsg_inner_kbin_ErrNotEnoughData)], narrowed := true }
def FnUnsafeFindCoordinatorRequestUptoSaid : Prop := fnUnsafeFindCoordinatorRequestUptoRow.holds Tryd.pinned (OpenSpec.upto fnUnsafeFindCoordinatorRequestSpec)

/-- 'laws.FnUnsafeGetTelemetrySubscriptionsResponse', WHERE WHAT IT READS IS OF BULK AT MOST 1048576: true; the input reads as it did. -/
def fnUnsafeGetTelemetrySubscriptionsResponseUptoRow : OpenClaim := { program := "ytieneknlekaonaadoor", sum := "c037cb079e31e76b6056ce1ed47decb2e6dcd53ed18fe757b98492ee326b9d97", func := "pub-mailsack/laws.FnUnsafeGetTelemetrySubscriptionsResponse", spec := "fnUnsafeGetTelemetrySubscriptionsResponse", inPlace := ["internal/reflectlite.ValueOf", "internal/reflectlite.Swapper", "(internal/reflectlite.Value).Len"], unfollowed := true, recurses := true, named := ["encoding/binary.BigEndian", "pub-mailsack/pub/kmsg/inner/kbin.ErrNotEnoughData"], apart := false, laid := [("pub-mailsack/pub/kmsg/inner/kbin.ErrNotEnoughData", laid_pub_mailsack_pub_kmsg_inner_kbin_ErrNotEnoughData)], narrowed := true }
def FnUnsafeGetTelemetrySubscriptionsResponseUptoSaid : Prop := fnUnsafeGetTelemetrySubscriptionsResponseUptoRow.holds Tryd.pinned (OpenSpec.upto fnUnsafeGetTelemetrySubscriptionsResponseSpec)

/-- 'laws.FnUnsafeInitProducerIDResponse', WHERE WHAT IT READS IS OF BULK AT MOST 1048576: true; the input reads as it did. -/
def fnUnsafeInitProducerIDResponseUptoRow : OpenClaim := { program := "ytieneknlekaonaadoor", sum := "c037cb079e31e76b6056ce1ed47decb2e6dcd53ed18fe757b98492ee326b9d97", func := "pub-mailsack/laws.FnUnsafeInitProducerIDResponse", spec := "fnUnsafeInitProducerIDResponse", inPlace := ["internal/reflectlite.ValueOf", "internal/reflectlite.Swapper", "(internal/reflectlite.Value).Len"], unfollowed := true, recurses := true, named := ["encoding/binary.BigEndian", "pub-mailsack/pub/kmsg/inner/kbin.ErrNotEnoughData"], apart := false, laid := [("pub-mailsack/pub/kmsg/inner/kbin.ErrNotEnoughData", laid_pub_mailsack_pub_kmsg_inner_kbin_ErrNotEnoughData)], narrowed := true }
def FnUnsafeInitProducerIDResponseUptoSaid : Prop := fnUnsafeInitProducerIDResponseUptoRow.holds Tryd.pinned (OpenSpec.upto fnUnsafeInitProducerIDResponseSpec)

/-- 'laws.FnUnsafeJoinGroupRequest', WHERE WHAT IT READS IS OF BULK AT MOST 1048576: true; the input reads as it did. -/
def fnUnsafeJoinGroupRequestUptoRow : OpenClaim := { program := "ytieneknlekaonaadoor", sum := "c037cb079e31e76b6056ce1ed47decb2e6dcd53ed18fe757b98492ee326b9d97", func := "pub-mailsack/laws.FnUnsafeJoinGroupRequest", spec := "fnUnsafeJoinGroupRequest", inPlace := ["internal/reflectlite.ValueOf", "internal/reflectlite.Swapper", "(internal/reflectlite.Value).Len"], unfollowed := true, recurses := true, named := ["encoding/binary.BigEndian", "pub-mailsack/pub/kmsg/inner/kbin.ErrNotEnoughData"], apart := false, laid := [("pub-mailsack/pub/kmsg/inner/kbin.ErrNotEnoughData", laid_pub_mailsack_pub_kmsg_inner_kbin_ErrNotEnoughData)], narrowed := true }
def FnUnsafeJoinGroupRequestUptoSaid : Prop := fnUnsafeJoinGroupRequestUptoRow.holds Tryd.pinned (OpenSpec.upto fnUnsafeJoinGroupRequestSpec)

/-- 'laws.FnUnsafeOffsetFetchResponse', WHERE WHAT IT READS IS OF BULK AT MOST 1048576: true; the input reads as it did. -/
def fnUnsafeOffsetFetchResponseUptoRow : OpenClaim := { program := "ytieneknlekaonaadoor", sum := "c037cb079e31e76b6056ce1ed47decb2e6dcd53ed18fe757b98492ee326b9d97", func := "pub-mailsack/laws.FnUnsafeOffsetFetchResponse", spec := "fnUnsafeOffsetFetchResponse", inPlace := ["internal/reflectlite.ValueOf", "internal/reflectlite.Swapper", "(internal/reflectlite.Value).Len"], unfollowed := true, recurses := true, named := ["encoding/binary.BigEndian", "pub-mailsack/pub/kmsg/inner/kbin.ErrNotEnoughData"], apart := false, laid := [("pub-mailsack/pub/kmsg/inner/kbin.ErrNotEnoughData", laid_pub_mailsack_pub_kmsg_inner_kbin_ErrNotEnoughData)], narrowed := true }
def FnUnsafeOffsetFetchResponseUptoSaid : Prop := fnUnsafeOffsetFetchResponseUptoRow.holds Tryd.pinned (OpenSpec.upto fnUnsafeOffsetFetchResponseSpec)

/-- 'laws.FnUnsafeProduceRequest', WHERE WHAT IT READS IS OF BULK AT MOST 1048576: true; the input reads as it did. -/
def fnUnsafeProduceRequestUptoRow : OpenClaim := { program := "ytieneknlekaonaadoor", sum := "c037cb079e31e76b6056ce1ed47decb2e6dcd53ed18fe757b98492ee326b9d97", func := "pub-mailsack/laws.FnUnsafeProduceRequest", spec := "fnUnsafeProduceRequest", inPlace := ["internal/reflectlite.ValueOf", "internal/reflectlite.Swapper", "(internal/reflectlite.Value).Len"], unfollowed := true, recurses := true, named := ["encoding/binary.BigEndian", "pub-mailsack/pub/kmsg/inner/kbin.ErrNotEnoughData"], apart := false, laid := [("pub-mailsack/pub/kmsg/inner/kbin.ErrNotEnoughData", laid_pub_mailsack_pub_kmsg_inner_kbin_ErrNotEnoughData)], narrowed := true }
def FnUnsafeProduceRequestUptoSaid : Prop := fnUnsafeProduceRequestUptoRow.holds Tryd.pinned (OpenSpec.upto fnUnsafeProduceRequestSpec)

/-- 'laws.FnUnsafeReadShareGroupStateSummaryRequest', WHERE WHAT IT READS IS OF BULK AT MOST 1048576: true; the input reads as it did. -/
def fnUnsafeReadShareGroupStateSummaryRequestUptoRow : OpenClaim := { program := "ytieneknlekaonaadoor", sum := "c037cb079e31e76b6056ce1ed47decb2e6dcd53ed18fe757b98492ee326b9d97", func := "pub-mailsack/laws.FnUnsafeReadShareGroupStateSummaryRequest", spec := "fnUnsafeReadShareGroupStateSummaryRequest", inPlace := ["internal/reflectlite.ValueOf", "internal/reflectlite.Swapper", "(internal/reflectlite.Value).Len"], unfollowed := true, recurses := true, named := ["encoding/binary.BigEndian", "pub-mailsack/pub/kmsg/inner/kbin.ErrNotEnoughData"], apart := false, laid := [("pub-mailsack/pub/kmsg/inner/kbin.ErrNotEnoughData", laid_pub_mailsack_pub_kmsg_inner_kbin_ErrNotEnoughData)], narrowed := true }
def FnUnsafeReadShareGroupStateSummaryRequestUptoSaid : Prop := fnUnsafeReadShareGroupStateSummaryRequestUptoRow.holds Tryd.pinned (OpenSpec.upto fnUnsafeReadShareGroupStateSummaryRequestSpec)

/-- 'laws.FnUnsafeRemoveRaftVoterResponse', WHERE WHAT IT READS IS OF BULK AT MOST 1048576: true; the input reads as it did. -/
def fnUnsafeRemoveRaftVoterResponseUptoRow : OpenClaim := { program := "ytieneknlekaonaadoor", sum := "c037cb079e31e76b6056ce1ed47decb2e6dcd53ed18fe757b98492ee326b9d97", func := "pub-mailsack/laws.FnUnsafeRemoveRaftVoterResponse", spec := "fnUnsafeRemoveRaftVoterResponse", inPlace := ["internal/reflectlite.ValueOf", "internal/reflectlite.Swapper", "(internal/reflectlite.Value).Len"], unfollowed := true, recurses := true, named := ["encoding/binary.BigEndian", "pub-mailsack/pub/kmsg/inner/kbin.ErrNotEnoughData"], apart := false, laid := [("pub-mailsack/pub/kmsg/inner/kbin.ErrNotEnoughData", laid_pub_mailsack_pub_kmsg_inner_kbin_ErrNotEnoughData)], narrowed := true }
def FnUnsafeRemoveRaftVoterResponseUptoSaid : Prop := fnUnsafeRemoveRaftVoterResponseUptoRow.holds Tryd.pinned (OpenSpec.upto fnUnsafeRemoveRaftVoterResponseSpec)

end Rows
end Go.Proofs.YtieneknlekaonaaDoor
