/-
  NARROWER THAN 'FOR EVERY INPUT', by the rows' own cells (each row's printed sentence says how): FnDefaultDeleteRecordsRequest: loops, laid · FnDefaultListTransactionsRequest: loops, laid · FnDefaultDeleteTopicsRequest: loops, laid · FnDefaultStopReplicaRequest: loops, laid · FnDefaultBeginQuorumEpochRequest: loops, laid · FnDefaultCreateTopicsRequest: loops, laid · FnDefaultShareFetchRequest: loops, laid.
  DERIVED. THE GIVEN ROWS OF THIS SEAT. 7 by the template 'for every input the law returns true; each argument reads behind the call as it read before'; 0 by the template 'total and deterministic' (their statements: YtcknmmkgmlkhaaaGreatDoorTotals.lean).
  GIVEN WITH THE SEED: the statements are not yours to turn. If you find one false, say at which input.
  Laid BY PROGRAM, IN A SANDBOX (cutbox-rows.mjs): the forced cells as the released guide's own fill.sh prints them over the translation 1549d3c470a9c8d7… (all of the seat's roots in one cut). By AI agents, Wed Nov 11 2026. No macro, syntax, notation, axiom, sorry.
-/
import Derived.Test.YtcknmmkgmlkhaaaGreatDoorChecked
import GoSem.Claim
import GoSem.ClaimJoined
import GoSem.ClaimMapViews
import Derived.JoinedTies
import Derived.KernelRfl
namespace Go.Proofs.YtcknmmkgmlkhaaaGreatDoor
/- THE CELL 'sum', in the pinned program and in every row, IS THE sha256 OF THE DUMP (.gsa) THAT YtcknmmkgmlkhaaaGreatDoorProg.lean LOADS. Nothing in Lean hashes anything: it is a label: what it is worth is what the hold of that sum in a sandbox is worth. -/
noncomputable def Tryz.pinned : Pinned := { name := "ytcknmmkgmlkhaaagreatdoor", sum := "1549d3c470a9c8d7bf7b09c35604710fa360812d23aa9b38eeacb2475d1c6795", checked := Tryz.checked }
namespace Rows
def none {H : Type} : Left H := { results := [], args := [] }

/- WHAT THE LISTED PACKAGE-LEVEL VARIABLES READ AS WHEN THE CALL BEGINS. Each datum BY PROGRAM (the guide's laid-datum.mjs) off the statement by which the dump's own 'gosem.cut.vars' lays the variable. In a bare row this is a premise. The card (YtcknmmkgmlkhaaaGreatDoorCards.lean) ties it to the program's text. -/
def laid_pub_mailsack_pub_kmsg_inner_kbin_ErrNotEnoughData {H : Type} : DataW H := .iface "*errors.errorString" (.ptr (.agg [.lit (.string [114, 101, 115, 112, 111, 110, 115, 101, 32, 100, 105, 100, 32, 110, 111, 116, 32, 99, 111, 110, 116, 97, 105, 110, 32, 101, 110, 111, 117, 103, 104, 32, 100, 97, 116, 97, 32, 116, 111, 32, 98, 101, 32, 118, 97, 108, 105, 100])]))

/-- 'laws.FnDefaultDeleteRecordsRequest': WHATEVER THE INPUT: true; the input reads as it did. -/
def fnDefaultDeleteRecordsRequestSpec : ChangeSpec := { name := "fnDefaultDeleteRecordsRequest", fn := fun _ => fun
  | [d1, d2] => { results := [.lit (.bool true)], args := [d1, d2] }
  | _ => none }
def fnDefaultDeleteRecordsRequestRow : OpenClaim := { program := "ytcknmmkgmlkhaaagreatdoor", sum := "1549d3c470a9c8d7bf7b09c35604710fa360812d23aa9b38eeacb2475d1c6795", func := "pub-mailsack/laws.FnDefaultDeleteRecordsRequest", spec := "fnDefaultDeleteRecordsRequest", inPlace := ["internal/reflectlite.ValueOf", "internal/reflectlite.Swapper", "(internal/reflectlite.Value).Len"], unfollowed := true, recurses := true, named := ["encoding/binary.BigEndian", "pub-mailsack/pub/kmsg/inner/kbin.ErrNotEnoughData"], loops := true, apart := false, laid := [("pub-mailsack/pub/kmsg/inner/kbin.ErrNotEnoughData", laid_pub_mailsack_pub_kmsg_inner_kbin_ErrNotEnoughData)] }
def FnDefaultDeleteRecordsRequestSaid : Prop := fnDefaultDeleteRecordsRequestRow.holds Tryz.pinned (OpenSpec.ofChange fnDefaultDeleteRecordsRequestSpec)

/-- ITS FALSE NEIGHBOUR: 'it returns false'. Refute it at one input. -/
def fnDefaultDeleteRecordsRequestWrong : ChangeSpec := { name := "fnDefaultDeleteRecordsRequest", fn := fun _ => fun
  | [d1, d2] => { results := [.lit (.bool false)], args := [d1, d2] }
  | _ => none }
def FnDefaultDeleteRecordsRequestWrongFalsely : Prop := fnDefaultDeleteRecordsRequestRow.holds Tryz.pinned (OpenSpec.ofChange fnDefaultDeleteRecordsRequestWrong)

/-- 'laws.FnDefaultListTransactionsRequest': WHATEVER THE INPUT: true; the input reads as it did. -/
def fnDefaultListTransactionsRequestSpec : ChangeSpec := { name := "fnDefaultListTransactionsRequest", fn := fun _ => fun
  | [d1, d2] => { results := [.lit (.bool true)], args := [d1, d2] }
  | _ => none }
def fnDefaultListTransactionsRequestRow : OpenClaim := { program := "ytcknmmkgmlkhaaagreatdoor", sum := "1549d3c470a9c8d7bf7b09c35604710fa360812d23aa9b38eeacb2475d1c6795", func := "pub-mailsack/laws.FnDefaultListTransactionsRequest", spec := "fnDefaultListTransactionsRequest", inPlace := ["internal/reflectlite.ValueOf", "internal/reflectlite.Swapper", "(internal/reflectlite.Value).Len"], unfollowed := true, recurses := true, named := ["encoding/binary.BigEndian", "pub-mailsack/pub/kmsg/inner/kbin.ErrNotEnoughData"], loops := true, apart := false, laid := [("pub-mailsack/pub/kmsg/inner/kbin.ErrNotEnoughData", laid_pub_mailsack_pub_kmsg_inner_kbin_ErrNotEnoughData)] }
def FnDefaultListTransactionsRequestSaid : Prop := fnDefaultListTransactionsRequestRow.holds Tryz.pinned (OpenSpec.ofChange fnDefaultListTransactionsRequestSpec)

/-- ITS FALSE NEIGHBOUR: 'it returns false'. Refute it at one input. -/
def fnDefaultListTransactionsRequestWrong : ChangeSpec := { name := "fnDefaultListTransactionsRequest", fn := fun _ => fun
  | [d1, d2] => { results := [.lit (.bool false)], args := [d1, d2] }
  | _ => none }
def FnDefaultListTransactionsRequestWrongFalsely : Prop := fnDefaultListTransactionsRequestRow.holds Tryz.pinned (OpenSpec.ofChange fnDefaultListTransactionsRequestWrong)

/-- 'laws.FnDefaultDeleteTopicsRequest': WHATEVER THE INPUT: true; the input reads as it did. -/
def fnDefaultDeleteTopicsRequestSpec : ChangeSpec := { name := "fnDefaultDeleteTopicsRequest", fn := fun _ => fun
  | [d1, d2] => { results := [.lit (.bool true)], args := [d1, d2] }
  | _ => none }
def fnDefaultDeleteTopicsRequestRow : OpenClaim := { program := "ytcknmmkgmlkhaaagreatdoor", sum := "1549d3c470a9c8d7bf7b09c35604710fa360812d23aa9b38eeacb2475d1c6795", func := "pub-mailsack/laws.FnDefaultDeleteTopicsRequest", spec := "fnDefaultDeleteTopicsRequest", inPlace := ["internal/reflectlite.ValueOf", "internal/reflectlite.Swapper", "(internal/reflectlite.Value).Len"], unfollowed := true, recurses := true, named := ["encoding/binary.BigEndian", "pub-mailsack/pub/kmsg/inner/kbin.ErrNotEnoughData"], loops := true, apart := false, laid := [("pub-mailsack/pub/kmsg/inner/kbin.ErrNotEnoughData", laid_pub_mailsack_pub_kmsg_inner_kbin_ErrNotEnoughData)] }
def FnDefaultDeleteTopicsRequestSaid : Prop := fnDefaultDeleteTopicsRequestRow.holds Tryz.pinned (OpenSpec.ofChange fnDefaultDeleteTopicsRequestSpec)

/-- ITS FALSE NEIGHBOUR: 'it returns false'. Refute it at one input. -/
def fnDefaultDeleteTopicsRequestWrong : ChangeSpec := { name := "fnDefaultDeleteTopicsRequest", fn := fun _ => fun
  | [d1, d2] => { results := [.lit (.bool false)], args := [d1, d2] }
  | _ => none }
def FnDefaultDeleteTopicsRequestWrongFalsely : Prop := fnDefaultDeleteTopicsRequestRow.holds Tryz.pinned (OpenSpec.ofChange fnDefaultDeleteTopicsRequestWrong)

/-- 'laws.FnDefaultStopReplicaRequest': WHATEVER THE INPUT: true; the input reads as it did. -/
def fnDefaultStopReplicaRequestSpec : ChangeSpec := { name := "fnDefaultStopReplicaRequest", fn := fun _ => fun
  | [d1, d2] => { results := [.lit (.bool true)], args := [d1, d2] }
  | _ => none }
def fnDefaultStopReplicaRequestRow : OpenClaim := { program := "ytcknmmkgmlkhaaagreatdoor", sum := "1549d3c470a9c8d7bf7b09c35604710fa360812d23aa9b38eeacb2475d1c6795", func := "pub-mailsack/laws.FnDefaultStopReplicaRequest", spec := "fnDefaultStopReplicaRequest", inPlace := ["internal/reflectlite.ValueOf", "internal/reflectlite.Swapper", "(internal/reflectlite.Value).Len"], unfollowed := true, recurses := true, named := ["encoding/binary.BigEndian", "pub-mailsack/pub/kmsg/inner/kbin.ErrNotEnoughData"], loops := true, apart := false, laid := [("pub-mailsack/pub/kmsg/inner/kbin.ErrNotEnoughData", laid_pub_mailsack_pub_kmsg_inner_kbin_ErrNotEnoughData)] }
def FnDefaultStopReplicaRequestSaid : Prop := fnDefaultStopReplicaRequestRow.holds Tryz.pinned (OpenSpec.ofChange fnDefaultStopReplicaRequestSpec)

/-- ITS FALSE NEIGHBOUR: 'it returns false'. Refute it at one input. -/
def fnDefaultStopReplicaRequestWrong : ChangeSpec := { name := "fnDefaultStopReplicaRequest", fn := fun _ => fun
  | [d1, d2] => { results := [.lit (.bool false)], args := [d1, d2] }
  | _ => none }
def FnDefaultStopReplicaRequestWrongFalsely : Prop := fnDefaultStopReplicaRequestRow.holds Tryz.pinned (OpenSpec.ofChange fnDefaultStopReplicaRequestWrong)

/-- 'laws.FnDefaultBeginQuorumEpochRequest': WHATEVER THE INPUT: true; the input reads as it did. -/
def fnDefaultBeginQuorumEpochRequestSpec : ChangeSpec := { name := "fnDefaultBeginQuorumEpochRequest", fn := fun _ => fun
  | [d1, d2] => { results := [.lit (.bool true)], args := [d1, d2] }
  | _ => none }
def fnDefaultBeginQuorumEpochRequestRow : OpenClaim := { program := "ytcknmmkgmlkhaaagreatdoor", sum := "1549d3c470a9c8d7bf7b09c35604710fa360812d23aa9b38eeacb2475d1c6795", func := "pub-mailsack/laws.FnDefaultBeginQuorumEpochRequest", spec := "fnDefaultBeginQuorumEpochRequest", inPlace := ["internal/reflectlite.ValueOf", "internal/reflectlite.Swapper", "(internal/reflectlite.Value).Len"], unfollowed := true, recurses := true, named := ["encoding/binary.BigEndian", "pub-mailsack/pub/kmsg/inner/kbin.ErrNotEnoughData"], loops := true, apart := false, laid := [("pub-mailsack/pub/kmsg/inner/kbin.ErrNotEnoughData", laid_pub_mailsack_pub_kmsg_inner_kbin_ErrNotEnoughData)] }
def FnDefaultBeginQuorumEpochRequestSaid : Prop := fnDefaultBeginQuorumEpochRequestRow.holds Tryz.pinned (OpenSpec.ofChange fnDefaultBeginQuorumEpochRequestSpec)

/-- ITS FALSE NEIGHBOUR: 'it returns false'. Refute it at one input. -/
def fnDefaultBeginQuorumEpochRequestWrong : ChangeSpec := { name := "fnDefaultBeginQuorumEpochRequest", fn := fun _ => fun
  | [d1, d2] => { results := [.lit (.bool false)], args := [d1, d2] }
  | _ => none }
def FnDefaultBeginQuorumEpochRequestWrongFalsely : Prop := fnDefaultBeginQuorumEpochRequestRow.holds Tryz.pinned (OpenSpec.ofChange fnDefaultBeginQuorumEpochRequestWrong)

/-- 'laws.FnDefaultCreateTopicsRequest': WHATEVER THE INPUT: true; the input reads as it did. -/
def fnDefaultCreateTopicsRequestSpec : ChangeSpec := { name := "fnDefaultCreateTopicsRequest", fn := fun _ => fun
  | [d1, d2] => { results := [.lit (.bool true)], args := [d1, d2] }
  | _ => none }
def fnDefaultCreateTopicsRequestRow : OpenClaim := { program := "ytcknmmkgmlkhaaagreatdoor", sum := "1549d3c470a9c8d7bf7b09c35604710fa360812d23aa9b38eeacb2475d1c6795", func := "pub-mailsack/laws.FnDefaultCreateTopicsRequest", spec := "fnDefaultCreateTopicsRequest", inPlace := ["internal/reflectlite.ValueOf", "internal/reflectlite.Swapper", "(internal/reflectlite.Value).Len"], unfollowed := true, recurses := true, named := ["encoding/binary.BigEndian", "pub-mailsack/pub/kmsg/inner/kbin.ErrNotEnoughData"], loops := true, apart := false, laid := [("pub-mailsack/pub/kmsg/inner/kbin.ErrNotEnoughData", laid_pub_mailsack_pub_kmsg_inner_kbin_ErrNotEnoughData)] }
def FnDefaultCreateTopicsRequestSaid : Prop := fnDefaultCreateTopicsRequestRow.holds Tryz.pinned (OpenSpec.ofChange fnDefaultCreateTopicsRequestSpec)

/-- ITS FALSE NEIGHBOUR: 'it returns false'. Refute it at one input. -/
def fnDefaultCreateTopicsRequestWrong : ChangeSpec := { name := "fnDefaultCreateTopicsRequest", fn := fun _ => fun
  | [d1, d2] => { results := [.lit (.bool false)], args := [d1, d2] }
  | _ => none }
def FnDefaultCreateTopicsRequestWrongFalsely : Prop := fnDefaultCreateTopicsRequestRow.holds Tryz.pinned (OpenSpec.ofChange fnDefaultCreateTopicsRequestWrong)

/-- 'laws.FnDefaultShareFetchRequest': WHATEVER THE INPUT: true; the input reads as it did. -/
def fnDefaultShareFetchRequestSpec : ChangeSpec := { name := "fnDefaultShareFetchRequest", fn := fun _ => fun
  | [d1, d2] => { results := [.lit (.bool true)], args := [d1, d2] }
  | _ => none }
def fnDefaultShareFetchRequestRow : OpenClaim := { program := "ytcknmmkgmlkhaaagreatdoor", sum := "1549d3c470a9c8d7bf7b09c35604710fa360812d23aa9b38eeacb2475d1c6795", func := "pub-mailsack/laws.FnDefaultShareFetchRequest", spec := "fnDefaultShareFetchRequest", inPlace := ["internal/reflectlite.ValueOf", "internal/reflectlite.Swapper", "(internal/reflectlite.Value).Len"], unfollowed := true, recurses := true, named := ["encoding/binary.BigEndian", "pub-mailsack/pub/kmsg/inner/kbin.ErrNotEnoughData"], loops := true, apart := false, laid := [("pub-mailsack/pub/kmsg/inner/kbin.ErrNotEnoughData", laid_pub_mailsack_pub_kmsg_inner_kbin_ErrNotEnoughData)] }
def FnDefaultShareFetchRequestSaid : Prop := fnDefaultShareFetchRequestRow.holds Tryz.pinned (OpenSpec.ofChange fnDefaultShareFetchRequestSpec)

/-- ITS FALSE NEIGHBOUR: 'it returns false'. Refute it at one input. -/
def fnDefaultShareFetchRequestWrong : ChangeSpec := { name := "fnDefaultShareFetchRequest", fn := fun _ => fun
  | [d1, d2] => { results := [.lit (.bool false)], args := [d1, d2] }
  | _ => none }
def FnDefaultShareFetchRequestWrongFalsely : Prop := fnDefaultShareFetchRequestRow.holds Tryz.pinned (OpenSpec.ofChange fnDefaultShareFetchRequestWrong)

/- THE SECOND FORM. 'bulk': how many values and letters a reading holds, each counted each time it is reached (what is shared counts as often as it is met; a slice's spare places count too). A statement '..UptoSaid' is the law's where the arguments, and the package variables that the reading takes, are together of bulk at most 1048576: NARROWER than '..Said'. Prove '..Said' where nothing that the law and all that it calls make is longer than what came in: it says more and counts as full. Else prove '..UptoSaid'. A law counts once. -/
mutual
def uptoBulk {H : Type} : DataW H → Nat
  | .lit (.string bytes) => bytes.length + 1
  | .lit _ => 1
  | .nil => 1
  | .ptr d => uptoBulk d + 1
  | .slice elems spare => uptoBulkAll elems + uptoBulkAll spare + 1
  | .agg parts => uptoBulkAll parts + 1
  | .iface _ d => uptoBulk d + 1
  | .map entries => uptoBulkEntries entries + 1
  | .held _ => 1
def uptoBulkAll {H : Type} : List (DataW H) → Nat
  | [] => 0
  | d :: r => uptoBulk d + uptoBulkAll r
def uptoBulkEntries {H : Type} : List (Lit × DataW H) → Nat
  | [] => 0
  | x :: r => uptoBulkEntry x + uptoBulkEntries r
def uptoBulkEntry {H : Type} : Lit × DataW H → Nat
  | (.string bytes, d) => bytes.length + uptoBulk d + 1
  | (_, d) => uptoBulk d + 1
 end
def uptoSmall : (H : Type) → List (DataW H) → Bool := fun _ ds => decide (uptoBulkAll ds ≤ 1048576)
def OpenSpec.upto (s : _root_.Go.ChangeSpec) : _root_.Go.OpenSpec := { _root_.Go.OpenSpec.ofChange s with cond := some uptoSmall }

/-- 'laws.FnDefaultDeleteRecordsRequest', WHERE WHAT IT READS IS OF BULK AT MOST 1048576: true; the input reads as it did. -/
def fnDefaultDeleteRecordsRequestUptoRow : OpenClaim := { program := "ytcknmmkgmlkhaaagreatdoor", sum := "1549d3c470a9c8d7bf7b09c35604710fa360812d23aa9b38eeacb2475d1c6795", func := "pub-mailsack/laws.FnDefaultDeleteRecordsRequest", spec := "fnDefaultDeleteRecordsRequest", inPlace := ["internal/reflectlite.ValueOf", "internal/reflectlite.Swapper", "(internal/reflectlite.Value).Len"], unfollowed := true, recurses := true, named := ["encoding/binary.BigEndian", "pub-mailsack/pub/kmsg/inner/kbin.ErrNotEnoughData"], loops := true, apart := false, laid := [("pub-mailsack/pub/kmsg/inner/kbin.ErrNotEnoughData", laid_pub_mailsack_pub_kmsg_inner_kbin_ErrNotEnoughData)], narrowed := true }
def FnDefaultDeleteRecordsRequestUptoSaid : Prop := fnDefaultDeleteRecordsRequestUptoRow.holds Tryz.pinned (OpenSpec.upto fnDefaultDeleteRecordsRequestSpec)

/-- 'laws.FnDefaultListTransactionsRequest', WHERE WHAT IT READS IS OF BULK AT MOST 1048576: true; the input reads as it did. -/
def fnDefaultListTransactionsRequestUptoRow : OpenClaim := { program := "ytcknmmkgmlkhaaagreatdoor", sum := "1549d3c470a9c8d7bf7b09c35604710fa360812d23aa9b38eeacb2475d1c6795", func := "pub-mailsack/laws.FnDefaultListTransactionsRequest", spec := "fnDefaultListTransactionsRequest", inPlace := ["internal/reflectlite.ValueOf", "internal/reflectlite.Swapper", "(internal/reflectlite.Value).Len"], unfollowed := true, recurses := true, named := ["encoding/binary.BigEndian", "pub-mailsack/pub/kmsg/inner/kbin.ErrNotEnoughData"], loops := true, apart := false, laid := [("pub-mailsack/pub/kmsg/inner/kbin.ErrNotEnoughData", laid_pub_mailsack_pub_kmsg_inner_kbin_ErrNotEnoughData)], narrowed := true }
def FnDefaultListTransactionsRequestUptoSaid : Prop := fnDefaultListTransactionsRequestUptoRow.holds Tryz.pinned (OpenSpec.upto fnDefaultListTransactionsRequestSpec)

/-- 'laws.FnDefaultDeleteTopicsRequest', WHERE WHAT IT READS IS OF BULK AT MOST 1048576: true; the input reads as it did. -/
def fnDefaultDeleteTopicsRequestUptoRow : OpenClaim := { program := "ytcknmmkgmlkhaaagreatdoor", sum := "1549d3c470a9c8d7bf7b09c35604710fa360812d23aa9b38eeacb2475d1c6795", func := "pub-mailsack/laws.FnDefaultDeleteTopicsRequest", spec := "fnDefaultDeleteTopicsRequest", inPlace := ["internal/reflectlite.ValueOf", "internal/reflectlite.Swapper", "(internal/reflectlite.Value).Len"], unfollowed := true, recurses := true, named := ["encoding/binary.BigEndian", "pub-mailsack/pub/kmsg/inner/kbin.ErrNotEnoughData"], loops := true, apart := false, laid := [("pub-mailsack/pub/kmsg/inner/kbin.ErrNotEnoughData", laid_pub_mailsack_pub_kmsg_inner_kbin_ErrNotEnoughData)], narrowed := true }
def FnDefaultDeleteTopicsRequestUptoSaid : Prop := fnDefaultDeleteTopicsRequestUptoRow.holds Tryz.pinned (OpenSpec.upto fnDefaultDeleteTopicsRequestSpec)

/-- 'laws.FnDefaultStopReplicaRequest', WHERE WHAT IT READS IS OF BULK AT MOST 1048576: true; the input reads as it did. -/
def fnDefaultStopReplicaRequestUptoRow : OpenClaim := { program := "ytcknmmkgmlkhaaagreatdoor", sum := "1549d3c470a9c8d7bf7b09c35604710fa360812d23aa9b38eeacb2475d1c6795", func := "pub-mailsack/laws.FnDefaultStopReplicaRequest", spec := "fnDefaultStopReplicaRequest", inPlace := ["internal/reflectlite.ValueOf", "internal/reflectlite.Swapper", "(internal/reflectlite.Value).Len"], unfollowed := true, recurses := true, named := ["encoding/binary.BigEndian", "pub-mailsack/pub/kmsg/inner/kbin.ErrNotEnoughData"], loops := true, apart := false, laid := [("pub-mailsack/pub/kmsg/inner/kbin.ErrNotEnoughData", laid_pub_mailsack_pub_kmsg_inner_kbin_ErrNotEnoughData)], narrowed := true }
def FnDefaultStopReplicaRequestUptoSaid : Prop := fnDefaultStopReplicaRequestUptoRow.holds Tryz.pinned (OpenSpec.upto fnDefaultStopReplicaRequestSpec)

/-- 'laws.FnDefaultBeginQuorumEpochRequest', WHERE WHAT IT READS IS OF BULK AT MOST 1048576: true; the input reads as it did. -/
def fnDefaultBeginQuorumEpochRequestUptoRow : OpenClaim := { program := "ytcknmmkgmlkhaaagreatdoor", sum := "1549d3c470a9c8d7bf7b09c35604710fa360812d23aa9b38eeacb2475d1c6795", func := "pub-mailsack/laws.FnDefaultBeginQuorumEpochRequest", spec := "fnDefaultBeginQuorumEpochRequest", inPlace := ["internal/reflectlite.ValueOf", "internal/reflectlite.Swapper", "(internal/reflectlite.Value).Len"], unfollowed := true, recurses := true, named := ["encoding/binary.BigEndian", "pub-mailsack/pub/kmsg/inner/kbin.ErrNotEnoughData"], loops := true, apart := false, laid := [("pub-mailsack/pub/kmsg/inner/kbin.ErrNotEnoughData", laid_pub_mailsack_pub_kmsg_inner_kbin_ErrNotEnoughData)], narrowed := true }
def FnDefaultBeginQuorumEpochRequestUptoSaid : Prop := fnDefaultBeginQuorumEpochRequestUptoRow.holds Tryz.pinned (OpenSpec.upto fnDefaultBeginQuorumEpochRequestSpec)

/-- 'laws.FnDefaultCreateTopicsRequest', WHERE WHAT IT READS IS OF BULK AT MOST 1048576: true; the input reads as it did. -/
def fnDefaultCreateTopicsRequestUptoRow : OpenClaim := { program := "ytcknmmkgmlkhaaagreatdoor", sum := "1549d3c470a9c8d7bf7b09c35604710fa360812d23aa9b38eeacb2475d1c6795", func := "pub-mailsack/laws.FnDefaultCreateTopicsRequest", spec := "fnDefaultCreateTopicsRequest", inPlace := ["internal/reflectlite.ValueOf", "internal/reflectlite.Swapper", "(internal/reflectlite.Value).Len"], unfollowed := true, recurses := true, named := ["encoding/binary.BigEndian", "pub-mailsack/pub/kmsg/inner/kbin.ErrNotEnoughData"], loops := true, apart := false, laid := [("pub-mailsack/pub/kmsg/inner/kbin.ErrNotEnoughData", laid_pub_mailsack_pub_kmsg_inner_kbin_ErrNotEnoughData)], narrowed := true }
def FnDefaultCreateTopicsRequestUptoSaid : Prop := fnDefaultCreateTopicsRequestUptoRow.holds Tryz.pinned (OpenSpec.upto fnDefaultCreateTopicsRequestSpec)

/-- 'laws.FnDefaultShareFetchRequest', WHERE WHAT IT READS IS OF BULK AT MOST 1048576: true; the input reads as it did. -/
def fnDefaultShareFetchRequestUptoRow : OpenClaim := { program := "ytcknmmkgmlkhaaagreatdoor", sum := "1549d3c470a9c8d7bf7b09c35604710fa360812d23aa9b38eeacb2475d1c6795", func := "pub-mailsack/laws.FnDefaultShareFetchRequest", spec := "fnDefaultShareFetchRequest", inPlace := ["internal/reflectlite.ValueOf", "internal/reflectlite.Swapper", "(internal/reflectlite.Value).Len"], unfollowed := true, recurses := true, named := ["encoding/binary.BigEndian", "pub-mailsack/pub/kmsg/inner/kbin.ErrNotEnoughData"], loops := true, apart := false, laid := [("pub-mailsack/pub/kmsg/inner/kbin.ErrNotEnoughData", laid_pub_mailsack_pub_kmsg_inner_kbin_ErrNotEnoughData)], narrowed := true }
def FnDefaultShareFetchRequestUptoSaid : Prop := fnDefaultShareFetchRequestUptoRow.holds Tryz.pinned (OpenSpec.upto fnDefaultShareFetchRequestSpec)

end Rows
end Go.Proofs.YtcknmmkgmlkhaaaGreatDoor
