/-
  NARROWER THAN 'FOR EVERY INPUT', by the rows' own cells (each row's printed sentence says how): FnBehindDescribeTransactionsRequest: loops, laid · FnBehindDeleteShareGroupOffsetsResponse: loops, laid · FnBehindControlledShutdownResponse: loops, laid · FnBehindDescribeUserSCRAMCredentialsResponse: loops, laid · FnBehindIncrementalAlterConfigsRequest: loops, laid · FnBehindAddPartitionsToTxnResponse: loops, laid · FnBehindDeleteACLsResponse: loops, laid · FnBehindDescribeShareGroupOffsetsResponse: loops, laid · FnBehindEndQuorumEpochRequest: loops, laid · FnBehindDescribeQuorumRequest: loops, laid · FnBehindShareGroupDescribeResponse: loops, laid.
  DERIVED. THE GIVEN ROWS OF THIS SEAT. 11 by the template 'for every input the law returns true; each argument reads behind the call as it read before'; 0 by the template 'total and deterministic' (their statements: YthjbggibpkgmpaaGreatDoorTotals.lean).
  GIVEN WITH THE SEED: the statements are not yours to turn. If you find one false, say at which input.
  Laid BY PROGRAM, IN A SANDBOX (cutbox-rows.mjs): the forced cells as the released guide's own fill.sh prints them over the translation 195fa3a202b92abd… (all of the seat's roots in one cut). By AI agents, Wed Nov 11 2026. No macro, syntax, notation, axiom, sorry.
-/
import Derived.Test.YthjbggibpkgmpaaGreatDoorChecked
import GoSem.Claim
import GoSem.ClaimJoined
import GoSem.ClaimMapViews
import Derived.JoinedTies
import Derived.KernelRfl
namespace Go.Proofs.YthjbggibpkgmpaaGreatDoor
/- THE CELL 'sum', in the pinned program and in every row, IS THE sha256 OF THE DUMP (.gsa) THAT YthjbggibpkgmpaaGreatDoorProg.lean LOADS. Nothing in Lean hashes anything: it is a label: what it is worth is what the hold of that sum in a sandbox is worth. -/
noncomputable def Tryz.pinned : Pinned := { name := "ythjbggibpkgmpaagreatdoor", sum := "195fa3a202b92abdef6145f64e4e9cdb2c59881f7991f0e19bc3f3dd02bbe5b0", checked := Tryz.checked }
namespace Rows
def none {H : Type} : Left H := { results := [], args := [] }

/- WHAT THE LISTED PACKAGE-LEVEL VARIABLES READ AS WHEN THE CALL BEGINS. Each datum BY PROGRAM (the guide's laid-datum.mjs) off the statement by which the dump's own 'gosem.cut.vars' lays the variable. In a bare row this is a premise. The card (YthjbggibpkgmpaaGreatDoorCards.lean) ties it to the program's text. -/
def laid_pub_mailsack_pub_kmsg_inner_kbin_ErrNotEnoughData {H : Type} : DataW H := .iface "*errors.errorString" (.ptr (.agg [.lit (.string [114, 101, 115, 112, 111, 110, 115, 101, 32, 100, 105, 100, 32, 110, 111, 116, 32, 99, 111, 110, 116, 97, 105, 110, 32, 101, 110, 111, 117, 103, 104, 32, 100, 97, 116, 97, 32, 116, 111, 32, 98, 101, 32, 118, 97, 108, 105, 100])]))

/-- 'laws.FnBehindDescribeTransactionsRequest': WHATEVER THE INPUT: true; the input reads as it did. -/
def fnBehindDescribeTransactionsRequestSpec : ChangeSpec := { name := "fnBehindDescribeTransactionsRequest", fn := fun _ => fun
  | [d1, d2, d3] => { results := [.lit (.bool true)], args := [d1, d2, d3] }
  | _ => none }
def fnBehindDescribeTransactionsRequestRow : OpenClaim := { program := "ythjbggibpkgmpaagreatdoor", sum := "195fa3a202b92abdef6145f64e4e9cdb2c59881f7991f0e19bc3f3dd02bbe5b0", func := "pub-mailsack/laws.FnBehindDescribeTransactionsRequest", spec := "fnBehindDescribeTransactionsRequest", inPlace := ["internal/reflectlite.ValueOf", "internal/reflectlite.Swapper", "(internal/reflectlite.Value).Len"], unfollowed := true, recurses := true, named := ["encoding/binary.BigEndian", "pub-mailsack/pub/kmsg/inner/kbin.ErrNotEnoughData"], loops := true, apart := false, laid := [("pub-mailsack/pub/kmsg/inner/kbin.ErrNotEnoughData", laid_pub_mailsack_pub_kmsg_inner_kbin_ErrNotEnoughData)] }
def FnBehindDescribeTransactionsRequestSaid : Prop := fnBehindDescribeTransactionsRequestRow.holds Tryz.pinned (OpenSpec.ofChange fnBehindDescribeTransactionsRequestSpec)

/-- ITS FALSE NEIGHBOUR: 'it returns false'. Refute it at one input. -/
def fnBehindDescribeTransactionsRequestWrong : ChangeSpec := { name := "fnBehindDescribeTransactionsRequest", fn := fun _ => fun
  | [d1, d2, d3] => { results := [.lit (.bool false)], args := [d1, d2, d3] }
  | _ => none }
def FnBehindDescribeTransactionsRequestWrongFalsely : Prop := fnBehindDescribeTransactionsRequestRow.holds Tryz.pinned (OpenSpec.ofChange fnBehindDescribeTransactionsRequestWrong)

/-- 'laws.FnBehindDeleteShareGroupOffsetsResponse': WHATEVER THE INPUT: true; the input reads as it did. -/
def fnBehindDeleteShareGroupOffsetsResponseSpec : ChangeSpec := { name := "fnBehindDeleteShareGroupOffsetsResponse", fn := fun _ => fun
  | [d1, d2, d3] => { results := [.lit (.bool true)], args := [d1, d2, d3] }
  | _ => none }
def fnBehindDeleteShareGroupOffsetsResponseRow : OpenClaim := { program := "ythjbggibpkgmpaagreatdoor", sum := "195fa3a202b92abdef6145f64e4e9cdb2c59881f7991f0e19bc3f3dd02bbe5b0", func := "pub-mailsack/laws.FnBehindDeleteShareGroupOffsetsResponse", spec := "fnBehindDeleteShareGroupOffsetsResponse", inPlace := ["internal/reflectlite.ValueOf", "internal/reflectlite.Swapper", "(internal/reflectlite.Value).Len"], unfollowed := true, recurses := true, named := ["encoding/binary.BigEndian", "pub-mailsack/pub/kmsg/inner/kbin.ErrNotEnoughData"], loops := true, apart := false, laid := [("pub-mailsack/pub/kmsg/inner/kbin.ErrNotEnoughData", laid_pub_mailsack_pub_kmsg_inner_kbin_ErrNotEnoughData)] }
def FnBehindDeleteShareGroupOffsetsResponseSaid : Prop := fnBehindDeleteShareGroupOffsetsResponseRow.holds Tryz.pinned (OpenSpec.ofChange fnBehindDeleteShareGroupOffsetsResponseSpec)

/-- ITS FALSE NEIGHBOUR: 'it returns false'. Refute it at one input. -/
def fnBehindDeleteShareGroupOffsetsResponseWrong : ChangeSpec := { name := "fnBehindDeleteShareGroupOffsetsResponse", fn := fun _ => fun
  | [d1, d2, d3] => { results := [.lit (.bool false)], args := [d1, d2, d3] }
  | _ => none }
def FnBehindDeleteShareGroupOffsetsResponseWrongFalsely : Prop := fnBehindDeleteShareGroupOffsetsResponseRow.holds Tryz.pinned (OpenSpec.ofChange fnBehindDeleteShareGroupOffsetsResponseWrong)

/-- 'laws.FnBehindControlledShutdownResponse': WHATEVER THE INPUT: true; the input reads as it did. -/
def fnBehindControlledShutdownResponseSpec : ChangeSpec := { name := "fnBehindControlledShutdownResponse", fn := fun _ => fun
  | [d1, d2, d3] => { results := [.lit (.bool true)], args := [d1, d2, d3] }
  | _ => none }
def fnBehindControlledShutdownResponseRow : OpenClaim := { program := "ythjbggibpkgmpaagreatdoor", sum := "195fa3a202b92abdef6145f64e4e9cdb2c59881f7991f0e19bc3f3dd02bbe5b0", func := "pub-mailsack/laws.FnBehindControlledShutdownResponse", spec := "fnBehindControlledShutdownResponse", inPlace := ["internal/reflectlite.ValueOf", "internal/reflectlite.Swapper", "(internal/reflectlite.Value).Len"], unfollowed := true, recurses := true, named := ["encoding/binary.BigEndian", "pub-mailsack/pub/kmsg/inner/kbin.ErrNotEnoughData"], loops := true, apart := false, laid := [("pub-mailsack/pub/kmsg/inner/kbin.ErrNotEnoughData", laid_pub_mailsack_pub_kmsg_inner_kbin_ErrNotEnoughData)] }
def FnBehindControlledShutdownResponseSaid : Prop := fnBehindControlledShutdownResponseRow.holds Tryz.pinned (OpenSpec.ofChange fnBehindControlledShutdownResponseSpec)

/-- ITS FALSE NEIGHBOUR: 'it returns false'. Refute it at one input. -/
def fnBehindControlledShutdownResponseWrong : ChangeSpec := { name := "fnBehindControlledShutdownResponse", fn := fun _ => fun
  | [d1, d2, d3] => { results := [.lit (.bool false)], args := [d1, d2, d3] }
  | _ => none }
def FnBehindControlledShutdownResponseWrongFalsely : Prop := fnBehindControlledShutdownResponseRow.holds Tryz.pinned (OpenSpec.ofChange fnBehindControlledShutdownResponseWrong)

/-- 'laws.FnBehindDescribeUserSCRAMCredentialsResponse': WHATEVER THE INPUT: true; the input reads as it did. -/
def fnBehindDescribeUserSCRAMCredentialsResponseSpec : ChangeSpec := { name := "fnBehindDescribeUserSCRAMCredentialsResponse", fn := fun _ => fun
  | [d1, d2, d3] => { results := [.lit (.bool true)], args := [d1, d2, d3] }
  | _ => none }
def fnBehindDescribeUserSCRAMCredentialsResponseRow : OpenClaim := { program := "ythjbggibpkgmpaagreatdoor", sum := "195fa3a202b92abdef6145f64e4e9cdb2c59881f7991f0e19bc3f3dd02bbe5b0", func := "pub-mailsack/laws.FnBehindDescribeUserSCRAMCredentialsResponse", spec := "fnBehindDescribeUserSCRAMCredentialsResponse", inPlace := ["internal/reflectlite.ValueOf", "internal/reflectlite.Swapper", "(internal/reflectlite.Value).Len"], unfollowed := true, recurses := true, named := ["encoding/binary.BigEndian", "pub-mailsack/pub/kmsg/inner/kbin.ErrNotEnoughData"], loops := true, apart := false, laid := [("pub-mailsack/pub/kmsg/inner/kbin.ErrNotEnoughData", laid_pub_mailsack_pub_kmsg_inner_kbin_ErrNotEnoughData)] }
def FnBehindDescribeUserSCRAMCredentialsResponseSaid : Prop := fnBehindDescribeUserSCRAMCredentialsResponseRow.holds Tryz.pinned (OpenSpec.ofChange fnBehindDescribeUserSCRAMCredentialsResponseSpec)

/-- ITS FALSE NEIGHBOUR: 'it returns false'. Refute it at one input. -/
def fnBehindDescribeUserSCRAMCredentialsResponseWrong : ChangeSpec := { name := "fnBehindDescribeUserSCRAMCredentialsResponse", fn := fun _ => fun
  | [d1, d2, d3] => { results := [.lit (.bool false)], args := [d1, d2, d3] }
  | _ => none }
def FnBehindDescribeUserSCRAMCredentialsResponseWrongFalsely : Prop := fnBehindDescribeUserSCRAMCredentialsResponseRow.holds Tryz.pinned (OpenSpec.ofChange fnBehindDescribeUserSCRAMCredentialsResponseWrong)

/-- 'laws.FnBehindIncrementalAlterConfigsRequest': WHATEVER THE INPUT: true; the input reads as it did. -/
def fnBehindIncrementalAlterConfigsRequestSpec : ChangeSpec := { name := "fnBehindIncrementalAlterConfigsRequest", fn := fun _ => fun
  | [d1, d2, d3] => { results := [.lit (.bool true)], args := [d1, d2, d3] }
  | _ => none }
def fnBehindIncrementalAlterConfigsRequestRow : OpenClaim := { program := "ythjbggibpkgmpaagreatdoor", sum := "195fa3a202b92abdef6145f64e4e9cdb2c59881f7991f0e19bc3f3dd02bbe5b0", func := "pub-mailsack/laws.FnBehindIncrementalAlterConfigsRequest", spec := "fnBehindIncrementalAlterConfigsRequest", inPlace := ["internal/reflectlite.ValueOf", "internal/reflectlite.Swapper", "(internal/reflectlite.Value).Len"], unfollowed := true, recurses := true, named := ["encoding/binary.BigEndian", "pub-mailsack/pub/kmsg/inner/kbin.ErrNotEnoughData"], loops := true, apart := false, laid := [("pub-mailsack/pub/kmsg/inner/kbin.ErrNotEnoughData", laid_pub_mailsack_pub_kmsg_inner_kbin_ErrNotEnoughData)] }
def FnBehindIncrementalAlterConfigsRequestSaid : Prop := fnBehindIncrementalAlterConfigsRequestRow.holds Tryz.pinned (OpenSpec.ofChange fnBehindIncrementalAlterConfigsRequestSpec)

/-- ITS FALSE NEIGHBOUR: 'it returns false'. Refute it at one input. -/
def fnBehindIncrementalAlterConfigsRequestWrong : ChangeSpec := { name := "fnBehindIncrementalAlterConfigsRequest", fn := fun _ => fun
  | [d1, d2, d3] => { results := [.lit (.bool false)], args := [d1, d2, d3] }
  | _ => none }
def FnBehindIncrementalAlterConfigsRequestWrongFalsely : Prop := fnBehindIncrementalAlterConfigsRequestRow.holds Tryz.pinned (OpenSpec.ofChange fnBehindIncrementalAlterConfigsRequestWrong)

/-- 'laws.FnBehindAddPartitionsToTxnResponse': WHATEVER THE INPUT: true; the input reads as it did. -/
def fnBehindAddPartitionsToTxnResponseSpec : ChangeSpec := { name := "fnBehindAddPartitionsToTxnResponse", fn := fun _ => fun
  | [d1, d2, d3] => { results := [.lit (.bool true)], args := [d1, d2, d3] }
  | _ => none }
def fnBehindAddPartitionsToTxnResponseRow : OpenClaim := { program := "ythjbggibpkgmpaagreatdoor", sum := "195fa3a202b92abdef6145f64e4e9cdb2c59881f7991f0e19bc3f3dd02bbe5b0", func := "pub-mailsack/laws.FnBehindAddPartitionsToTxnResponse", spec := "fnBehindAddPartitionsToTxnResponse", inPlace := ["internal/reflectlite.ValueOf", "internal/reflectlite.Swapper", "(internal/reflectlite.Value).Len"], unfollowed := true, recurses := true, named := ["encoding/binary.BigEndian", "pub-mailsack/pub/kmsg/inner/kbin.ErrNotEnoughData"], loops := true, apart := false, laid := [("pub-mailsack/pub/kmsg/inner/kbin.ErrNotEnoughData", laid_pub_mailsack_pub_kmsg_inner_kbin_ErrNotEnoughData)] }
def FnBehindAddPartitionsToTxnResponseSaid : Prop := fnBehindAddPartitionsToTxnResponseRow.holds Tryz.pinned (OpenSpec.ofChange fnBehindAddPartitionsToTxnResponseSpec)

/-- ITS FALSE NEIGHBOUR: 'it returns false'. Refute it at one input. -/
def fnBehindAddPartitionsToTxnResponseWrong : ChangeSpec := { name := "fnBehindAddPartitionsToTxnResponse", fn := fun _ => fun
  | [d1, d2, d3] => { results := [.lit (.bool false)], args := [d1, d2, d3] }
  | _ => none }
def FnBehindAddPartitionsToTxnResponseWrongFalsely : Prop := fnBehindAddPartitionsToTxnResponseRow.holds Tryz.pinned (OpenSpec.ofChange fnBehindAddPartitionsToTxnResponseWrong)

/-- 'laws.FnBehindDeleteACLsResponse': WHATEVER THE INPUT: true; the input reads as it did. -/
def fnBehindDeleteACLsResponseSpec : ChangeSpec := { name := "fnBehindDeleteACLsResponse", fn := fun _ => fun
  | [d1, d2, d3] => { results := [.lit (.bool true)], args := [d1, d2, d3] }
  | _ => none }
def fnBehindDeleteACLsResponseRow : OpenClaim := { program := "ythjbggibpkgmpaagreatdoor", sum := "195fa3a202b92abdef6145f64e4e9cdb2c59881f7991f0e19bc3f3dd02bbe5b0", func := "pub-mailsack/laws.FnBehindDeleteACLsResponse", spec := "fnBehindDeleteACLsResponse", inPlace := ["internal/reflectlite.ValueOf", "internal/reflectlite.Swapper", "(internal/reflectlite.Value).Len"], unfollowed := true, recurses := true, named := ["encoding/binary.BigEndian", "pub-mailsack/pub/kmsg/inner/kbin.ErrNotEnoughData"], loops := true, apart := false, laid := [("pub-mailsack/pub/kmsg/inner/kbin.ErrNotEnoughData", laid_pub_mailsack_pub_kmsg_inner_kbin_ErrNotEnoughData)] }
def FnBehindDeleteACLsResponseSaid : Prop := fnBehindDeleteACLsResponseRow.holds Tryz.pinned (OpenSpec.ofChange fnBehindDeleteACLsResponseSpec)

/-- ITS FALSE NEIGHBOUR: 'it returns false'. Refute it at one input. -/
def fnBehindDeleteACLsResponseWrong : ChangeSpec := { name := "fnBehindDeleteACLsResponse", fn := fun _ => fun
  | [d1, d2, d3] => { results := [.lit (.bool false)], args := [d1, d2, d3] }
  | _ => none }
def FnBehindDeleteACLsResponseWrongFalsely : Prop := fnBehindDeleteACLsResponseRow.holds Tryz.pinned (OpenSpec.ofChange fnBehindDeleteACLsResponseWrong)

/-- 'laws.FnBehindDescribeShareGroupOffsetsResponse': WHATEVER THE INPUT: true; the input reads as it did. -/
def fnBehindDescribeShareGroupOffsetsResponseSpec : ChangeSpec := { name := "fnBehindDescribeShareGroupOffsetsResponse", fn := fun _ => fun
  | [d1, d2, d3] => { results := [.lit (.bool true)], args := [d1, d2, d3] }
  | _ => none }
def fnBehindDescribeShareGroupOffsetsResponseRow : OpenClaim := { program := "ythjbggibpkgmpaagreatdoor", sum := "195fa3a202b92abdef6145f64e4e9cdb2c59881f7991f0e19bc3f3dd02bbe5b0", func := "pub-mailsack/laws.FnBehindDescribeShareGroupOffsetsResponse", spec := "fnBehindDescribeShareGroupOffsetsResponse", inPlace := ["internal/reflectlite.ValueOf", "internal/reflectlite.Swapper", "(internal/reflectlite.Value).Len"], unfollowed := true, recurses := true, named := ["encoding/binary.BigEndian", "pub-mailsack/pub/kmsg/inner/kbin.ErrNotEnoughData"], loops := true, apart := false, laid := [("pub-mailsack/pub/kmsg/inner/kbin.ErrNotEnoughData", laid_pub_mailsack_pub_kmsg_inner_kbin_ErrNotEnoughData)] }
def FnBehindDescribeShareGroupOffsetsResponseSaid : Prop := fnBehindDescribeShareGroupOffsetsResponseRow.holds Tryz.pinned (OpenSpec.ofChange fnBehindDescribeShareGroupOffsetsResponseSpec)

/-- ITS FALSE NEIGHBOUR: 'it returns false'. Refute it at one input. -/
def fnBehindDescribeShareGroupOffsetsResponseWrong : ChangeSpec := { name := "fnBehindDescribeShareGroupOffsetsResponse", fn := fun _ => fun
  | [d1, d2, d3] => { results := [.lit (.bool false)], args := [d1, d2, d3] }
  | _ => none }
def FnBehindDescribeShareGroupOffsetsResponseWrongFalsely : Prop := fnBehindDescribeShareGroupOffsetsResponseRow.holds Tryz.pinned (OpenSpec.ofChange fnBehindDescribeShareGroupOffsetsResponseWrong)

/-- 'laws.FnBehindEndQuorumEpochRequest': WHATEVER THE INPUT: true; the input reads as it did. -/
def fnBehindEndQuorumEpochRequestSpec : ChangeSpec := { name := "fnBehindEndQuorumEpochRequest", fn := fun _ => fun
  | [d1, d2, d3] => { results := [.lit (.bool true)], args := [d1, d2, d3] }
  | _ => none }
def fnBehindEndQuorumEpochRequestRow : OpenClaim := { program := "ythjbggibpkgmpaagreatdoor", sum := "195fa3a202b92abdef6145f64e4e9cdb2c59881f7991f0e19bc3f3dd02bbe5b0", func := "pub-mailsack/laws.FnBehindEndQuorumEpochRequest", spec := "fnBehindEndQuorumEpochRequest", inPlace := ["internal/reflectlite.ValueOf", "internal/reflectlite.Swapper", "(internal/reflectlite.Value).Len"], unfollowed := true, recurses := true, named := ["encoding/binary.BigEndian", "pub-mailsack/pub/kmsg/inner/kbin.ErrNotEnoughData"], loops := true, apart := false, laid := [("pub-mailsack/pub/kmsg/inner/kbin.ErrNotEnoughData", laid_pub_mailsack_pub_kmsg_inner_kbin_ErrNotEnoughData)] }
def FnBehindEndQuorumEpochRequestSaid : Prop := fnBehindEndQuorumEpochRequestRow.holds Tryz.pinned (OpenSpec.ofChange fnBehindEndQuorumEpochRequestSpec)

/-- ITS FALSE NEIGHBOUR: 'it returns false'. Refute it at one input. -/
def fnBehindEndQuorumEpochRequestWrong : ChangeSpec := { name := "fnBehindEndQuorumEpochRequest", fn := fun _ => fun
  | [d1, d2, d3] => { results := [.lit (.bool false)], args := [d1, d2, d3] }
  | _ => none }
def FnBehindEndQuorumEpochRequestWrongFalsely : Prop := fnBehindEndQuorumEpochRequestRow.holds Tryz.pinned (OpenSpec.ofChange fnBehindEndQuorumEpochRequestWrong)

/-- 'laws.FnBehindDescribeQuorumRequest': WHATEVER THE INPUT: true; the input reads as it did. -/
def fnBehindDescribeQuorumRequestSpec : ChangeSpec := { name := "fnBehindDescribeQuorumRequest", fn := fun _ => fun
  | [d1, d2, d3] => { results := [.lit (.bool true)], args := [d1, d2, d3] }
  | _ => none }
def fnBehindDescribeQuorumRequestRow : OpenClaim := { program := "ythjbggibpkgmpaagreatdoor", sum := "195fa3a202b92abdef6145f64e4e9cdb2c59881f7991f0e19bc3f3dd02bbe5b0", func := "pub-mailsack/laws.FnBehindDescribeQuorumRequest", spec := "fnBehindDescribeQuorumRequest", inPlace := ["internal/reflectlite.ValueOf", "internal/reflectlite.Swapper", "(internal/reflectlite.Value).Len"], unfollowed := true, recurses := true, named := ["encoding/binary.BigEndian", "pub-mailsack/pub/kmsg/inner/kbin.ErrNotEnoughData"], loops := true, apart := false, laid := [("pub-mailsack/pub/kmsg/inner/kbin.ErrNotEnoughData", laid_pub_mailsack_pub_kmsg_inner_kbin_ErrNotEnoughData)] }
def FnBehindDescribeQuorumRequestSaid : Prop := fnBehindDescribeQuorumRequestRow.holds Tryz.pinned (OpenSpec.ofChange fnBehindDescribeQuorumRequestSpec)

/-- ITS FALSE NEIGHBOUR: 'it returns false'. Refute it at one input. -/
def fnBehindDescribeQuorumRequestWrong : ChangeSpec := { name := "fnBehindDescribeQuorumRequest", fn := fun _ => fun
  | [d1, d2, d3] => { results := [.lit (.bool false)], args := [d1, d2, d3] }
  | _ => none }
def FnBehindDescribeQuorumRequestWrongFalsely : Prop := fnBehindDescribeQuorumRequestRow.holds Tryz.pinned (OpenSpec.ofChange fnBehindDescribeQuorumRequestWrong)

/-- 'laws.FnBehindShareGroupDescribeResponse': WHATEVER THE INPUT: true; the input reads as it did. -/
def fnBehindShareGroupDescribeResponseSpec : ChangeSpec := { name := "fnBehindShareGroupDescribeResponse", fn := fun _ => fun
  | [d1, d2, d3] => { results := [.lit (.bool true)], args := [d1, d2, d3] }
  | _ => none }
def fnBehindShareGroupDescribeResponseRow : OpenClaim := { program := "ythjbggibpkgmpaagreatdoor", sum := "195fa3a202b92abdef6145f64e4e9cdb2c59881f7991f0e19bc3f3dd02bbe5b0", func := "pub-mailsack/laws.FnBehindShareGroupDescribeResponse", spec := "fnBehindShareGroupDescribeResponse", inPlace := ["internal/reflectlite.ValueOf", "internal/reflectlite.Swapper", "(internal/reflectlite.Value).Len"], unfollowed := true, recurses := true, named := ["encoding/binary.BigEndian", "pub-mailsack/pub/kmsg/inner/kbin.ErrNotEnoughData"], loops := true, apart := false, laid := [("pub-mailsack/pub/kmsg/inner/kbin.ErrNotEnoughData", laid_pub_mailsack_pub_kmsg_inner_kbin_ErrNotEnoughData)] }
def FnBehindShareGroupDescribeResponseSaid : Prop := fnBehindShareGroupDescribeResponseRow.holds Tryz.pinned (OpenSpec.ofChange fnBehindShareGroupDescribeResponseSpec)

/-- ITS FALSE NEIGHBOUR: 'it returns false'. Refute it at one input. -/
def fnBehindShareGroupDescribeResponseWrong : ChangeSpec := { name := "fnBehindShareGroupDescribeResponse", fn := fun _ => fun
  | [d1, d2, d3] => { results := [.lit (.bool false)], args := [d1, d2, d3] }
  | _ => none }
def FnBehindShareGroupDescribeResponseWrongFalsely : Prop := fnBehindShareGroupDescribeResponseRow.holds Tryz.pinned (OpenSpec.ofChange fnBehindShareGroupDescribeResponseWrong)

/- THE SECOND FORM. 'bulk': how many values and letters a reading holds, each counted each time it is reached (what is shared counts as often as it is met; a slice's spare places count too). A statement '..UptoSaid' is the law's where the arguments, and the package variables that the reading takes, are together of bulk at most 1048576: NARROWER than '..Said'. Prove '..Said' where nothing that the law and all that it calls make is longer than what came in: it says more and counts as full. Else prove '..UptoSaid'. A law counts once. -/
mutual
def uptoBulk {H : Type} : DataW H → Nat
  | .lit (.string bytes) => bytes.length + 1
  | .lit _ => 1
  | .nil => 1
  | .ptr d => uptoBulk d + 1
  | .slice elems spare => uptoBulkAll elems + uptoBulkAll spare + 1
  | .agg parts => uptoBulkAll parts + 1
  | .iface _ d => uptoBulk d + 1
  | .map entries => uptoBulkEntries entries + 1
  | .held _ => 1
def uptoBulkAll {H : Type} : List (DataW H) → Nat
  | [] => 0
  | d :: r => uptoBulk d + uptoBulkAll r
def uptoBulkEntries {H : Type} : List (Lit × DataW H) → Nat
  | [] => 0
  | x :: r => uptoBulkEntry x + uptoBulkEntries r
def uptoBulkEntry {H : Type} : Lit × DataW H → Nat
  | (.string bytes, d) => bytes.length + uptoBulk d + 1
  | (_, d) => uptoBulk d + 1
 end
def uptoSmall : (H : Type) → List (DataW H) → Bool := fun _ ds => decide (uptoBulkAll ds ≤ 1048576)
def OpenSpec.upto (s : _root_.Go.ChangeSpec) : _root_.Go.OpenSpec := { _root_.Go.OpenSpec.ofChange s with cond := some uptoSmall }

/-- 'laws.FnBehindDescribeTransactionsRequest', WHERE WHAT IT READS IS OF BULK AT MOST 1048576: true; the input reads as it did. -/
def fnBehindDescribeTransactionsRequestUptoRow : OpenClaim := { program := "ythjbggibpkgmpaagreatdoor", sum := "195fa3a202b92abdef6145f64e4e9cdb2c59881f7991f0e19bc3f3dd02bbe5b0", func := "pub-mailsack/laws.FnBehindDescribeTransactionsRequest", spec := "fnBehindDescribeTransactionsRequest", inPlace := ["internal/reflectlite.ValueOf", "internal/reflectlite.Swapper", "(internal/reflectlite.Value).Len"], unfollowed := true, recurses := true, named := ["encoding/binary.BigEndian", "pub-mailsack/pub/kmsg/inner/kbin.ErrNotEnoughData"], loops := true, apart := false, laid := [("pub-mailsack/pub/kmsg/inner/kbin.ErrNotEnoughData", laid_pub_mailsack_pub_kmsg_inner_kbin_ErrNotEnoughData)], narrowed := true }
def FnBehindDescribeTransactionsRequestUptoSaid : Prop := fnBehindDescribeTransactionsRequestUptoRow.holds Tryz.pinned (OpenSpec.upto fnBehindDescribeTransactionsRequestSpec)

/-- 'laws.FnBehindDeleteShareGroupOffsetsResponse', WHERE WHAT IT READS IS OF BULK AT MOST 1048576: true; the input reads as it did. -/
def fnBehindDeleteShareGroupOffsetsResponseUptoRow : OpenClaim := { program := "ythjbggibpkgmpaagreatdoor", sum := "195fa3a202b92abdef6145f64e4e9cdb2c59881f7991f0e19bc3f3dd02bbe5b0", func := "pub-mailsack/laws.FnBehindDeleteShareGroupOffsetsResponse", spec := "fnBehindDeleteShareGroupOffsetsResponse", inPlace := ["internal/reflectlite.ValueOf", "internal/reflectlite.Swapper", "(internal/reflectlite.Value).Len"], unfollowed := true, recurses := true, named := ["encoding/binary.BigEndian", "pub-mailsack/pub/kmsg/inner/kbin.ErrNotEnoughData"], loops := true, apart := false, laid := [("pub-mailsack/pub/kmsg/inner/kbin.ErrNotEnoughData", laid_pub_mailsack_pub_kmsg_inner_kbin_ErrNotEnoughData)], narrowed := true }
def FnBehindDeleteShareGroupOffsetsResponseUptoSaid : Prop := fnBehindDeleteShareGroupOffsetsResponseUptoRow.holds Tryz.pinned (OpenSpec.upto fnBehindDeleteShareGroupOffsetsResponseSpec)

/-- 'laws.FnBehindControlledShutdownResponse', WHERE WHAT IT READS IS OF BULK AT MOST 1048576: true; the input reads as it did. -/
def fnBehindControlledShutdownResponseUptoRow : OpenClaim := { program := "ythjbggibpkgmpaagreatdoor", sum := "195fa3a202b92abdef6145f64e4e9cdb2c59881f7991f0e19bc3f3dd02bbe5b0", func := "pub-mailsack/laws.FnBehindControlledShutdownResponse", spec := "fnBehindControlledShutdownResponse", inPlace := ["internal/reflectlite.ValueOf", "internal/reflectlite.Swapper", "(internal/reflectlite.Value).Len"], unfollowed := true, recurses := true, named := ["encoding/binary.BigEndian", "pub-mailsack/pub/kmsg/inner/kbin.ErrNotEnoughData"], loops := true, apart := false, laid := [("pub-mailsack/pub/kmsg/inner/kbin.ErrNotEnoughData", laid_pub_mailsack_pub_kmsg_inner_kbin_ErrNotEnoughData)], narrowed := true }
def FnBehindControlledShutdownResponseUptoSaid : Prop := fnBehindControlledShutdownResponseUptoRow.holds Tryz.pinned (OpenSpec.upto fnBehindControlledShutdownResponseSpec)

/-- 'laws.FnBehindDescribeUserSCRAMCredentialsResponse', WHERE WHAT IT READS IS OF BULK AT MOST 1048576: true; the input reads as it did. -/
def fnBehindDescribeUserSCRAMCredentialsResponseUptoRow : OpenClaim := { program := "ythjbggibpkgmpaagreatdoor", sum := "195fa3a202b92abdef6145f64e4e9cdb2c59881f7991f0e19bc3f3dd02bbe5b0", func := "pub-mailsack/laws.FnBehindDescribeUserSCRAMCredentialsResponse", spec := "fnBehindDescribeUserSCRAMCredentialsResponse", inPlace := ["internal/reflectlite.ValueOf", "internal/reflectlite.Swapper", "(internal/reflectlite.Value).Len"], unfollowed := true, recurses := true, named := ["encoding/binary.BigEndian", "pub-mailsack/pub/kmsg/inner/kbin.ErrNotEnoughData"], loops := true, apart := false, laid := [("pub-mailsack/pub/kmsg/inner/kbin.ErrNotEnoughData", laid_pub_mailsack_pub_kmsg_inner_kbin_ErrNotEnoughData)], narrowed := true }
def FnBehindDescribeUserSCRAMCredentialsResponseUptoSaid : Prop := fnBehindDescribeUserSCRAMCredentialsResponseUptoRow.holds Tryz.pinned (OpenSpec.upto fnBehindDescribeUserSCRAMCredentialsResponseSpec)

/-- 'laws.FnBehindIncrementalAlterConfigsRequest', WHERE WHAT IT READS IS OF BULK AT MOST 1048576: true; the input reads as it did. -/
def fnBehindIncrementalAlterConfigsRequestUptoRow : OpenClaim := { program := "ythjbggibpkgmpaagreatdoor", sum := "195fa3a202b92abdef6145f64e4e9cdb2c59881f7991f0e19bc3f3dd02bbe5b0", func := "pub-mailsack/laws.FnBehindIncrementalAlterConfigsRequest", spec := "fnBehindIncrementalAlterConfigsRequest", inPlace := ["internal/reflectlite.ValueOf", "internal/reflectlite.Swapper", "(internal/reflectlite.Value).Len"], unfollowed := true, recurses := true, named := ["encoding/binary.BigEndian", "pub-mailsack/pub/kmsg/inner/kbin.ErrNotEnoughData"], loops := true, apart := false, laid := [("pub-mailsack/pub/kmsg/inner/kbin.ErrNotEnoughData", laid_pub_mailsack_pub_kmsg_inner_kbin_ErrNotEnoughData)], narrowed := true }
def FnBehindIncrementalAlterConfigsRequestUptoSaid : Prop := fnBehindIncrementalAlterConfigsRequestUptoRow.holds Tryz.pinned (OpenSpec.upto fnBehindIncrementalAlterConfigsRequestSpec)

/-- 'laws.FnBehindAddPartitionsToTxnResponse', WHERE WHAT IT READS IS OF BULK AT MOST 1048576: true; the input reads as it did. -/
def fnBehindAddPartitionsToTxnResponseUptoRow : OpenClaim := { program := "ythjbggibpkgmpaagreatdoor", sum := "195fa3a202b92abdef6145f64e4e9cdb2c59881f7991f0e19bc3f3dd02bbe5b0", func := "pub-mailsack/laws.FnBehindAddPartitionsToTxnResponse", spec := "fnBehindAddPartitionsToTxnResponse", inPlace := ["internal/reflectlite.ValueOf", "internal/reflectlite.Swapper", "(internal/reflectlite.Value).Len"], unfollowed := true, recurses := true, named := ["encoding/binary.BigEndian", "pub-mailsack/pub/kmsg/inner/kbin.ErrNotEnoughData"], loops := true, apart := false, laid := [("pub-mailsack/pub/kmsg/inner/kbin.ErrNotEnoughData", laid_pub_mailsack_pub_kmsg_inner_kbin_ErrNotEnoughData)], narrowed := true }
def FnBehindAddPartitionsToTxnResponseUptoSaid : Prop := fnBehindAddPartitionsToTxnResponseUptoRow.holds Tryz.pinned (OpenSpec.upto fnBehindAddPartitionsToTxnResponseSpec)

/-- 'laws.FnBehindDeleteACLsResponse', WHERE WHAT IT READS IS OF BULK AT MOST 1048576: true; the input reads as it did. -/
def fnBehindDeleteACLsResponseUptoRow : OpenClaim := { program := "ythjbggibpkgmpaagreatdoor", sum := "195fa3a202b92abdef6145f64e4e9cdb2c59881f7991f0e19bc3f3dd02bbe5b0", func := "pub-mailsack/laws.FnBehindDeleteACLsResponse", spec := "fnBehindDeleteACLsResponse", inPlace := ["internal/reflectlite.ValueOf", "internal/reflectlite.Swapper", "(internal/reflectlite.Value).Len"], unfollowed := true, recurses := true, named := ["encoding/binary.BigEndian", "pub-mailsack/pub/kmsg/inner/kbin.ErrNotEnoughData"], loops := true, apart := false, laid := [("pub-mailsack/pub/kmsg/inner/kbin.ErrNotEnoughData", laid_pub_mailsack_pub_kmsg_inner_kbin_ErrNotEnoughData)], narrowed := true }
def FnBehindDeleteACLsResponseUptoSaid : Prop := fnBehindDeleteACLsResponseUptoRow.holds Tryz.pinned (OpenSpec.upto fnBehindDeleteACLsResponseSpec)

/-- 'laws.FnBehindDescribeShareGroupOffsetsResponse', WHERE WHAT IT READS IS OF BULK AT MOST 1048576: true; the input reads as it did. -/
def fnBehindDescribeShareGroupOffsetsResponseUptoRow : OpenClaim := { program := "ythjbggibpkgmpaagreatdoor", sum := "195fa3a202b92abdef6145f64e4e9cdb2c59881f7991f0e19bc3f3dd02bbe5b0", func := "pub-mailsack/laws.FnBehindDescribeShareGroupOffsetsResponse", spec := "fnBehindDescribeShareGroupOffsetsResponse", inPlace := ["internal/reflectlite.ValueOf", "internal/reflectlite.Swapper", "(internal/reflectlite.Value).Len"], unfollowed := true, recurses := true, named := ["encoding/binary.BigEndian", "pub-mailsack/pub/kmsg/inner/kbin.ErrNotEnoughData"], loops := true, apart := false, laid := [("pub-mailsack/pub/kmsg/inner/kbin.ErrNotEnoughData", laid_pub_mailsack_pub_kmsg_inner_kbin_ErrNotEnoughData)], narrowed := true }
def FnBehindDescribeShareGroupOffsetsResponseUptoSaid : Prop := fnBehindDescribeShareGroupOffsetsResponseUptoRow.holds Tryz.pinned (OpenSpec.upto fnBehindDescribeShareGroupOffsetsResponseSpec)

/-- 'laws.FnBehindEndQuorumEpochRequest', WHERE WHAT IT READS IS OF BULK AT MOST 1048576: true; the input reads as it did. -/
def fnBehindEndQuorumEpochRequestUptoRow : OpenClaim := { program := "ythjbggibpkgmpaagreatdoor", sum := "195fa3a202b92abdef6145f64e4e9cdb2c59881f7991f0e19bc3f3dd02bbe5b0", func := "pub-mailsack/laws.FnBehindEndQuorumEpochRequest", spec := "fnBehindEndQuorumEpochRequest", inPlace := ["internal/reflectlite.ValueOf", "internal/reflectlite.Swapper", "(internal/reflectlite.Value).Len"], unfollowed := true, recurses := true, named := ["encoding/binary.BigEndian", "pub-mailsack/pub/kmsg/inner/kbin.ErrNotEnoughData"], loops := true, apart := false, laid := [("pub-mailsack/pub/kmsg/inner/kbin.ErrNotEnoughData", laid_pub_mailsack_pub_kmsg_inner_kbin_ErrNotEnoughData)], narrowed := true }
def FnBehindEndQuorumEpochRequestUptoSaid : Prop := fnBehindEndQuorumEpochRequestUptoRow.holds Tryz.pinned (OpenSpec.upto fnBehindEndQuorumEpochRequestSpec)

/-- 'laws.FnBehindDescribeQuorumRequest', WHERE WHAT IT READS IS OF BULK AT MOST 1048576: true; the input reads as it did. -/
def fnBehindDescribeQuorumRequestUptoRow : OpenClaim := { program := "ythjbggibpkgmpaagreatdoor", sum := "195fa3a202b92abdef6145f64e4e9cdb2c59881f7991f0e19bc3f3dd02bbe5b0", func := "pub-mailsack/laws.FnBehindDescribeQuorumRequest", spec := "fnBehindDescribeQuorumRequest", inPlace := ["internal/reflectlite.ValueOf", "internal/reflectlite.Swapper", "(internal/reflectlite.Value).Len"], unfollowed := true, recurses := true, named := ["encoding/binary.BigEndian", "pub-mailsack/pub/kmsg/inner/kbin.ErrNotEnoughData"], loops := true, apart := false, laid := [("pub-mailsack/pub/kmsg/inner/kbin.ErrNotEnoughData", laid_pub_mailsack_pub_kmsg_inner_kbin_ErrNotEnoughData)], narrowed := true }
def FnBehindDescribeQuorumRequestUptoSaid : Prop := fnBehindDescribeQuorumRequestUptoRow.holds Tryz.pinned (OpenSpec.upto fnBehindDescribeQuorumRequestSpec)

/-- 'laws.FnBehindShareGroupDescribeResponse', WHERE WHAT IT READS IS OF BULK AT MOST 1048576: true; the input reads as it did. -/
def fnBehindShareGroupDescribeResponseUptoRow : OpenClaim := { program := "ythjbggibpkgmpaagreatdoor", sum := "195fa3a202b92abdef6145f64e4e9cdb2c59881f7991f0e19bc3f3dd02bbe5b0", func := "pub-mailsack/laws.FnBehindShareGroupDescribeResponse", spec := "fnBehindShareGroupDescribeResponse", inPlace := ["internal/reflectlite.ValueOf", "internal/reflectlite.Swapper", "(internal/reflectlite.Value).Len"], unfollowed := true, recurses := true, named := ["encoding/binary.BigEndian", "pub-mailsack/pub/kmsg/inner/kbin.ErrNotEnoughData"], loops := true, apart := false, laid := [("pub-mailsack/pub/kmsg/inner/kbin.ErrNotEnoughData", laid_pub_mailsack_pub_kmsg_inner_kbin_ErrNotEnoughData)], narrowed := true }
def FnBehindShareGroupDescribeResponseUptoSaid : Prop := fnBehindShareGroupDescribeResponseUptoRow.holds Tryz.pinned (OpenSpec.upto fnBehindShareGroupDescribeResponseSpec)

end Rows
end Go.Proofs.YthjbggibpkgmpaaGreatDoor
