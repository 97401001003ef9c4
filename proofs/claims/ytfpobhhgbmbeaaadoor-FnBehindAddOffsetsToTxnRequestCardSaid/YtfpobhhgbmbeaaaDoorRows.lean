/-
  NARROWER THAN 'FOR EVERY INPUT', by the rows' own cells (each row's printed sentence says how): FnBehindSASLHandshakeResponse: loops, laid · FnBehindDescribeClusterRequest: loops, laid · FnBehindAllocateProducerIDsRequest: loops, laid · FnBehindSASLAuthenticateRequest: loops, laid · FnBehindExpireDelegationTokenRequest: loops, laid · FnBehindEndTxnResponse: loops, laid · FnBehindAddOffsetsToTxnRequest: loops, laid.
  DERIVED. THE GIVEN ROWS OF THIS SEAT. 7 by the template 'for every input the law returns true; each argument reads behind the call as it read before'; 0 by the template 'total and deterministic' (their statements: YtfpobhhgbmbeaaaDoorTotals.lean).
  GIVEN WITH THE SEED: the statements are not yours to turn. If you find one false, say at which input.
  Laid BY PROGRAM, IN A SANDBOX (cutbox-rows.mjs): the forced cells as the released guide's own fill.sh prints them over the translation d7c33c8552d6033c… (all of the seat's roots in one cut). By AI agents, Wed Nov 11 2026. No macro, syntax, notation, axiom, sorry.
-/
import Derived.Test.YtfpobhhgbmbeaaaDoorChecked
import GoSem.Claim
import GoSem.ClaimJoined
import GoSem.ClaimMapViews
import Derived.JoinedTies
import Derived.KernelRfl
namespace Go.Proofs.YtfpobhhgbmbeaaaDoor
/- THE CELL 'sum', in the pinned program and in every row, IS THE sha256 OF THE DUMP (.gsa) THAT YtfpobhhgbmbeaaaDoorProg.lean LOADS. Nothing in Lean hashes anything: it is a label: what it is worth is what the hold of that sum in a sandbox is worth. -/
noncomputable def Tryd.pinned : Pinned := { name := "ytfpobhhgbmbeaaadoor", sum := "d7c33c8552d6033c6b475567aeaa998e7de60db752e52ffa932e892385e4a985", checked := Tryd.checked }
namespace Rows
def none {H : Type} : Left H := { results := [], args := [] }

/- WHAT THE LISTED PACKAGE-LEVEL VARIABLES READ AS WHEN THE CALL BEGINS. Each datum BY PROGRAM (the guide's laid-datum.mjs) off the statement by which the dump's own 'gosem.cut.vars' lays the variable. In a bare row this is a premise. The card (YtfpobhhgbmbeaaaDoorCards.lean) ties it to the program's text. -/
def laid_pub_mailsack_pub_kmsg_inner_kbin_ErrNotEnoughData {H : Type} : DataW H := .iface "*errors.errorString" (.ptr (.agg [.lit (.string [114, 101, 115, 112, 111, 110, 115, 101, 32, 100, 105, 100, 32, 110, 111, 116, 32, 99, 111, 110, 116, 97, 105, 110, 32, 101, 110, 111, 117, 103, 104, 32, 100, 97, 116, 97, 32, 116, 111, 32, 98, 101, 32, 118, 97, 108, 105, 100])]))

/-- 'laws.FnBehindSASLHandshakeResponse': WHATEVER THE INPUT: true; the input reads as it did. -/
def fnBehindSASLHandshakeResponseSpec : ChangeSpec := { name := "fnBehindSASLHandshakeResponse", fn := fun _ => fun
  | [d1, d2, d3] => { results := [.lit (.bool true)], args := [d1, d2, d3] }
  | _ => none }
def fnBehindSASLHandshakeResponseRow : OpenClaim := { program := "ytfpobhhgbmbeaaadoor", sum := "d7c33c8552d6033c6b475567aeaa998e7de60db752e52ffa932e892385e4a985", func := "pub-mailsack/laws.FnBehindSASLHandshakeResponse", spec := "fnBehindSASLHandshakeResponse", recurses := true, named := ["encoding/binary.BigEndian", "pub-mailsack/pub/kmsg/inner/kbin.ErrNotEnoughData"], loops := true, apart := false, laid := [("pub-mailsack/pub/kmsg/inner/kbin.ErrNotEnoughData", laid_pub_mailsack_pub_kmsg_inner_kbin_ErrNotEnoughData)] }
def FnBehindSASLHandshakeResponseSaid : Prop := fnBehindSASLHandshakeResponseRow.holds Tryd.pinned (OpenSpec.ofChange fnBehindSASLHandshakeResponseSpec)

/-- ITS FALSE NEIGHBOUR: 'it returns false'. Refute it at one input. -/
def fnBehindSASLHandshakeResponseWrong : ChangeSpec := { name := "fnBehindSASLHandshakeResponse", fn := fun _ => fun
  | [d1, d2, d3] => { results := [.lit (.bool false)], args := [d1, d2, d3] }
  | _ => none }
def FnBehindSASLHandshakeResponseWrongFalsely : Prop := fnBehindSASLHandshakeResponseRow.holds Tryd.pinned (OpenSpec.ofChange fnBehindSASLHandshakeResponseWrong)

/-- 'laws.FnBehindDescribeClusterRequest': WHATEVER THE INPUT: true; the input reads as it did. -/
def fnBehindDescribeClusterRequestSpec : ChangeSpec := { name := "fnBehindDescribeClusterRequest", fn := fun _ => fun
  | [d1, d2, d3] => { results := [.lit (.bool true)], args := [d1, d2, d3] }
  | _ => none }
def fnBehindDescribeClusterRequestRow : OpenClaim := { program := "ytfpobhhgbmbeaaadoor", sum := "d7c33c8552d6033c6b475567aeaa998e7de60db752e52ffa932e892385e4a985", func := "pub-mailsack/laws.FnBehindDescribeClusterRequest", spec := "fnBehindDescribeClusterRequest", inPlace := ["internal/reflectlite.ValueOf", "internal/reflectlite.Swapper", "(internal/reflectlite.Value).Len"], unfollowed := true, recurses := true, named := ["pub-mailsack/pub/kmsg/inner/kbin.ErrNotEnoughData"], loops := true, apart := false, laid := [("pub-mailsack/pub/kmsg/inner/kbin.ErrNotEnoughData", laid_pub_mailsack_pub_kmsg_inner_kbin_ErrNotEnoughData)] }
def FnBehindDescribeClusterRequestSaid : Prop := fnBehindDescribeClusterRequestRow.holds Tryd.pinned (OpenSpec.ofChange fnBehindDescribeClusterRequestSpec)

/-- ITS FALSE NEIGHBOUR: 'it returns false'. Refute it at one input. -/
def fnBehindDescribeClusterRequestWrong : ChangeSpec := { name := "fnBehindDescribeClusterRequest", fn := fun _ => fun
  | [d1, d2, d3] => { results := [.lit (.bool false)], args := [d1, d2, d3] }
  | _ => none }
def FnBehindDescribeClusterRequestWrongFalsely : Prop := fnBehindDescribeClusterRequestRow.holds Tryd.pinned (OpenSpec.ofChange fnBehindDescribeClusterRequestWrong)

/-- 'laws.FnBehindAllocateProducerIDsRequest': WHATEVER THE INPUT: true; the input reads as it did. -/
def fnBehindAllocateProducerIDsRequestSpec : ChangeSpec := { name := "fnBehindAllocateProducerIDsRequest", fn := fun _ => fun
  | [d1, d2, d3] => { results := [.lit (.bool true)], args := [d1, d2, d3] }
  | _ => none }
def fnBehindAllocateProducerIDsRequestRow : OpenClaim := { program := "ytfpobhhgbmbeaaadoor", sum := "d7c33c8552d6033c6b475567aeaa998e7de60db752e52ffa932e892385e4a985", func := "pub-mailsack/laws.FnBehindAllocateProducerIDsRequest", spec := "fnBehindAllocateProducerIDsRequest", inPlace := ["internal/reflectlite.ValueOf", "internal/reflectlite.Swapper", "(internal/reflectlite.Value).Len"], unfollowed := true, recurses := true, named := ["encoding/binary.BigEndian", "pub-mailsack/pub/kmsg/inner/kbin.ErrNotEnoughData"], loops := true, apart := false, laid := [("pub-mailsack/pub/kmsg/inner/kbin.ErrNotEnoughData", laid_pub_mailsack_pub_kmsg_inner_kbin_ErrNotEnoughData)] }
def FnBehindAllocateProducerIDsRequestSaid : Prop := fnBehindAllocateProducerIDsRequestRow.holds Tryd.pinned (OpenSpec.ofChange fnBehindAllocateProducerIDsRequestSpec)

/-- ITS FALSE NEIGHBOUR: 'it returns false'. Refute it at one input. -/
def fnBehindAllocateProducerIDsRequestWrong : ChangeSpec := { name := "fnBehindAllocateProducerIDsRequest", fn := fun _ => fun
  | [d1, d2, d3] => { results := [.lit (.bool false)], args := [d1, d2, d3] }
  | _ => none }
def FnBehindAllocateProducerIDsRequestWrongFalsely : Prop := fnBehindAllocateProducerIDsRequestRow.holds Tryd.pinned (OpenSpec.ofChange fnBehindAllocateProducerIDsRequestWrong)

/-- 'laws.FnBehindSASLAuthenticateRequest': WHATEVER THE INPUT: true; the input reads as it did. -/
def fnBehindSASLAuthenticateRequestSpec : ChangeSpec := { name := "fnBehindSASLAuthenticateRequest", fn := fun _ => fun
  | [d1, d2, d3] => { results := [.lit (.bool true)], args := [d1, d2, d3] }
  | _ => none }
def fnBehindSASLAuthenticateRequestRow : OpenClaim := { program := "ytfpobhhgbmbeaaadoor", sum := "d7c33c8552d6033c6b475567aeaa998e7de60db752e52ffa932e892385e4a985", func := "pub-mailsack/laws.FnBehindSASLAuthenticateRequest", spec := "fnBehindSASLAuthenticateRequest", inPlace := ["internal/reflectlite.ValueOf", "internal/reflectlite.Swapper", "(internal/reflectlite.Value).Len"], unfollowed := true, recurses := true, named := ["encoding/binary.BigEndian", "pub-mailsack/pub/kmsg/inner/kbin.ErrNotEnoughData"], loops := true, apart := false, laid := [("pub-mailsack/pub/kmsg/inner/kbin.ErrNotEnoughData", laid_pub_mailsack_pub_kmsg_inner_kbin_ErrNotEnoughData)] }
def FnBehindSASLAuthenticateRequestSaid : Prop := fnBehindSASLAuthenticateRequestRow.holds Tryd.pinned (OpenSpec.ofChange fnBehindSASLAuthenticateRequestSpec)

/-- ITS FALSE NEIGHBOUR: 'it returns false'. Refute it at one input. -/
def fnBehindSASLAuthenticateRequestWrong : ChangeSpec := { name := "fnBehindSASLAuthenticateRequest", fn := fun _ => fun
  | [d1, d2, d3] => { results := [.lit (.bool false)], args := [d1, d2, d3] }
  | _ => none }
def FnBehindSASLAuthenticateRequestWrongFalsely : Prop := fnBehindSASLAuthenticateRequestRow.holds Tryd.pinned (OpenSpec.ofChange fnBehindSASLAuthenticateRequestWrong)

/-- 'laws.FnBehindExpireDelegationTokenRequest': WHATEVER THE INPUT: true; the input reads as it did. -/
def fnBehindExpireDelegationTokenRequestSpec : ChangeSpec := { name := "fnBehindExpireDelegationTokenRequest", fn := fun _ => fun
  | [d1, d2, d3] => { results := [.lit (.bool true)], args := [d1, d2, d3] }
  | _ => none }
def fnBehindExpireDelegationTokenRequestRow : OpenClaim := { program := "ytfpobhhgbmbeaaadoor", sum := "d7c33c8552d6033c6b475567aeaa998e7de60db752e52ffa932e892385e4a985", func := "pub-mailsack/laws.FnBehindExpireDelegationTokenRequest", spec := "fnBehindExpireDelegationTokenRequest", inPlace := ["internal/reflectlite.ValueOf", "internal/reflectlite.Swapper", "(internal/reflectlite.Value).Len"], unfollowed := true, recurses := true, named := ["encoding/binary.BigEndian", "pub-mailsack/pub/kmsg/inner/kbin.ErrNotEnoughData"], loops := true, apart := false, laid := [("pub-mailsack/pub/kmsg/inner/kbin.ErrNotEnoughData", laid_pub_mailsack_pub_kmsg_inner_kbin_ErrNotEnoughData)] }
def FnBehindExpireDelegationTokenRequestSaid : Prop := fnBehindExpireDelegationTokenRequestRow.holds Tryd.pinned (OpenSpec.ofChange fnBehindExpireDelegationTokenRequestSpec)

/-- ITS FALSE NEIGHBOUR: 'it returns false'. Refute it at one input. -/
def fnBehindExpireDelegationTokenRequestWrong : ChangeSpec := { name := "fnBehindExpireDelegationTokenRequest", fn := fun _ => fun
  | [d1, d2, d3] => { results := [.lit (.bool false)], args := [d1, d2, d3] }
  | _ => none }
def FnBehindExpireDelegationTokenRequestWrongFalsely : Prop := fnBehindExpireDelegationTokenRequestRow.holds Tryd.pinned (OpenSpec.ofChange fnBehindExpireDelegationTokenRequestWrong)

/-- 'laws.FnBehindEndTxnResponse': WHATEVER THE INPUT: true; the input reads as it did. -/
def fnBehindEndTxnResponseSpec : ChangeSpec := { name := "fnBehindEndTxnResponse", fn := fun _ => fun
  | [d1, d2, d3] => { results := [.lit (.bool true)], args := [d1, d2, d3] }
  | _ => none }
def fnBehindEndTxnResponseRow : OpenClaim := { program := "ytfpobhhgbmbeaaadoor", sum := "d7c33c8552d6033c6b475567aeaa998e7de60db752e52ffa932e892385e4a985", func := "pub-mailsack/laws.FnBehindEndTxnResponse", spec := "fnBehindEndTxnResponse", inPlace := ["internal/reflectlite.ValueOf", "internal/reflectlite.Swapper", "(internal/reflectlite.Value).Len"], unfollowed := true, recurses := true, named := ["encoding/binary.BigEndian", "pub-mailsack/pub/kmsg/inner/kbin.ErrNotEnoughData"], loops := true, apart := false, laid := [("pub-mailsack/pub/kmsg/inner/kbin.ErrNotEnoughData", laid_pub_mailsack_pub_kmsg_inner_kbin_ErrNotEnoughData)] }
def FnBehindEndTxnResponseSaid : Prop := fnBehindEndTxnResponseRow.holds Tryd.pinned (OpenSpec.ofChange fnBehindEndTxnResponseSpec)

/-- ITS FALSE NEIGHBOUR: 'it returns false'. Refute it at one input. -/
def fnBehindEndTxnResponseWrong : ChangeSpec := { name := "fnBehindEndTxnResponse", fn := fun _ => fun
  | [d1, d2, d3] => { results := [.lit (.bool false)], args := [d1, d2, d3] }
  | _ => none }
def FnBehindEndTxnResponseWrongFalsely : Prop := fnBehindEndTxnResponseRow.holds Tryd.pinned (OpenSpec.ofChange fnBehindEndTxnResponseWrong)

/-- 'laws.FnBehindAddOffsetsToTxnRequest': WHATEVER THE INPUT: true; the input reads as it did. -/
def fnBehindAddOffsetsToTxnRequestSpec : ChangeSpec := { name := "fnBehindAddOffsetsToTxnRequest", fn := fun _ => fun
  | [d1, d2, d3] => { results := [.lit (.bool true)], args := [d1, d2, d3] }
  | _ => none }
def fnBehindAddOffsetsToTxnRequestRow : OpenClaim := { program := "ytfpobhhgbmbeaaadoor", sum := "d7c33c8552d6033c6b475567aeaa998e7de60db752e52ffa932e892385e4a985", func := "pub-mailsack/laws.FnBehindAddOffsetsToTxnRequest", spec := "fnBehindAddOffsetsToTxnRequest", inPlace := ["internal/reflectlite.ValueOf", "internal/reflectlite.Swapper", "(internal/reflectlite.Value).Len"], unfollowed := true, recurses := true, named := ["encoding/binary.BigEndian", "pub-mailsack/pub/kmsg/inner/kbin.ErrNotEnoughData"], loops := true, apart := false, laid := [("pub-mailsack/pub/kmsg/inner/kbin.ErrNotEnoughData", laid_pub_mailsack_pub_kmsg_inner_kbin_ErrNotEnoughData)] }
def FnBehindAddOffsetsToTxnRequestSaid : Prop := fnBehindAddOffsetsToTxnRequestRow.holds Tryd.pinned (OpenSpec.ofChange fnBehindAddOffsetsToTxnRequestSpec)

/-- ITS FALSE NEIGHBOUR: 'it returns false'. Refute it at one input. -/
def fnBehindAddOffsetsToTxnRequestWrong : ChangeSpec := { name := "fnBehindAddOffsetsToTxnRequest", fn := fun _ => fun
  | [d1, d2, d3] => { results := [.lit (.bool false)], args := [d1, d2, d3] }
  | _ => none }
def FnBehindAddOffsetsToTxnRequestWrongFalsely : Prop := fnBehindAddOffsetsToTxnRequestRow.holds Tryd.pinned (OpenSpec.ofChange fnBehindAddOffsetsToTxnRequestWrong)

/- THE SECOND FORM. 'bulk': how many values and letters a reading holds, each counted each time it is reached (what is shared counts as often as it is met; a slice's spare places count too). A statement '..UptoSaid' is the law's where the arguments, and the package variables that the reading takes, are together of bulk at most 1048576: NARROWER than '..Said'. Prove '..Said' where nothing that the law and all that it calls make is longer than what came in: it says more and counts as full. Else prove '..UptoSaid'. A law counts once. -/
mutual
def uptoBulk {H : Type} : DataW H → Nat
  | .lit (.string bytes) => bytes.length + 1
  | .lit _ => 1
  | .nil => 1
  | .ptr d => uptoBulk d + 1
  | .slice elems spare => uptoBulkAll elems + uptoBulkAll spare + 1
  | .agg parts => uptoBulkAll parts + 1
  | .iface _ d => uptoBulk d + 1
  | .map entries => uptoBulkEntries entries + 1
  | .held _ => 1
def uptoBulkAll {H : Type} : List (DataW H) → Nat
  | [] => 0
  | d :: r => uptoBulk d + uptoBulkAll r
def uptoBulkEntries {H : Type} : List (Lit × DataW H) → Nat
  | [] => 0
  | x :: r => uptoBulkEntry x + uptoBulkEntries r
def uptoBulkEntry {H : Type} : Lit × DataW H → Nat
  | (.string bytes, d) => bytes.length + uptoBulk d + 1
  | (_, d) => uptoBulk d + 1
 end
def uptoSmall : (H : Type) → List (DataW H) → Bool := fun _ ds => decide (uptoBulkAll ds ≤ 1048576)
def OpenSpec.upto (s : _root_.Go.ChangeSpec) : _root_.Go.OpenSpec := { _root_.Go.OpenSpec.ofChange s with cond := some uptoSmall }

/-- 'laws.FnBehindSASLHandshakeResponse', WHERE WHAT IT READS IS OF BULK AT MOST 1048576: true; the input reads as it did. -/
def fnBehindSASLHandshakeResponseUptoRow : OpenClaim := { program := "ytfpobhhgbmbeaaadoor", sum := "d7c33c8552d6033c6b475567aeaa998e7de60db752e52ffa932e892385e4a985", func := "pub-mailsack/laws.FnBehindSASLHandshakeResponse", spec := "fnBehindSASLHandshakeResponse", recurses := true, named := ["encoding/binary.BigEndian", "pub-mailsack/pub/kmsg/inner/kbin.ErrNotEnoughData"], loops := true, apart := false, laid := [("pub-mailsack/pub/kmsg/inner/kbin.ErrNotEnoughData", laid_pub_mailsack_pub_kmsg_inner_kbin_ErrNotEnoughData)], narrowed := true }
def FnBehindSASLHandshakeResponseUptoSaid : Prop := fnBehindSASLHandshakeResponseUptoRow.holds Tryd.pinned (OpenSpec.upto fnBehindSASLHandshakeResponseSpec)

/-- 'laws.FnBehindDescribeClusterRequest', WHERE WHAT IT READS IS OF BULK AT MOST 1048576: true; the input reads as it did. -/
def fnBehindDescribeClusterRequestUptoRow : OpenClaim := { program := "ytfpobhhgbmbeaaadoor", sum := "d7c33c8552d6033c6b475567aeaa998e7de60db752e52ffa932e892385e4a985", func := "pub-mailsack/laws.FnBehindDescribeClusterRequest", spec := "fnBehindDescribeClusterRequest", inPlace := ["internal/reflectlite.ValueOf", "internal/reflectlite.Swapper", "(internal/reflectlite.Value).Len"], unfollowed := true, recurses := true, named := ["pub-mailsack/pub/kmsg/inner/kbin.ErrNotEnoughData"], loops := true, apart := false, laid := [("pub-mailsack/pub/kmsg/inner/kbin.ErrNotEnoughData", laid_pub_mailsack_pub_kmsg_inner_kbin_ErrNotEnoughData)], narrowed := true }
def FnBehindDescribeClusterRequestUptoSaid : Prop := fnBehindDescribeClusterRequestUptoRow.holds Tryd.pinned (OpenSpec.upto fnBehindDescribeClusterRequestSpec)

/-- 'laws.FnBehindAllocateProducerIDsRequest', WHERE WHAT IT READS IS OF BULK AT MOST 1048576: true; the input reads as it did. -/
def fnBehindAllocateProducerIDsRequestUptoRow : OpenClaim := { program := "ytfpobhhgbmbeaaadoor", sum := "d7c33c8552d6033c6b475567aeaa998e7de60db752e52ffa932e892385e4a985", func := "pub-mailsack/laws.FnBehindAllocateProducerIDsRequest", spec := "fnBehindAllocateProducerIDsRequest", inPlace := ["internal/reflectlite.ValueOf", "internal/reflectlite.Swapper", "(internal/reflectlite.Value).Len"], unfollowed := true, recurses := true, named := ["encoding/binary.BigEndian", "pub-mailsack/pub/kmsg/inner/kbin.ErrNotEnoughData"], loops := true, apart := false, laid := [("pub-mailsack/pub/kmsg/inner/kbin.ErrNotEnoughData", laid_pub_mailsack_pub_kmsg_inner_kbin_ErrNotEnoughData)], narrowed := true }
def FnBehindAllocateProducerIDsRequestUptoSaid : Prop := fnBehindAllocateProducerIDsRequestUptoRow.holds Tryd.pinned (OpenSpec.upto fnBehindAllocateProducerIDsRequestSpec)

/-- 'laws.FnBehindSASLAuthenticateRequest', WHERE WHAT IT READS IS OF BULK AT MOST 1048576: true; the input reads as it did. -/
def fnBehindSASLAuthenticateRequestUptoRow : OpenClaim := { program := "ytfpobhhgbmbeaaadoor", sum := "d7c33c8552d6033c6b475567aeaa998e7de60db752e52ffa932e892385e4a985", func := "pub-mailsack/laws.FnBehindSASLAuthenticateRequest", spec := "fnBehindSASLAuthenticateRequest", inPlace := ["internal/reflectlite.ValueOf", "internal/reflectlite.Swapper", "(internal/reflectlite.Value).Len"], unfollowed := true, recurses := true, named := ["encoding/binary.BigEndian", "pub-mailsack/pub/kmsg/inner/kbin.ErrNotEnoughData"], loops := true, apart := false, laid := [("pub-mailsack/pub/kmsg/inner/kbin.ErrNotEnoughData", laid_pub_mailsack_pub_kmsg_inner_kbin_ErrNotEnoughData)], narrowed := true }
def FnBehindSASLAuthenticateRequestUptoSaid : Prop := fnBehindSASLAuthenticateRequestUptoRow.holds Tryd.pinned (OpenSpec.upto fnBehindSASLAuthenticateRequestSpec)

/-- 'laws.FnBehindExpireDelegationTokenRequest', WHERE WHAT IT READS IS OF BULK AT MOST 1048576: true; the input reads as it did. -/
def fnBehindExpireDelegationTokenRequestUptoRow : OpenClaim := { program := "ytfpobhhgbmbeaaadoor", sum := "d7c33c8552d6033c6b475567aeaa998e7de60db752e52ffa932e892385e4a985", func := "pub-mailsack/laws.FnBehindExpireDelegationTokenRequest", spec := "fnBehindExpireDelegationTokenRequest", inPlace := ["internal/reflectlite.ValueOf", "internal/reflectlite.Swapper", "(internal/reflectlite.Value).Len"], unfollowed := true, recurses := true, named := ["encoding/binary.BigEndian", "pub-mailsack/pub/kmsg/inner/kbin.ErrNotEnoughData"], loops := true, apart := false, laid := [("pub-mailsack/pub/kmsg/inner/kbin.ErrNotEnoughData", laid_pub_mailsack_pub_kmsg_inner_kbin_ErrNotEnoughData)], narrowed := true }
def FnBehindExpireDelegationTokenRequestUptoSaid : Prop := fnBehindExpireDelegationTokenRequestUptoRow.holds Tryd.pinned (OpenSpec.upto fnBehindExpireDelegationTokenRequestSpec)

/-- 'laws.FnBehindEndTxnResponse', WHERE WHAT IT READS IS OF BULK AT MOST 1048576: true; the input reads as it did. -/
def fnBehindEndTxnResponseUptoRow : OpenClaim := { program := "ytfpobhhgbmbeaaadoor", sum := "d7c33c8552d6033c6b475567aeaa998e7de60db752e52ffa932e892385e4a985", func := "pub-mailsack/laws.FnBehindEndTxnResponse", spec := "fnBehindEndTxnResponse", inPlace := ["internal/reflectlite.ValueOf", "internal/reflectlite.Swapper", "(internal/reflectlite.Value).Len"], unfollowed := true, recurses := true, named := ["encoding/binary.BigEndian", "pub-mailsack/pub/kmsg/inner/kbin.ErrNotEnoughData"], loops := true, apart := false, laid := [("pub-mailsack/pub/kmsg/inner/kbin.ErrNotEnoughData", laid_pub_mailsack_pub_kmsg_inner_kbin_ErrNotEnoughData)], narrowed := true }
def FnBehindEndTxnResponseUptoSaid : Prop := fnBehindEndTxnResponseUptoRow.holds Tryd.pinned (OpenSpec.upto fnBehindEndTxnResponseSpec)

/-- 'laws.FnBehindAddOffsetsToTxnRequest', WHERE WHAT IT READS IS OF BULK AT MOST 1048576: true; the input reads as it did. -/
def fnBehindAddOffsetsToTxnRequestUptoRow : OpenClaim := { program := "ytfpobhhgbmbeaaadoor", sum := "d7c33c8552d6033c6b475567aeaa998e7de60db752e52ffa932e892385e4a985", func := "pub-mailsack/laws.FnBehindAddOffsetsToTxnRequest", spec := "fnBehindAddOffsetsToTxnRequest", inPlace := ["internal/reflectlite.ValueOf", "internal/reflectlite.Swapper", "(internal/reflectlite.Value).Len"], unfollowed := true, recurses := true, named := ["encoding/binary.BigEndian", "pub-mailsack/pub/kmsg/inner/kbin.ErrNotEnoughData"], loops := true, apart := false, laid := [("pub-mailsack/pub/kmsg/inner/kbin.ErrNotEnoughData", laid_pub_mailsack_pub_kmsg_inner_kbin_ErrNotEnoughData)], narrowed := true }
def FnBehindAddOffsetsToTxnRequestUptoSaid : Prop := fnBehindAddOffsetsToTxnRequestUptoRow.holds Tryd.pinned (OpenSpec.upto fnBehindAddOffsetsToTxnRequestSpec)

end Rows
end Go.Proofs.YtfpobhhgbmbeaaaDoor
