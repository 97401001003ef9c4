/-
  NARROWER THAN 'FOR EVERY INPUT', by the rows' own cells (each row's printed sentence says how): FnMakeListConfigResourcesRequest: loops · FnMakeConsumerGroupDescribeRequest: loops · FnMakeListPartitionReassignmentsRequest: loops · FnMakeListGroupsResponse: loops · FnMakeAssignReplicasToDirsRequest: loops · FnMakeCreatePartitionsRequest: loops · FnMakeAlterPartitionResponse: loops.
  DERIVED. THE GIVEN ROWS OF THIS SEAT. 7 by the template 'for every input the law returns true; each argument reads behind the call as it read before'; 0 by the template 'total and deterministic' (their statements: YtebigehbjfnfjaaTotals.lean).
  GIVEN WITH THE SEED: the statements are not yours to turn. If you find one false, say at which input.
  Laid BY PROGRAM, IN A SANDBOX (cutbox-rows.mjs): the forced cells as the released guide's own fill.sh prints them over the translation 8a89f974a400c952… (all of the seat's roots in one cut). By AI agents, Wed Nov 11 2026. No macro, syntax, notation, axiom, sorry.
-/
import Derived.Test.YtebigehbjfnfjaaChecked
import GoSem.Claim
import GoSem.ClaimJoined
import GoSem.ClaimMapViews
import Derived.JoinedTies
import Derived.KernelRfl
namespace Go.Proofs.Ytebigehbjfnfjaa
/- THE CELL 'sum', in the pinned program and in every row, IS THE sha256 OF THE DUMP (.gsa) THAT YtebigehbjfnfjaaProg.lean LOADS. Nothing in Lean hashes anything: it is a label: what it is worth is what the hold of that sum in a sandbox is worth. -/
noncomputable def Try.pinned : Pinned := { name := "ytebigehbjfnfjaa", sum := "8a89f974a400c952cb00b476a147eb122e4237b55ae7e1d5590359a1cd804577", checked := Try.checked }
namespace Rows
def none {H : Type} : Left H := { results := [], args := [] }

/-- 'laws.FnMakeListConfigResourcesRequest': WHATEVER THE INPUT: true; the input reads as it did. -/
def fnMakeListConfigResourcesRequestSpec : ChangeSpec := { name := "fnMakeListConfigResourcesRequest", fn := fun _ => fun
  | [d1, d2] => { results := [.lit (.bool true)], args := [d1, d2] }
  | _ => none }
def fnMakeListConfigResourcesRequestRow : OpenClaim := { program := "ytebigehbjfnfjaa", sum := "8a89f974a400c952cb00b476a147eb122e4237b55ae7e1d5590359a1cd804577", func := "pub-mailsack/laws.FnMakeListConfigResourcesRequest", spec := "fnMakeListConfigResourcesRequest", inPlace := ["internal/reflectlite.ValueOf", "internal/reflectlite.Swapper", "(internal/reflectlite.Value).Len"], unfollowed := true, recurses := true, loops := true, apart := false }
def FnMakeListConfigResourcesRequestSaid : Prop := fnMakeListConfigResourcesRequestRow.holds Try.pinned (OpenSpec.ofChange fnMakeListConfigResourcesRequestSpec)

/-- ITS FALSE NEIGHBOUR: 'it returns false'. Refute it at one input. -/
def fnMakeListConfigResourcesRequestWrong : ChangeSpec := { name := "fnMakeListConfigResourcesRequest", fn := fun _ => fun
  | [d1, d2] => { results := [.lit (.bool false)], args := [d1, d2] }
  | _ => none }
def FnMakeListConfigResourcesRequestWrongFalsely : Prop := fnMakeListConfigResourcesRequestRow.holds Try.pinned (OpenSpec.ofChange fnMakeListConfigResourcesRequestWrong)

/-- 'laws.FnMakeConsumerGroupDescribeRequest': WHATEVER THE INPUT: true; the input reads as it did. -/
def fnMakeConsumerGroupDescribeRequestSpec : ChangeSpec := { name := "fnMakeConsumerGroupDescribeRequest", fn := fun _ => fun
  | [d1, d2] => { results := [.lit (.bool true)], args := [d1, d2] }
  | _ => none }
def fnMakeConsumerGroupDescribeRequestRow : OpenClaim := { program := "ytebigehbjfnfjaa", sum := "8a89f974a400c952cb00b476a147eb122e4237b55ae7e1d5590359a1cd804577", func := "pub-mailsack/laws.FnMakeConsumerGroupDescribeRequest", spec := "fnMakeConsumerGroupDescribeRequest", inPlace := ["internal/reflectlite.ValueOf", "internal/reflectlite.Swapper", "(internal/reflectlite.Value).Len"], unfollowed := true, recurses := true, loops := true, apart := false }
def FnMakeConsumerGroupDescribeRequestSaid : Prop := fnMakeConsumerGroupDescribeRequestRow.holds Try.pinned (OpenSpec.ofChange fnMakeConsumerGroupDescribeRequestSpec)

/-- ITS FALSE NEIGHBOUR: 'it returns false'. Refute it at one input. -/
def fnMakeConsumerGroupDescribeRequestWrong : ChangeSpec := { name := "fnMakeConsumerGroupDescribeRequest", fn := fun _ => fun
  | [d1, d2] => { results := [.lit (.bool false)], args := [d1, d2] }
  | _ => none }
def FnMakeConsumerGroupDescribeRequestWrongFalsely : Prop := fnMakeConsumerGroupDescribeRequestRow.holds Try.pinned (OpenSpec.ofChange fnMakeConsumerGroupDescribeRequestWrong)

/-- 'laws.FnMakeListPartitionReassignmentsRequest': WHATEVER THE INPUT: true; the input reads as it did. -/
def fnMakeListPartitionReassignmentsRequestSpec : ChangeSpec := { name := "fnMakeListPartitionReassignmentsRequest", fn := fun _ => fun
  | [d1, d2] => { results := [.lit (.bool true)], args := [d1, d2] }
  | _ => none }
def fnMakeListPartitionReassignmentsRequestRow : OpenClaim := { program := "ytebigehbjfnfjaa", sum := "8a89f974a400c952cb00b476a147eb122e4237b55ae7e1d5590359a1cd804577", func := "pub-mailsack/laws.FnMakeListPartitionReassignmentsRequest", spec := "fnMakeListPartitionReassignmentsRequest", inPlace := ["internal/reflectlite.ValueOf", "internal/reflectlite.Swapper", "(internal/reflectlite.Value).Len"], unfollowed := true, recurses := true, loops := true, apart := false }
def FnMakeListPartitionReassignmentsRequestSaid : Prop := fnMakeListPartitionReassignmentsRequestRow.holds Try.pinned (OpenSpec.ofChange fnMakeListPartitionReassignmentsRequestSpec)

/-- ITS FALSE NEIGHBOUR: 'it returns false'. Refute it at one input. -/
def fnMakeListPartitionReassignmentsRequestWrong : ChangeSpec := { name := "fnMakeListPartitionReassignmentsRequest", fn := fun _ => fun
  | [d1, d2] => { results := [.lit (.bool false)], args := [d1, d2] }
  | _ => none }
def FnMakeListPartitionReassignmentsRequestWrongFalsely : Prop := fnMakeListPartitionReassignmentsRequestRow.holds Try.pinned (OpenSpec.ofChange fnMakeListPartitionReassignmentsRequestWrong)

/-- 'laws.FnMakeListGroupsResponse': WHATEVER THE INPUT: true; the input reads as it did. -/
def fnMakeListGroupsResponseSpec : ChangeSpec := { name := "fnMakeListGroupsResponse", fn := fun _ => fun
  | [d1, d2] => { results := [.lit (.bool true)], args := [d1, d2] }
  | _ => none }
def fnMakeListGroupsResponseRow : OpenClaim := { program := "ytebigehbjfnfjaa", sum := "8a89f974a400c952cb00b476a147eb122e4237b55ae7e1d5590359a1cd804577", func := "pub-mailsack/laws.FnMakeListGroupsResponse", spec := "fnMakeListGroupsResponse", inPlace := ["internal/reflectlite.ValueOf", "internal/reflectlite.Swapper", "(internal/reflectlite.Value).Len"], unfollowed := true, recurses := true, loops := true, apart := false }
def FnMakeListGroupsResponseSaid : Prop := fnMakeListGroupsResponseRow.holds Try.pinned (OpenSpec.ofChange fnMakeListGroupsResponseSpec)

/-- ITS FALSE NEIGHBOUR: 'it returns false'. Refute it at one input. -/
def fnMakeListGroupsResponseWrong : ChangeSpec := { name := "fnMakeListGroupsResponse", fn := fun _ => fun
  | [d1, d2] => { results := [.lit (.bool false)], args := [d1, d2] }
  | _ => none }
def FnMakeListGroupsResponseWrongFalsely : Prop := fnMakeListGroupsResponseRow.holds Try.pinned (OpenSpec.ofChange fnMakeListGroupsResponseWrong)

/-- 'laws.FnMakeAssignReplicasToDirsRequest': WHATEVER THE INPUT: true; the input reads as it did. -/
def fnMakeAssignReplicasToDirsRequestSpec : ChangeSpec := { name := "fnMakeAssignReplicasToDirsRequest", fn := fun _ => fun
  | [d1, d2] => { results := [.lit (.bool true)], args := [d1, d2] }
  | _ => none }
def fnMakeAssignReplicasToDirsRequestRow : OpenClaim := { program := "ytebigehbjfnfjaa", sum := "8a89f974a400c952cb00b476a147eb122e4237b55ae7e1d5590359a1cd804577", func := "pub-mailsack/laws.FnMakeAssignReplicasToDirsRequest", spec := "fnMakeAssignReplicasToDirsRequest", inPlace := ["internal/reflectlite.ValueOf", "internal/reflectlite.Swapper", "(internal/reflectlite.Value).Len"], unfollowed := true, recurses := true, loops := true, apart := false }
def FnMakeAssignReplicasToDirsRequestSaid : Prop := fnMakeAssignReplicasToDirsRequestRow.holds Try.pinned (OpenSpec.ofChange fnMakeAssignReplicasToDirsRequestSpec)

/-- ITS FALSE NEIGHBOUR: 'it returns false'. Refute it at one input. -/
def fnMakeAssignReplicasToDirsRequestWrong : ChangeSpec := { name := "fnMakeAssignReplicasToDirsRequest", fn := fun _ => fun
  | [d1, d2] => { results := [.lit (.bool false)], args := [d1, d2] }
  | _ => none }
def FnMakeAssignReplicasToDirsRequestWrongFalsely : Prop := fnMakeAssignReplicasToDirsRequestRow.holds Try.pinned (OpenSpec.ofChange fnMakeAssignReplicasToDirsRequestWrong)

/-- 'laws.FnMakeCreatePartitionsRequest': WHATEVER THE INPUT: true; the input reads as it did. -/
def fnMakeCreatePartitionsRequestSpec : ChangeSpec := { name := "fnMakeCreatePartitionsRequest", fn := fun _ => fun
  | [d1, d2] => { results := [.lit (.bool true)], args := [d1, d2] }
  | _ => none }
def fnMakeCreatePartitionsRequestRow : OpenClaim := { program := "ytebigehbjfnfjaa", sum := "8a89f974a400c952cb00b476a147eb122e4237b55ae7e1d5590359a1cd804577", func := "pub-mailsack/laws.FnMakeCreatePartitionsRequest", spec := "fnMakeCreatePartitionsRequest", inPlace := ["internal/reflectlite.ValueOf", "internal/reflectlite.Swapper", "(internal/reflectlite.Value).Len"], unfollowed := true, recurses := true, loops := true, apart := false }
def FnMakeCreatePartitionsRequestSaid : Prop := fnMakeCreatePartitionsRequestRow.holds Try.pinned (OpenSpec.ofChange fnMakeCreatePartitionsRequestSpec)

/-- ITS FALSE NEIGHBOUR: 'it returns false'. Refute it at one input. -/
def fnMakeCreatePartitionsRequestWrong : ChangeSpec := { name := "fnMakeCreatePartitionsRequest", fn := fun _ => fun
  | [d1, d2] => { results := [.lit (.bool false)], args := [d1, d2] }
  | _ => none }
def FnMakeCreatePartitionsRequestWrongFalsely : Prop := fnMakeCreatePartitionsRequestRow.holds Try.pinned (OpenSpec.ofChange fnMakeCreatePartitionsRequestWrong)

/-- 'laws.FnMakeAlterPartitionResponse': WHATEVER THE INPUT: true; the input reads as it did. -/
def fnMakeAlterPartitionResponseSpec : ChangeSpec := { name := "fnMakeAlterPartitionResponse", fn := fun _ => fun
  | [d1, d2] => { results := [.lit (.bool true)], args := [d1, d2] }
  | _ => none }
def fnMakeAlterPartitionResponseRow : OpenClaim := { program := "ytebigehbjfnfjaa", sum := "8a89f974a400c952cb00b476a147eb122e4237b55ae7e1d5590359a1cd804577", func := "pub-mailsack/laws.FnMakeAlterPartitionResponse", spec := "fnMakeAlterPartitionResponse", inPlace := ["internal/reflectlite.ValueOf", "internal/reflectlite.Swapper", "(internal/reflectlite.Value).Len"], unfollowed := true, recurses := true, loops := true, apart := false }
def FnMakeAlterPartitionResponseSaid : Prop := fnMakeAlterPartitionResponseRow.holds Try.pinned (OpenSpec.ofChange fnMakeAlterPartitionResponseSpec)

/-- ITS FALSE NEIGHBOUR: 'it returns false'. Refute it at one input. -/
def fnMakeAlterPartitionResponseWrong : ChangeSpec := { name := "fnMakeAlterPartitionResponse", fn := fun _ => fun
  | [d1, d2] => { results := [.lit (.bool false)], args := [d1, d2] }
  | _ => none }
def FnMakeAlterPartitionResponseWrongFalsely : Prop := fnMakeAlterPartitionResponseRow.holds Try.pinned (OpenSpec.ofChange fnMakeAlterPartitionResponseWrong)

/- THE SECOND FORM. 'bulk': how many values and letters a reading holds, each counted each time it is reached (what is shared counts as often as it is met; a slice's spare places count too). A statement '..UptoSaid' is the law's where the arguments, and the package variables that the reading takes, are together of bulk at most 1048576: NARROWER than '..Said'. Prove '..Said' where nothing that the law and all that it calls make is longer than what came in: it says more and counts as full. Else prove '..UptoSaid'. A law counts once. -/
mutual
def uptoBulk {H : Type} : DataW H → Nat
  | .lit (.string bytes) => bytes.length + 1
  | .lit _ => 1
  | .nil => 1
  | .ptr d => uptoBulk d + 1
  | .slice elems spare => uptoBulkAll elems + uptoBulkAll spare + 1
  | .agg parts => uptoBulkAll parts + 1
  | .iface _ d => uptoBulk d + 1
  | .map entries => uptoBulkEntries entries + 1
  | .held _ => 1
def uptoBulkAll {H : Type} : List (DataW H) → Nat
  | [] => 0
  | d :: r => uptoBulk d + uptoBulkAll r
def uptoBulkEntries {H : Type} : List (Lit × DataW H) → Nat
  | [] => 0
  | x :: r => uptoBulkEntry x + uptoBulkEntries r
def uptoBulkEntry {H : Type} : Lit × DataW H → Nat
  | (.string bytes, d) => bytes.length + uptoBulk d + 1
  | (_, d) => uptoBulk d + 1
 end
def uptoSmall : (H : Type) → List (DataW H) → Bool := fun _ ds => decide (uptoBulkAll ds ≤ 1048576)
def OpenSpec.upto (s : _root_.Go.ChangeSpec) : _root_.Go.OpenSpec := { _root_.Go.OpenSpec.ofChange s with cond := some uptoSmall }

/-- 'laws.FnMakeListConfigResourcesRequest', WHERE WHAT IT READS IS OF BULK AT MOST 1048576: true; the input reads as it did. -/
def fnMakeListConfigResourcesRequestUptoRow : OpenClaim := { program := "ytebigehbjfnfjaa", sum := "8a89f974a400c952cb00b476a147eb122e4237b55ae7e1d5590359a1cd804577", func := "pub-mailsack/laws.FnMakeListConfigResourcesRequest", spec := "fnMakeListConfigResourcesRequest", inPlace := ["internal/reflectlite.ValueOf", "internal/reflectlite.Swapper", "(internal/reflectlite.Value).Len"], unfollowed := true, recurses := true, loops := true, apart := false, narrowed := true }
def FnMakeListConfigResourcesRequestUptoSaid : Prop := fnMakeListConfigResourcesRequestUptoRow.holds Try.pinned (OpenSpec.upto fnMakeListConfigResourcesRequestSpec)

/-- 'laws.FnMakeConsumerGroupDescribeRequest', WHERE WHAT IT READS IS OF BULK AT MOST 1048576: true; the input reads as it did. -/
def fnMakeConsumerGroupDescribeRequestUptoRow : OpenClaim := { program := "ytebigehbjfnfjaa", sum := "8a89f974a400c952cb00b476a147eb122e4237b55ae7e1d5590359a1cd804577", func := "pub-mailsack/laws.FnMakeConsumerGroupDescribeRequest", spec := "fnMakeConsumerGroupDescribeRequest", inPlace := ["internal/reflectlite.ValueOf", "internal/reflectlite.Swapper", "(internal/reflectlite.Value).Len"], unfollowed := true, recurses := true, loops := true, apart := false, narrowed := true }
def FnMakeConsumerGroupDescribeRequestUptoSaid : Prop := fnMakeConsumerGroupDescribeRequestUptoRow.holds Try.pinned (OpenSpec.upto fnMakeConsumerGroupDescribeRequestSpec)

/-- 'laws.FnMakeListPartitionReassignmentsRequest', WHERE WHAT IT READS IS OF BULK AT MOST 1048576: true; the input reads as it did. -/
def fnMakeListPartitionReassignmentsRequestUptoRow : OpenClaim := { program := "ytebigehbjfnfjaa", sum := "8a89f974a400c952cb00b476a147eb122e4237b55ae7e1d5590359a1cd804577", func := "pub-mailsack/laws.FnMakeListPartitionReassignmentsRequest", spec := "fnMakeListPartitionReassignmentsRequest", inPlace := ["internal/reflectlite.ValueOf", "internal/reflectlite.Swapper", "(internal/reflectlite.Value).Len"], unfollowed := true, recurses := true, loops := true, apart := false, narrowed := true }
def FnMakeListPartitionReassignmentsRequestUptoSaid : Prop := fnMakeListPartitionReassignmentsRequestUptoRow.holds Try.pinned (OpenSpec.upto fnMakeListPartitionReassignmentsRequestSpec)

/-- 'laws.FnMakeListGroupsResponse', WHERE WHAT IT READS IS OF BULK AT MOST 1048576: true; the input reads as it did. -/
def fnMakeListGroupsResponseUptoRow : OpenClaim := { program := "ytebigehbjfnfjaa", sum := "8a89f974a400c952cb00b476a147eb122e4237b55ae7e1d5590359a1cd804577", func := "pub-mailsack/laws.FnMakeListGroupsResponse", spec := "fnMakeListGroupsResponse", inPlace := ["internal/reflectlite.ValueOf", "internal/reflectlite.Swapper", "(internal/reflectlite.Value).Len"], unfollowed := true, recurses := true, loops := true, apart := false, narrowed := true }
def FnMakeListGroupsResponseUptoSaid : Prop := fnMakeListGroupsResponseUptoRow.holds Try.pinned (OpenSpec.upto fnMakeListGroupsResponseSpec)

/-- 'laws.FnMakeAssignReplicasToDirsRequest', WHERE WHAT IT READS IS OF BULK AT MOST 1048576: true; the input reads as it did. -/
def fnMakeAssignReplicasToDirsRequestUptoRow : OpenClaim := { program := "ytebigehbjfnfjaa", sum := "8a89f974a400c952cb00b476a147eb122e4237b55ae7e1d5590359a1cd804577", func := "pub-mailsack/laws.FnMakeAssignReplicasToDirsRequest", spec := "fnMakeAssignReplicasToDirsRequest", inPlace := ["internal/reflectlite.ValueOf", "internal/reflectlite.Swapper", "(internal/reflectlite.Value).Len"], unfollowed := true, recurses := true, loops := true, apart := false, narrowed := true }
def FnMakeAssignReplicasToDirsRequestUptoSaid : Prop := fnMakeAssignReplicasToDirsRequestUptoRow.holds Try.pinned (OpenSpec.upto fnMakeAssignReplicasToDirsRequestSpec)

/-- 'laws.FnMakeCreatePartitionsRequest', WHERE WHAT IT READS IS OF BULK AT MOST 1048576: true; the input reads as it did. -/
def fnMakeCreatePartitionsRequestUptoRow : OpenClaim := { program := "ytebigehbjfnfjaa", sum := "8a89f974a400c952cb00b476a147eb122e4237b55ae7e1d5590359a1cd804577", func := "pub-mailsack/laws.FnMakeCreatePartitionsRequest", spec := "fnMakeCreatePartitionsRequest", inPlace := ["internal/reflectlite.ValueOf", "internal/reflectlite.Swapper", "(internal/reflectlite.Value).Len"], unfollowed := true, recurses := true, loops := true, apart := false, narrowed := true }
def FnMakeCreatePartitionsRequestUptoSaid : Prop := fnMakeCreatePartitionsRequestUptoRow.holds Try.pinned (OpenSpec.upto fnMakeCreatePartitionsRequestSpec)

/-- 'laws.FnMakeAlterPartitionResponse', WHERE WHAT IT READS IS OF BULK AT MOST 1048576: true; the input reads as it did. -/
def fnMakeAlterPartitionResponseUptoRow : OpenClaim := { program := "ytebigehbjfnfjaa", sum := "8a89f974a400c952cb00b476a147eb122e4237b55ae7e1d5590359a1cd804577", func := "pub-mailsack/laws.FnMakeAlterPartitionResponse", spec := "fnMakeAlterPartitionResponse", inPlace := ["internal/reflectlite.ValueOf", "internal/reflectlite.Swapper", "(internal/reflectlite.Value).Len"], unfollowed := true, recurses := true, loops := true, apart := false, narrowed := true }
def FnMakeAlterPartitionResponseUptoSaid : Prop := fnMakeAlterPartitionResponseUptoRow.holds Try.pinned (OpenSpec.upto fnMakeAlterPartitionResponseSpec)

end Rows
end Go.Proofs.Ytebigehbjfnfjaa
