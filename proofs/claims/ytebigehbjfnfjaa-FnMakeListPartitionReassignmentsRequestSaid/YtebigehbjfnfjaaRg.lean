/-
  For every input of FnMakeListPartitionReassignmentsRequest the law returns true, and each argument reads afterwards as it read before; no condition but the row's own.
-/
import Derived.Test.YtebigehbjfnfjaaU
import Derived.Test.YtebigehbjfnfjaaMg
import Derived.Test.YtebigehbjfnfjaaJo
import Derived.Test.YtebigehbjfnfjaaJa
import Derived.Test.YtebigehbjfnfjaaJb
import Derived.Test.YtebigehbjfnfjaaJc
import Derived.Test.YtebigehbjfnfjaaJd
namespace Go.Proofs.Ytebigehbjfnfjaa
open Go.Msk Go.ChangeShapes Go.WideShapes Go.ChangeAt Go.RowKit
set_option maxRecDepth 100000

theorem lawListPartitionReassignmentsRequest {w : World} {n : Int} (hn : 0 ≤ n ∧ n < 256) {t : TR} {ts : List Value} (ht : RepT anyB w t ts) (hk : t.kok) (hlen : ∀ v, (writeP ⟨FX.fds fx_ListPartitionReassignmentsRequest, 0⟩ v t).length + 1000 ≤ lim) :
    Calls Try.prog 5 [.int .u8 n, .agg ts.toArray].toArray w fun e w' => e = .returned (.bool true) ∧ Mod [] w w' :=
  make_msg libM libA flib msg_ListPartitionReassignmentsRequest (by kernel_rfl) uZ1 uZ2 uZ3 uVersion uSame uGiven hn ht hk hlen

theorem ListPartitionReassignmentsRequest_size : Nat.ble (FD.maxL (decide ((0 : Int) ≥ 0)) (FX.fds fx_ListPartitionReassignmentsRequest) + tagM (decide ((0 : Int) ≥ 0))) 70368744176664 = true := by kernel_rfl
theorem ListPartitionReassignmentsRequest_sizef : Nat.ble (FD.maxL false (FX.fds fx_ListPartitionReassignmentsRequest) + tagM false) 70368744176664 = true := by kernel_rfl
set_option maxHeartbeats 2000000 in
theorem ListPartitionReassignmentsRequest_lifted (os : Os) (started : os.Started) (H : Type) (enc : TypeId × Value → H) :
    ReturnsInHanded {} Try.checked os 5 .any (fun w args => Rows.fnMakeListPartitionReassignmentsRequestSpec.pre enc Try.prog Try.f5 [] false w args ∧ sizedMet enc Try.prog Try.f5 (OpenSpec.ofChange Rows.fnMakeListPartitionReassignmentsRequestSpec) false w args) (Rows.fnMakeListPartitionReassignmentsRequestSpec.post enc Try.prog Try.f5 false true false false) := by
  refine returnsInHanded_of_change (C := Try.checked) own started (by kernel_rfl) Try.func5
    (drop_x (ChangeSpec.witness_shaped (enc := enc) (C := Try.checked) (os := os) (X := fun _ _ => True) false (World.doorLaid Try.prog 400 os) #[.int .u8 0, .agg #[.int .i64 0, .slice none 0 0, .bool false, .slice none 0 0, .slice none 0 0]] 8 rfl (World.shaped_of_RefB (by kernel_rfl) (by kernel_rfl)) (by kernel_rfl) (by kernel_rfl) (by kernel_rfl) trivial)) ?_
  intro W base args ds gs before hval0 hW _ _
  have hval : ∀ (j : Nat) t v, Try.f5.params[j]? = some t → args[j]? = some v → Value.okWide Try.prog W .any base t v := hval0
  have hW' := hW
  obtain ⟨p, q, hA0, hV, rfl, hfz, hnd⟩ := hW
  have hA : DataW.TrodAll enc Try.prog W 0 (fun _ => true) true Try.f5.params.toList args.toList ds p := hA0
  rw [Try.params5] at hA hval
  obtain ⟨v0, v2, d0, d2, p0, p2, rfl, rfl, rfl, h0, h2⟩ := trodAll_two hA
  obtain ⟨rfl, rfl⟩ := trodVars_none hV
  obtain ⟨a, rfl, rfl, rfl, wa⟩ := open_int Try.underlying5 (hval 0 5 v0 rfl rfl) h0
  obtain ⟨t, ts, rfl, hrt, hko, -, -, hback2⟩ := open_tree treeTy jLaid treeRec treeRow (hval 1 26 v2 rfl rfl) h2
  clear hA0 hval0
  refine (lawListPartitionReassignmentsRequest (u8_of wa) hrt hko (md_len (flex := 0) msg_ListPartitionReassignmentsRequest.plain ListPartitionReassignmentsRequest_size ListPartitionReassignmentsRequest_sizef hko)).mono fun e W' ⟨he, hm⟩ => ?_
  subst he
  exact ⟨_, rfl, post_of_mod (s := Rows.fnMakeListPartitionReassignmentsRequestSpec) (pv := []) hW' (fun _ => trodAll_mk1 (shut_bool Try.underlying4 true)) (trodAll_mk2 (shut_int Try.underlying5 wa) (hback2 W' hm)) rfl hm⟩

theorem ListPartitionReassignmentsRequest_j1 : (Rows.fnMakeListPartitionReassignmentsRequestRow.inPlace == Try.prog.inPlace 5) = true := by kernel_rfl
theorem ListPartitionReassignmentsRequest_j2 : (Rows.fnMakeListPartitionReassignmentsRequestRow.unfollowed == Try.prog.unfollowed 5) = true := by kernel_rfl
theorem ListPartitionReassignmentsRequest_j3 : (Rows.fnMakeListPartitionReassignmentsRequestRow.recurses == Try.prog.recurses 5) = true := by kernel_rfl
theorem ListPartitionReassignmentsRequest_j4 : (Rows.fnMakeListPartitionReassignmentsRequestRow.named == Try.prog.varsNamed 5) = true := by kernel_rfl
theorem ListPartitionReassignmentsRequest_j5 : joinedRest Try.prog 5 Try.f5 Rows.fnMakeListPartitionReassignmentsRequestSpec Rows.fnMakeListPartitionReassignmentsRequestRow = true := by kernel_rfl
theorem ListPartitionReassignmentsRequest_j6 : Try.prog.funcNamed "pub-mailsack/laws.FnMakeListPartitionReassignmentsRequest" = some 5 := by kernel_rfl

theorem ListPartitionReassignmentsRequest_holds : Rows.FnMakeListPartitionReassignmentsRequestSaid :=
  OpenClaim.holds_of_wide 5 Try.f5 rfl rfl rfl rfl rfl rfl rfl ⟨rfl, rfl, rfl, rfl, rfl⟩ rfl rfl rfl rfl rfl ListPartitionReassignmentsRequest_j6 Try.func5 (joined_of jLaid jMaps jKeys jStops jMay jLift jMake ListPartitionReassignmentsRequest_j1 ListPartitionReassignmentsRequest_j2 ListPartitionReassignmentsRequest_j3 ListPartitionReassignmentsRequest_j4 ListPartitionReassignmentsRequest_j5)
    (of_decide_eq_true (by kernel_rfl)) (by unfold Func.isWrapper; first | (rw [if_pos (by decide +kernel)]; kernel_rfl) | (rw [if_neg (by decide +kernel)]; exact ⟨rfl, rfl⟩))
    (fun os started H enc _ => ListPartitionReassignmentsRequest_lifted os started H enc)

end Go.Proofs.Ytebigehbjfnfjaa
