/-
  For every input of FnMakeListGroupsResponse the law returns true, and each argument reads afterwards as it read before; no condition but the row's own.
-/
import Derived.Test.YtebigehbjfnfjaaU
import Derived.Test.YtebigehbjfnfjaaMf
import Derived.Test.YtebigehbjfnfjaaJo
import Derived.Test.YtebigehbjfnfjaaJa
import Derived.Test.YtebigehbjfnfjaaJb
import Derived.Test.YtebigehbjfnfjaaJc
import Derived.Test.YtebigehbjfnfjaaJd
namespace Go.Proofs.Ytebigehbjfnfjaa
open Go.Msk Go.ChangeShapes Go.WideShapes Go.ChangeAt Go.RowKit
set_option maxRecDepth 100000

theorem lawListGroupsResponse {w : World} {n : Int} (hn : 0 ≤ n ∧ n < 256) {t : TR} {ts : List Value} (ht : RepT anyB w t ts) (hk : t.kok) (hlen : ∀ v, (writeP ⟨FX.fds fx_ListGroupsResponse, 3⟩ v t).length + 1000 ≤ lim) :
    Calls Try.prog 6 [.int .u8 n, .agg ts.toArray].toArray w fun e w' => e = .returned (.bool true) ∧ Mod [] w w' :=
  make_msg libM libA flib msg_ListGroupsResponse (by kernel_rfl) uZ1 uZ2 uZ3 uVersion uSame uGiven hn ht hk hlen

theorem ListGroupsResponse_size : Nat.ble (FD.maxL (decide ((3 : Int) ≥ 0)) (FX.fds fx_ListGroupsResponse) + tagM (decide ((3 : Int) ≥ 0))) 70368744176664 = true := by kernel_rfl
theorem ListGroupsResponse_sizef : Nat.ble (FD.maxL false (FX.fds fx_ListGroupsResponse) + tagM false) 70368744176664 = true := by kernel_rfl
set_option maxHeartbeats 2000000 in
theorem ListGroupsResponse_lifted (os : Os) (started : os.Started) (H : Type) (enc : TypeId × Value → H) :
    ReturnsInHanded {} Try.checked os 6 .any (fun w args => Rows.fnMakeListGroupsResponseSpec.pre enc Try.prog Try.f6 [] false w args ∧ sizedMet enc Try.prog Try.f6 (OpenSpec.ofChange Rows.fnMakeListGroupsResponseSpec) false w args) (Rows.fnMakeListGroupsResponseSpec.post enc Try.prog Try.f6 false true false false) := by
  refine returnsInHanded_of_change (C := Try.checked) own started (by kernel_rfl) Try.func6
    (drop_x (ChangeSpec.witness_shaped (enc := enc) (C := Try.checked) (os := os) (X := fun _ _ => True) false (World.doorLaid Try.prog 400 os) #[.int .u8 0, .agg #[.int .i64 0, .slice none 0 0, .bool false, .slice none 0 0, .slice none 0 0]] 8 rfl (World.shaped_of_RefB (by kernel_rfl) (by kernel_rfl)) (by kernel_rfl) (by kernel_rfl) (by kernel_rfl) trivial)) ?_
  intro W base args ds gs before hval0 hW _ _
  have hval : ∀ (j : Nat) t v, Try.f6.params[j]? = some t → args[j]? = some v → Value.okWide Try.prog W .any base t v := hval0
  have hW' := hW
  obtain ⟨p, q, hA0, hV, rfl, hfz, hnd⟩ := hW
  have hA : DataW.TrodAll enc Try.prog W 0 (fun _ => true) true Try.f6.params.toList args.toList ds p := hA0
  rw [Try.params6] at hA hval
  obtain ⟨v0, v2, d0, d2, p0, p2, rfl, rfl, rfl, h0, h2⟩ := trodAll_two hA
  obtain ⟨rfl, rfl⟩ := trodVars_none hV
  obtain ⟨a, rfl, rfl, rfl, wa⟩ := open_int Try.underlying5 (hval 0 5 v0 rfl rfl) h0
  obtain ⟨t, ts, rfl, hrt, hko, -, -, hback2⟩ := open_tree treeTy jLaid treeRec treeRow (hval 1 26 v2 rfl rfl) h2
  clear hA0 hval0
  refine (lawListGroupsResponse (u8_of wa) hrt hko (md_len (flex := 3) msg_ListGroupsResponse.plain ListGroupsResponse_size ListGroupsResponse_sizef hko)).mono fun e W' ⟨he, hm⟩ => ?_
  subst he
  exact ⟨_, rfl, post_of_mod (s := Rows.fnMakeListGroupsResponseSpec) (pv := []) hW' (fun _ => trodAll_mk1 (shut_bool Try.underlying4 true)) (trodAll_mk2 (shut_int Try.underlying5 wa) (hback2 W' hm)) rfl hm⟩

theorem ListGroupsResponse_j1 : (Rows.fnMakeListGroupsResponseRow.inPlace == Try.prog.inPlace 6) = true := by kernel_rfl
theorem ListGroupsResponse_j2 : (Rows.fnMakeListGroupsResponseRow.unfollowed == Try.prog.unfollowed 6) = true := by kernel_rfl
theorem ListGroupsResponse_j3 : (Rows.fnMakeListGroupsResponseRow.recurses == Try.prog.recurses 6) = true := by kernel_rfl
theorem ListGroupsResponse_j4 : (Rows.fnMakeListGroupsResponseRow.named == Try.prog.varsNamed 6) = true := by kernel_rfl
theorem ListGroupsResponse_j5 : joinedRest Try.prog 6 Try.f6 Rows.fnMakeListGroupsResponseSpec Rows.fnMakeListGroupsResponseRow = true := by kernel_rfl
theorem ListGroupsResponse_j6 : Try.prog.funcNamed "pub-mailsack/laws.FnMakeListGroupsResponse" = some 6 := by kernel_rfl

theorem ListGroupsResponse_holds : Rows.FnMakeListGroupsResponseSaid :=
  OpenClaim.holds_of_wide 6 Try.f6 rfl rfl rfl rfl rfl rfl rfl ⟨rfl, rfl, rfl, rfl, rfl⟩ rfl rfl rfl rfl rfl ListGroupsResponse_j6 Try.func6 (joined_of jLaid jMaps jKeys jStops jMay jLift jMake ListGroupsResponse_j1 ListGroupsResponse_j2 ListGroupsResponse_j3 ListGroupsResponse_j4 ListGroupsResponse_j5)
    (of_decide_eq_true (by kernel_rfl)) (by unfold Func.isWrapper; first | (rw [if_pos (by decide +kernel)]; kernel_rfl) | (rw [if_neg (by decide +kernel)]; exact ⟨rfl, rfl⟩))
    (fun os started H enc _ => ListGroupsResponse_lifted os started H enc)

end Go.Proofs.Ytebigehbjfnfjaa
