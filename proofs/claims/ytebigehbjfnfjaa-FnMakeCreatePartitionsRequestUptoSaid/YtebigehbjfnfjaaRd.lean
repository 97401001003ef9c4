/-
  For every input of FnMakeCreatePartitionsRequest where what it is handed is of bulk at most 1048576, the law returns true, and each argument reads afterwards as it read before; no condition but the row's own.
-/
import Derived.Test.YtebigehbjfnfjaaU
import Derived.Test.YtebigehbjfnfjaaMd
import Derived.Test.YtebigehbjfnfjaaJo
import Derived.Test.YtebigehbjfnfjaaJa
import Derived.Test.YtebigehbjfnfjaaJb
import Derived.Test.YtebigehbjfnfjaaJc
import Derived.Test.YtebigehbjfnfjaaJd
namespace Go.Proofs.Ytebigehbjfnfjaa
open Go.Msk Go.ChangeShapes Go.WideShapes Go.ChangeAt Go.RowKit
set_option maxRecDepth 100000

theorem lawCreatePartitionsRequest {w : World} {n : Int} (hn : 0 ≤ n ∧ n < 256) {t : TR} {ts : List Value} (ht : RepT anyB w t ts) (hk : t.kok) (hlen : ∀ v, (writeP ⟨FX.fds fx_CreatePartitionsRequest, 2⟩ v t).length + 1000 ≤ lim) :
    Calls Try.prog 8 [.int .u8 n, .agg ts.toArray].toArray w fun e w' => e = .returned (.bool true) ∧ Mod [] w w' :=
  make_msg libM libA flib msg_CreatePartitionsRequest (by kernel_rfl) uZ1 uZ2 uZ3 uVersion uSame uGiven hn ht hk hlen

theorem CreatePartitionsRequest_size : Nat.ble (FD.kL (FX.fds fx_CreatePartitionsRequest)) 1000000 = true := by kernel_rfl
set_option maxHeartbeats 2000000 in
theorem CreatePartitionsRequest_lifted (os : Os) (started : os.Started) (H : Type) (enc : TypeId × Value → H) (F : Stop.Interp) :
    ReturnsInHanded {} Try.checked os 8 .any (fun w args => (Rows.OpenSpec.upto Rows.fnMakeCreatePartitionsRequestSpec).pre enc Try.prog Try.f8 [] false w args ∧ sizedMet enc Try.prog Try.f8 (Rows.OpenSpec.upto Rows.fnMakeCreatePartitionsRequestSpec) false w args) (((Rows.OpenSpec.upto Rows.fnMakeCreatePartitionsRequestSpec).at F).post enc Try.prog Try.f8 false true false false) := by
  refine returns_cond0 (C := Try.checked) (s := (Rows.OpenSpec.upto Rows.fnMakeCreatePartitionsRequestSpec)) (k := Rows.uptoSmall) rfl own started (by kernel_rfl) Try.func8
    (drop_x (witness_cond (enc := enc) (C := Try.checked) (os := os) (s := (Rows.OpenSpec.upto Rows.fnMakeCreatePartitionsRequestSpec)) (k := Rows.uptoSmall) rfl (X := fun _ _ => True) (World.doorLaid Try.prog 400 os) #[.int .u8 0, .agg #[.int .i64 0, .slice none 0 0, .bool false, .slice none 0 0, .slice none 0 0]] 8 rfl (World.shaped_of_RefB (by kernel_rfl) (by kernel_rfl)) (by kernel_rfl) (by kernel_rfl) (by kernel_rfl) trivial)) ?_
  intro W base args ds gs before hval0 hW hk0
  have hval : ∀ (j : Nat) t v, Try.f8.params[j]? = some t → args[j]? = some v → Value.okWide Try.prog W .any base t v := hval0
  have hW' := hW
  obtain ⟨p, q, hA0, hV, rfl, hfz, hnd⟩ := hW
  have hA : DataW.TrodAll enc Try.prog W 0 (fun _ => true) true Try.f8.params.toList args.toList ds p := hA0
  rw [Try.params8] at hA hval
  obtain ⟨v0, v2, d0, d2, p0, p2, rfl, rfl, rfl, h0, h2⟩ := trodAll_two hA
  obtain ⟨rfl, rfl⟩ := trodVars_none hV
  obtain ⟨a, rfl, rfl, rfl, wa⟩ := open_int Try.underlying5 (hval 0 5 v0 rfl rfl) h0
  obtain ⟨t, ts, rfl, hrt, hko, -, hbulk, hback2⟩ := open_tree treeTy jLaid treeRec treeRow (hval 1 26 v2 rfl rfl) h2
  clear hA0 hval0
  have hwt : t.wt ≤ 1048576 := by
    have a := hbulk _ _ bulkB
    have b : Rows.uptoBulkAll ([_, d2] ++ []) ≤ 1048576 := of_decide_eq_true hk0
    rw [List.append_nil, bulkB.cons, bulkB.cons, bulkB.nil] at b
    omega
  refine (lawCreatePartitionsRequest (u8_of wa) hrt hko (md_lenW msg_CreatePartitionsRequest.plain CreatePartitionsRequest_size hko hwt)).mono fun e W' ⟨he, hm⟩ => ?_
  subst he
  exact ⟨_, rfl, post_of_mod (s := (Rows.OpenSpec.upto Rows.fnMakeCreatePartitionsRequestSpec).at F) (pv := []) hW' (fun _ => trodAll_mk1 (shut_bool Try.underlying4 true)) (trodAll_mk2 (shut_int Try.underlying5 wa) (hback2 W' hm)) rfl hm⟩

theorem CreatePartitionsRequest_j1 : (Rows.fnMakeCreatePartitionsRequestUptoRow.inPlace == Try.prog.inPlace 8) = true := by kernel_rfl
theorem CreatePartitionsRequest_j2 : (Rows.fnMakeCreatePartitionsRequestUptoRow.unfollowed == Try.prog.unfollowed 8) = true := by kernel_rfl
theorem CreatePartitionsRequest_j3 : (Rows.fnMakeCreatePartitionsRequestUptoRow.recurses == Try.prog.recurses 8) = true := by kernel_rfl
theorem CreatePartitionsRequest_j4 : (Rows.fnMakeCreatePartitionsRequestUptoRow.named == Try.prog.varsNamed 8) = true := by kernel_rfl
theorem CreatePartitionsRequest_j5 : joinedRest Try.prog 8 Try.f8 (Rows.OpenSpec.upto Rows.fnMakeCreatePartitionsRequestSpec).bare Rows.fnMakeCreatePartitionsRequestUptoRow = true := by kernel_rfl
theorem CreatePartitionsRequest_j6 : Try.prog.funcNamed "pub-mailsack/laws.FnMakeCreatePartitionsRequest" = some 8 := by kernel_rfl

theorem CreatePartitionsRequest_holds : Rows.FnMakeCreatePartitionsRequestUptoSaid :=
  OpenClaim.holds_of_cond 8 Try.f8 rfl rfl rfl rfl rfl rfl rfl ⟨rfl, rfl, rfl, rfl, rfl⟩ rfl rfl rfl rfl rfl CreatePartitionsRequest_j6 Try.func8 (joined_of jLaid jMaps jKeys jStops jMay jLift jMake CreatePartitionsRequest_j1 CreatePartitionsRequest_j2 CreatePartitionsRequest_j3 CreatePartitionsRequest_j4 CreatePartitionsRequest_j5)
    (of_decide_eq_true (by kernel_rfl)) (by unfold Func.isWrapper; first | (rw [if_pos (by decide +kernel)]; kernel_rfl) | (rw [if_neg (by decide +kernel)]; exact ⟨rfl, rfl⟩))
    (fun os started H enc _ F => CreatePartitionsRequest_lifted os started H enc F)

end Go.Proofs.Ytebigehbjfnfjaa
