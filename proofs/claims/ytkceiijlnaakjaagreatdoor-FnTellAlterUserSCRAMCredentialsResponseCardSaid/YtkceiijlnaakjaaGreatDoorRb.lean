/-
  For every input of FnTellAlterUserSCRAMCredentialsResponse the law returns true, and each argument reads afterwards as it read before; no condition but the row's own (the listed variable reads as the program's text says).
-/
import Derived.Test.YtkceiijlnaakjaaGreatDoorU
import Derived.Test.YtkceiijlnaakjaaGreatDoorMb
import Derived.Test.YtkceiijlnaakjaaGreatDoorJo
import Derived.Test.YtkceiijlnaakjaaGreatDoorJa
import Derived.Test.YtkceiijlnaakjaaGreatDoorJb
import Derived.Test.YtkceiijlnaakjaaGreatDoorJc
import Derived.Test.YtkceiijlnaakjaaGreatDoorJd
import Derived.Test.YtkceiijlnaakjaaGreatDoorJe
namespace Go.Proofs.YtkceiijlnaakjaaGreatDoor
open Go.Msk Go.ChangeShapes Go.WideShapes Go.ChangeAt Go.RowKit
set_option maxRecDepth 100000

theorem lawAlterUserSCRAMCredentialsResponse {w : World} {n : Int} (hn : 0 ≤ n ∧ n < 256) {t : TR} {ts : List Value} (ht : RepT anyB w t ts) (hk : t.kok) (hno : t.nok) (hlen : ∀ v, (writeP ⟨FX.fds fx_AlterUserSCRAMCredentialsResponse, 0⟩ v t).length + 1000 ≤ lim) {Te : TypeId} {ve : Value} (hge : GErr (F gErr) w Te ve) :
    Calls Tryz.prog 3 [.int .u8 n, .agg ts.toArray].toArray w fun e w' => e = .returned (.bool true) ∧ Mod [] w w' :=
  tell_msg lib libI tlib msg_AlterUserSCRAMCredentialsResponse (by kernel_rfl) uZ1 uZ2 uZ3 uVersion uGot hn ht hk hno hlen hge

theorem AlterUserSCRAMCredentialsResponse_size : Nat.ble (FD.maxL (decide ((0 : Int) ≥ 0)) (FX.fds fx_AlterUserSCRAMCredentialsResponse) + tagM (decide ((0 : Int) ≥ 0))) 70368744176664 = true := by kernel_rfl
theorem AlterUserSCRAMCredentialsResponse_sizef : Nat.ble (FD.maxL false (FX.fds fx_AlterUserSCRAMCredentialsResponse) + tagM false) 70368744176664 = true := by kernel_rfl
set_option maxHeartbeats 2000000 in
theorem AlterUserSCRAMCredentialsResponse_lifted (os : Os) (started : os.Started) (H : Type) (enc : TypeId × Value → H) :
    ReturnsInHanded {} Tryz.checked os 3 .any (fun w args => (Rows.fnTellAlterUserSCRAMCredentialsResponseSpec.pre enc Tryz.prog Tryz.f3 [] false w args ∧ laidMetH Tryz.prog laidL w) ∧ sizedMet enc Tryz.prog Tryz.f3 (OpenSpec.ofChange Rows.fnTellAlterUserSCRAMCredentialsResponseSpec) false w args)
      (Rows.fnTellAlterUserSCRAMCredentialsResponseSpec.post enc Tryz.prog Tryz.f3 false true false false) := by
  refine returnsInHanded_of_change_and (C := Tryz.checked) (X := fun w _ => laidMetH Tryz.prog laidL w) (fun _ _ _ hh h => h.of_heap hh) own started (by kernel_rfl) Tryz.func3
    (ChangeSpec.witness_shaped (enc := enc) (C := Tryz.checked) (os := os) (X := fun w _ => laidMetH Tryz.prog laidL w) false (World.doorLaid Tryz.prog 400 os) #[.int .u8 0, .agg #[.int .i64 0, .slice none 0 0, .bool false, .slice none 0 0, .slice none 0 0]] 8 rfl (World.shaped_of_RefB (by kernel_rfl) (by kernel_rfl)) (by kernel_rfl) (by kernel_rfl) (by kernel_rfl) (door_met os _)) ?_
  intro W base args ds gs before hval0 hW _ _ hL _
  have hval : ∀ (j : Nat) t v, Tryz.f3.params[j]? = some t → args[j]? = some v → Value.okWide Tryz.prog W .any base t v := hval0
  have hW' := hW
  obtain ⟨p, q, hA0, hV, rfl, hfz, hnd⟩ := hW
  have hA : DataW.TrodAll enc Tryz.prog W 0 (fun _ => true) true Tryz.f3.params.toList args.toList ds p := hA0
  rw [Tryz.params3] at hA hval
  obtain ⟨v0, v2, d0, d2, p0, p2, rfl, rfl, rfl, h0, h2⟩ := trodAll_two hA
  obtain ⟨rfl, rfl⟩ := trodVars_none hV
  obtain ⟨a, rfl, rfl, rfl, wa⟩ := open_int Tryz.underlying5 (hval 0 5 v0 rfl rfl) h0
  obtain ⟨t, ts, rfl, hrt, hko, hno, -, hback2⟩ := open_tree treeTy jLaid treeRec treeRow (hval 1 26 v2 rfl rfl) h2
  obtain ⟨Te, ve, hge⟩ := gerr_of_laid gNum (show _ = some 55 by kernel_rfl) Tryz.underlying55 hL (by kernel_rfl)
  clear hA0 hval0
  refine (lawAlterUserSCRAMCredentialsResponse (u8_of wa) hrt hko hno (md_len (flex := 0) msg_AlterUserSCRAMCredentialsResponse.plain AlterUserSCRAMCredentialsResponse_size AlterUserSCRAMCredentialsResponse_sizef hko) hge).mono fun e W' ⟨he, hm⟩ => ?_
  subst he
  exact ⟨_, rfl, post_of_mod (s := Rows.fnTellAlterUserSCRAMCredentialsResponseSpec) (pv := []) hW' (fun _ => trodAll_mk1 (shut_bool Tryz.underlying4 true)) (trodAll_mk2 (shut_int Tryz.underlying5 wa) (hback2 W' hm)) rfl hm⟩

theorem AlterUserSCRAMCredentialsResponse_j1 : (Rows.fnTellAlterUserSCRAMCredentialsResponseRow.inPlace == Tryz.prog.inPlace 3) = true := by kernel_rfl
theorem AlterUserSCRAMCredentialsResponse_j2 : (Rows.fnTellAlterUserSCRAMCredentialsResponseRow.unfollowed == Tryz.prog.unfollowed 3) = true := by kernel_rfl
theorem AlterUserSCRAMCredentialsResponse_j3 : (Rows.fnTellAlterUserSCRAMCredentialsResponseRow.recurses == Tryz.prog.recurses 3) = true := by kernel_rfl
theorem AlterUserSCRAMCredentialsResponse_j4 : (Rows.fnTellAlterUserSCRAMCredentialsResponseRow.named == Tryz.prog.varsNamed 3) = true := by kernel_rfl
theorem AlterUserSCRAMCredentialsResponse_j5 : joinedRest Tryz.prog 3 Tryz.f3 Rows.fnTellAlterUserSCRAMCredentialsResponseSpec Rows.fnTellAlterUserSCRAMCredentialsResponseRow = true := by kernel_rfl
theorem AlterUserSCRAMCredentialsResponse_j6 : Tryz.prog.funcNamed "pub-mailsack/laws.FnTellAlterUserSCRAMCredentialsResponse" = some 3 := by kernel_rfl
theorem AlterUserSCRAMCredentialsResponse_j7 : false = Rows.fnTellAlterUserSCRAMCredentialsResponseRow.goesBy Tryz.prog := by kernel_rfl

theorem AlterUserSCRAMCredentialsResponse_holds : Rows.FnTellAlterUserSCRAMCredentialsResponseSaid :=
  OpenClaim.holds_of_wide 3 Tryz.f3 rfl rfl rfl rfl rfl rfl rfl ⟨rfl, rfl, rfl, rfl, rfl⟩ rfl rfl rfl rfl rfl AlterUserSCRAMCredentialsResponse_j6 Tryz.func3 (joined_of jLaid jMaps jKeys jStops jMay jLift jMake AlterUserSCRAMCredentialsResponse_j1 AlterUserSCRAMCredentialsResponse_j2 AlterUserSCRAMCredentialsResponse_j3 AlterUserSCRAMCredentialsResponse_j4 AlterUserSCRAMCredentialsResponse_j5)
    (of_decide_eq_true (by kernel_rfl)) (by unfold Func.isWrapper; first | (rw [if_pos (by decide +kernel)]; kernel_rfl) | (rw [if_neg (by decide +kernel)]; exact ⟨rfl, rfl⟩))
    (fun os started H enc _ => AlterUserSCRAMCredentialsResponse_lifted os started H enc)

theorem AlterUserSCRAMCredentialsResponse_card : Rows.FnTellAlterUserSCRAMCredentialsResponseCardSaid :=
  Claim7.holds_tied_plain_at .later [] [.sentinel] true (true, "42b49a8ac704914b2ddbc483d9508e2c5c07f5e9685188a43ad7ee497d91d1f1") false
    AlterUserSCRAMCredentialsResponse_holds (fun _ h => by cases h) (by kernel_rfl) (fun _ h => by cases h) fnTellAlterUserSCRAMCredentialsResponse_row_tie rfl ⟨rfl, rfl⟩ jMain rfl
    (fun f fn hf hfn => by
      obtain rfl : f = 3 := Option.some.inj (AlterUserSCRAMCredentialsResponse_j6.symm.trans hf) |>.symm
      obtain rfl : fn = Tryz.f3 := (Option.some.inj (Tryz.func3.symm.trans hfn)).symm
      exact ⟨jLooks, fun j t ht => by
        rw [Tryz.params3] at ht
        have hm : t ∈ [5, 26] := by simpa using Array.mem_of_getElem? ht
        have hall : ([5, 26].all fun u => !Tryz.prog.wantsStandIn u) = true := by kernel_rfl
        exact (show Tryz.prog.wantsStandIn t = false by simpa using List.all_eq_true.1 hall t hm)⟩)
    AlterUserSCRAMCredentialsResponse_j7

end Go.Proofs.YtkceiijlnaakjaaGreatDoor
