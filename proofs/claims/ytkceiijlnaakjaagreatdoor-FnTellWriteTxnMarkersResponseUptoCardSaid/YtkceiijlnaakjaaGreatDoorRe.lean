/-
  For every input of FnTellWriteTxnMarkersResponse where what it is handed is of bulk at most 1048576, the law returns true, and each argument reads afterwards as it read before; no condition but the row's own (the listed variable reads as the program's text says).
-/
import Derived.Test.YtkceiijlnaakjaaGreatDoorU
import Derived.Test.YtkceiijlnaakjaaGreatDoorMe
import Derived.Test.YtkceiijlnaakjaaGreatDoorJo
import Derived.Test.YtkceiijlnaakjaaGreatDoorJa
import Derived.Test.YtkceiijlnaakjaaGreatDoorJb
import Derived.Test.YtkceiijlnaakjaaGreatDoorJc
import Derived.Test.YtkceiijlnaakjaaGreatDoorJd
import Derived.Test.YtkceiijlnaakjaaGreatDoorJe
namespace Go.Proofs.YtkceiijlnaakjaaGreatDoor
open Go.Msk Go.ChangeShapes Go.WideShapes Go.ChangeAt Go.RowKit
set_option maxRecDepth 100000

theorem lawWriteTxnMarkersResponse {w : World} {n : Int} (hn : 0 ≤ n ∧ n < 256) {t : TR} {ts : List Value} (ht : RepT anyB w t ts) (hk : t.kok) (hno : t.nok) (hlen : ∀ v, (writeP ⟨FX.fds fx_WriteTxnMarkersResponse, 1⟩ v t).length + 1000 ≤ lim) {Te : TypeId} {ve : Value} (hge : GErr (F gErr) w Te ve) :
    Calls Tryz.prog 5 [.int .u8 n, .agg ts.toArray].toArray w fun e w' => e = .returned (.bool true) ∧ Mod [] w w' :=
  tell_msg lib libI tlib msg_WriteTxnMarkersResponse (by kernel_rfl) uZ1 uZ2 uZ3 uVersion uGot hn ht hk hno hlen hge

theorem WriteTxnMarkersResponse_size : Nat.ble (FD.kL (FX.fds fx_WriteTxnMarkersResponse)) 1000000 = true := by kernel_rfl
set_option maxHeartbeats 2000000 in
theorem WriteTxnMarkersResponse_lifted (os : Os) (started : os.Started) (H : Type) (enc : TypeId × Value → H) (F : Stop.Interp) :
    ReturnsInHanded {} Tryz.checked os 5 .any (fun w args => ((Rows.OpenSpec.upto Rows.fnTellWriteTxnMarkersResponseSpec).pre enc Tryz.prog Tryz.f5 [] false w args ∧ laidMetH Tryz.prog laidL w) ∧ sizedMet enc Tryz.prog Tryz.f5 (Rows.OpenSpec.upto Rows.fnTellWriteTxnMarkersResponseSpec) false w args)
      (((Rows.OpenSpec.upto Rows.fnTellWriteTxnMarkersResponseSpec).at F).post enc Tryz.prog Tryz.f5 false true false false) := by
  refine returns_cond (C := Tryz.checked) (s := (Rows.OpenSpec.upto Rows.fnTellWriteTxnMarkersResponseSpec)) (k := Rows.uptoSmall) rfl (X := fun w _ => laidMetH Tryz.prog laidL w) (fun _ _ _ hh h => h.of_heap hh) own started (by kernel_rfl) Tryz.func5
    (witness_cond (enc := enc) (C := Tryz.checked) (os := os) (s := (Rows.OpenSpec.upto Rows.fnTellWriteTxnMarkersResponseSpec)) (k := Rows.uptoSmall) rfl (X := fun w _ => laidMetH Tryz.prog laidL w) (World.doorLaid Tryz.prog 400 os) #[.int .u8 0, .agg #[.int .i64 0, .slice none 0 0, .bool false, .slice none 0 0, .slice none 0 0]] 8 rfl (World.shaped_of_RefB (by kernel_rfl) (by kernel_rfl)) (by kernel_rfl) (by kernel_rfl) (by kernel_rfl) (door_met os _)) ?_
  intro W base args ds gs before hval0 hW hk0 hL
  have hval : ∀ (j : Nat) t v, Tryz.f5.params[j]? = some t → args[j]? = some v → Value.okWide Tryz.prog W .any base t v := hval0
  have hW' := hW
  obtain ⟨p, q, hA0, hV, rfl, hfz, hnd⟩ := hW
  have hA : DataW.TrodAll enc Tryz.prog W 0 (fun _ => true) true Tryz.f5.params.toList args.toList ds p := hA0
  rw [Tryz.params5] at hA hval
  obtain ⟨v0, v2, d0, d2, p0, p2, rfl, rfl, rfl, h0, h2⟩ := trodAll_two hA
  obtain ⟨rfl, rfl⟩ := trodVars_none hV
  obtain ⟨a, rfl, rfl, rfl, wa⟩ := open_int Tryz.underlying5 (hval 0 5 v0 rfl rfl) h0
  obtain ⟨t, ts, rfl, hrt, hko, hno, hbulk, hback2⟩ := open_tree treeTy jLaid treeRec treeRow (hval 1 26 v2 rfl rfl) h2
  obtain ⟨Te, ve, hge⟩ := gerr_of_laid gNum (show _ = some 55 by kernel_rfl) Tryz.underlying55 hL (by kernel_rfl)
  clear hA0 hval0
  have hwt : t.wt ≤ 1048576 := by
    have a := hbulk _ _ bulkB
    have b : Rows.uptoBulkAll ([_, d2] ++ []) ≤ 1048576 := of_decide_eq_true hk0
    rw [List.append_nil, bulkB.cons, bulkB.cons, bulkB.nil] at b
    omega
  refine (lawWriteTxnMarkersResponse (u8_of wa) hrt hko hno (md_lenW msg_WriteTxnMarkersResponse.plain WriteTxnMarkersResponse_size hko hwt) hge).mono fun e W' ⟨he, hm⟩ => ?_
  subst he
  exact ⟨_, rfl, post_of_mod (s := (Rows.OpenSpec.upto Rows.fnTellWriteTxnMarkersResponseSpec).at F) (pv := []) hW' (fun _ => trodAll_mk1 (shut_bool Tryz.underlying4 true)) (trodAll_mk2 (shut_int Tryz.underlying5 wa) (hback2 W' hm)) rfl hm⟩

theorem WriteTxnMarkersResponse_j1 : (Rows.fnTellWriteTxnMarkersResponseUptoRow.inPlace == Tryz.prog.inPlace 5) = true := by kernel_rfl
theorem WriteTxnMarkersResponse_j2 : (Rows.fnTellWriteTxnMarkersResponseUptoRow.unfollowed == Tryz.prog.unfollowed 5) = true := by kernel_rfl
theorem WriteTxnMarkersResponse_j3 : (Rows.fnTellWriteTxnMarkersResponseUptoRow.recurses == Tryz.prog.recurses 5) = true := by kernel_rfl
theorem WriteTxnMarkersResponse_j4 : (Rows.fnTellWriteTxnMarkersResponseUptoRow.named == Tryz.prog.varsNamed 5) = true := by kernel_rfl
theorem WriteTxnMarkersResponse_j5 : joinedRest Tryz.prog 5 Tryz.f5 (Rows.OpenSpec.upto Rows.fnTellWriteTxnMarkersResponseSpec).bare Rows.fnTellWriteTxnMarkersResponseUptoRow = true := by kernel_rfl
theorem WriteTxnMarkersResponse_j6 : Tryz.prog.funcNamed "pub-mailsack/laws.FnTellWriteTxnMarkersResponse" = some 5 := by kernel_rfl
theorem WriteTxnMarkersResponse_j7 : false = Rows.fnTellWriteTxnMarkersResponseUptoRow.goesBy Tryz.prog := by kernel_rfl

theorem WriteTxnMarkersResponse_holds : Rows.FnTellWriteTxnMarkersResponseUptoSaid :=
  OpenClaim.holds_of_cond 5 Tryz.f5 rfl rfl rfl rfl rfl rfl rfl ⟨rfl, rfl, rfl, rfl, rfl⟩ rfl rfl rfl rfl rfl WriteTxnMarkersResponse_j6 Tryz.func5 (joined_of jLaid jMaps jKeys jStops jMay jLift jMake WriteTxnMarkersResponse_j1 WriteTxnMarkersResponse_j2 WriteTxnMarkersResponse_j3 WriteTxnMarkersResponse_j4 WriteTxnMarkersResponse_j5)
    (of_decide_eq_true (by kernel_rfl)) (by unfold Func.isWrapper; first | (rw [if_pos (by decide +kernel)]; kernel_rfl) | (rw [if_neg (by decide +kernel)]; exact ⟨rfl, rfl⟩))
    (fun os started H enc _ F => WriteTxnMarkersResponse_lifted os started H enc F)

theorem WriteTxnMarkersResponse_card : Rows.FnTellWriteTxnMarkersResponseUptoCardSaid :=
  Claim7.holds_tied_plain_at .later [] [.sentinel] true (true, "42b49a8ac704914b2ddbc483d9508e2c5c07f5e9685188a43ad7ee497d91d1f1") false
    WriteTxnMarkersResponse_holds (fun _ h => by cases h) (by kernel_rfl) (fun _ h => by cases h) fnTellWriteTxnMarkersResponseUpto_row_tie rfl ⟨rfl, rfl⟩ jMain rfl
    (fun f fn hf hfn => by
      obtain rfl : f = 5 := Option.some.inj (WriteTxnMarkersResponse_j6.symm.trans hf) |>.symm
      obtain rfl : fn = Tryz.f5 := (Option.some.inj (Tryz.func5.symm.trans hfn)).symm
      exact ⟨jLooks, fun j t ht => by
        rw [Tryz.params5] at ht
        have hm : t ∈ [5, 26] := by simpa using Array.mem_of_getElem? ht
        have hall : ([5, 26].all fun u => !Tryz.prog.wantsStandIn u) = true := by kernel_rfl
        exact (show Tryz.prog.wantsStandIn t = false by simpa using List.all_eq_true.1 hall t hm)⟩)
    WriteTxnMarkersResponse_j7

end Go.Proofs.YtkceiijlnaakjaaGreatDoor
