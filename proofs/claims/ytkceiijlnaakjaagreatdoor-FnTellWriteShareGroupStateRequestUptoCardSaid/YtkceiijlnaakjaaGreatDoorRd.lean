/-
  For every input of FnTellWriteShareGroupStateRequest where what it is handed is of bulk at most 1048576, the law returns true, and each argument reads afterwards as it read before; no condition but the row's own (the listed variable reads as the program's text says).
-/
import Derived.Test.YtkceiijlnaakjaaGreatDoorU
import Derived.Test.YtkceiijlnaakjaaGreatDoorMd
import Derived.Test.YtkceiijlnaakjaaGreatDoorJo
import Derived.Test.YtkceiijlnaakjaaGreatDoorJa
import Derived.Test.YtkceiijlnaakjaaGreatDoorJb
import Derived.Test.YtkceiijlnaakjaaGreatDoorJc
import Derived.Test.YtkceiijlnaakjaaGreatDoorJd
import Derived.Test.YtkceiijlnaakjaaGreatDoorJe
namespace Go.Proofs.YtkceiijlnaakjaaGreatDoor
open Go.Msk Go.ChangeShapes Go.WideShapes Go.ChangeAt Go.RowKit
set_option maxRecDepth 100000

theorem lawWriteShareGroupStateRequest {w : World} {n : Int} (hn : 0 ≤ n ∧ n < 256) {t : TR} {ts : List Value} (ht : RepT anyB w t ts) (hk : t.kok) (hno : t.nok) (hlen : ∀ v, (writeP ⟨FX.fds fx_WriteShareGroupStateRequest, 0⟩ v t).length + 1000 ≤ lim) {Te : TypeId} {ve : Value} (hge : GErr (F gErr) w Te ve) :
    Calls Tryz.prog 6 [.int .u8 n, .agg ts.toArray].toArray w fun e w' => e = .returned (.bool true) ∧ Mod [] w w' :=
  tell_msg lib libI tlib msg_WriteShareGroupStateRequest (by kernel_rfl) uZ1 uZ2 uZ3 uVersion uGot hn ht hk hno hlen hge

theorem WriteShareGroupStateRequest_size : Nat.ble (FD.kL (FX.fds fx_WriteShareGroupStateRequest)) 1000000 = true := by kernel_rfl
set_option maxHeartbeats 2000000 in
theorem WriteShareGroupStateRequest_lifted (os : Os) (started : os.Started) (H : Type) (enc : TypeId × Value → H) (F : Stop.Interp) :
    ReturnsInHanded {} Tryz.checked os 6 .any (fun w args => ((Rows.OpenSpec.upto Rows.fnTellWriteShareGroupStateRequestSpec).pre enc Tryz.prog Tryz.f6 [] false w args ∧ laidMetH Tryz.prog laidL w) ∧ sizedMet enc Tryz.prog Tryz.f6 (Rows.OpenSpec.upto Rows.fnTellWriteShareGroupStateRequestSpec) false w args)
      (((Rows.OpenSpec.upto Rows.fnTellWriteShareGroupStateRequestSpec).at F).post enc Tryz.prog Tryz.f6 false true false false) := by
  refine returns_cond (C := Tryz.checked) (s := (Rows.OpenSpec.upto Rows.fnTellWriteShareGroupStateRequestSpec)) (k := Rows.uptoSmall) rfl (X := fun w _ => laidMetH Tryz.prog laidL w) (fun _ _ _ hh h => h.of_heap hh) own started (by kernel_rfl) Tryz.func6
    (witness_cond (enc := enc) (C := Tryz.checked) (os := os) (s := (Rows.OpenSpec.upto Rows.fnTellWriteShareGroupStateRequestSpec)) (k := Rows.uptoSmall) rfl (X := fun w _ => laidMetH Tryz.prog laidL w) (World.doorLaid Tryz.prog 400 os) #[.int .u8 0, .agg #[.int .i64 0, .slice none 0 0, .bool false, .slice none 0 0, .slice none 0 0]] 8 rfl (World.shaped_of_RefB (by kernel_rfl) (by kernel_rfl)) (by kernel_rfl) (by kernel_rfl) (by kernel_rfl) (door_met os _)) ?_
  intro W base args ds gs before hval0 hW hk0 hL
  have hval : ∀ (j : Nat) t v, Tryz.f6.params[j]? = some t → args[j]? = some v → Value.okWide Tryz.prog W .any base t v := hval0
  have hW' := hW
  obtain ⟨p, q, hA0, hV, rfl, hfz, hnd⟩ := hW
  have hA : DataW.TrodAll enc Tryz.prog W 0 (fun _ => true) true Tryz.f6.params.toList args.toList ds p := hA0
  rw [Tryz.params6] at hA hval
  obtain ⟨v0, v2, d0, d2, p0, p2, rfl, rfl, rfl, h0, h2⟩ := trodAll_two hA
  obtain ⟨rfl, rfl⟩ := trodVars_none hV
  obtain ⟨a, rfl, rfl, rfl, wa⟩ := open_int Tryz.underlying5 (hval 0 5 v0 rfl rfl) h0
  obtain ⟨t, ts, rfl, hrt, hko, hno, hbulk, hback2⟩ := open_tree treeTy jLaid treeRec treeRow (hval 1 26 v2 rfl rfl) h2
  obtain ⟨Te, ve, hge⟩ := gerr_of_laid gNum (show _ = some 55 by kernel_rfl) Tryz.underlying55 hL (by kernel_rfl)
  clear hA0 hval0
  have hwt : t.wt ≤ 1048576 := by
    have a := hbulk _ _ bulkB
    have b : Rows.uptoBulkAll ([_, d2] ++ []) ≤ 1048576 := of_decide_eq_true hk0
    rw [List.append_nil, bulkB.cons, bulkB.cons, bulkB.nil] at b
    omega
  refine (lawWriteShareGroupStateRequest (u8_of wa) hrt hko hno (md_lenW msg_WriteShareGroupStateRequest.plain WriteShareGroupStateRequest_size hko hwt) hge).mono fun e W' ⟨he, hm⟩ => ?_
  subst he
  exact ⟨_, rfl, post_of_mod (s := (Rows.OpenSpec.upto Rows.fnTellWriteShareGroupStateRequestSpec).at F) (pv := []) hW' (fun _ => trodAll_mk1 (shut_bool Tryz.underlying4 true)) (trodAll_mk2 (shut_int Tryz.underlying5 wa) (hback2 W' hm)) rfl hm⟩

theorem WriteShareGroupStateRequest_j1 : (Rows.fnTellWriteShareGroupStateRequestUptoRow.inPlace == Tryz.prog.inPlace 6) = true := by kernel_rfl
theorem WriteShareGroupStateRequest_j2 : (Rows.fnTellWriteShareGroupStateRequestUptoRow.unfollowed == Tryz.prog.unfollowed 6) = true := by kernel_rfl
theorem WriteShareGroupStateRequest_j3 : (Rows.fnTellWriteShareGroupStateRequestUptoRow.recurses == Tryz.prog.recurses 6) = true := by kernel_rfl
theorem WriteShareGroupStateRequest_j4 : (Rows.fnTellWriteShareGroupStateRequestUptoRow.named == Tryz.prog.varsNamed 6) = true := by kernel_rfl
theorem WriteShareGroupStateRequest_j5 : joinedRest Tryz.prog 6 Tryz.f6 (Rows.OpenSpec.upto Rows.fnTellWriteShareGroupStateRequestSpec).bare Rows.fnTellWriteShareGroupStateRequestUptoRow = true := by kernel_rfl
theorem WriteShareGroupStateRequest_j6 : Tryz.prog.funcNamed "pub-mailsack/laws.FnTellWriteShareGroupStateRequest" = some 6 := by kernel_rfl
theorem WriteShareGroupStateRequest_j7 : false = Rows.fnTellWriteShareGroupStateRequestUptoRow.goesBy Tryz.prog := by kernel_rfl

theorem WriteShareGroupStateRequest_holds : Rows.FnTellWriteShareGroupStateRequestUptoSaid :=
  OpenClaim.holds_of_cond 6 Tryz.f6 rfl rfl rfl rfl rfl rfl rfl ⟨rfl, rfl, rfl, rfl, rfl⟩ rfl rfl rfl rfl rfl WriteShareGroupStateRequest_j6 Tryz.func6 (joined_of jLaid jMaps jKeys jStops jMay jLift jMake WriteShareGroupStateRequest_j1 WriteShareGroupStateRequest_j2 WriteShareGroupStateRequest_j3 WriteShareGroupStateRequest_j4 WriteShareGroupStateRequest_j5)
    (of_decide_eq_true (by kernel_rfl)) (by unfold Func.isWrapper; first | (rw [if_pos (by decide +kernel)]; kernel_rfl) | (rw [if_neg (by decide +kernel)]; exact ⟨rfl, rfl⟩))
    (fun os started H enc _ F => WriteShareGroupStateRequest_lifted os started H enc F)

theorem WriteShareGroupStateRequest_card : Rows.FnTellWriteShareGroupStateRequestUptoCardSaid :=
  Claim7.holds_tied_plain_at .later [] [.sentinel] true (true, "42b49a8ac704914b2ddbc483d9508e2c5c07f5e9685188a43ad7ee497d91d1f1") false
    WriteShareGroupStateRequest_holds (fun _ h => by cases h) (by kernel_rfl) (fun _ h => by cases h) fnTellWriteShareGroupStateRequestUpto_row_tie rfl ⟨rfl, rfl⟩ jMain rfl
    (fun f fn hf hfn => by
      obtain rfl : f = 6 := Option.some.inj (WriteShareGroupStateRequest_j6.symm.trans hf) |>.symm
      obtain rfl : fn = Tryz.f6 := (Option.some.inj (Tryz.func6.symm.trans hfn)).symm
      exact ⟨jLooks, fun j t ht => by
        rw [Tryz.params6] at ht
        have hm : t ∈ [5, 26] := by simpa using Array.mem_of_getElem? ht
        have hall : ([5, 26].all fun u => !Tryz.prog.wantsStandIn u) = true := by kernel_rfl
        exact (show Tryz.prog.wantsStandIn t = false by simpa using List.all_eq_true.1 hall t hm)⟩)
    WriteShareGroupStateRequest_j7

end Go.Proofs.YtkceiijlnaakjaaGreatDoor
