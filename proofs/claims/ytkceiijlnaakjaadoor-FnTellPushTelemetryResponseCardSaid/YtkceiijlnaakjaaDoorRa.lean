/-
  For every input of FnTellPushTelemetryResponse the law returns true, and each argument reads afterwards as it read before; no condition but the row's own (the listed variable reads as the program's text says).
-/
import Derived.Test.YtkceiijlnaakjaaDoorU
import Derived.Test.YtkceiijlnaakjaaDoorMa
import Derived.Test.YtkceiijlnaakjaaDoorJo
import Derived.Test.YtkceiijlnaakjaaDoorJa
import Derived.Test.YtkceiijlnaakjaaDoorJb
import Derived.Test.YtkceiijlnaakjaaDoorJc
import Derived.Test.YtkceiijlnaakjaaDoorJd
import Derived.Test.YtkceiijlnaakjaaDoorJe
namespace Go.Proofs.YtkceiijlnaakjaaDoor
open Go.Msk Go.ChangeShapes Go.WideShapes Go.ChangeAt Go.RowKit
set_option maxRecDepth 100000

theorem lawPushTelemetryResponse {w : World} {n : Int} (hn : 0 ≤ n ∧ n < 256) {t : TR} {ts : List Value} (ht : RepT anyB w t ts) (hk : t.kok) (hno : t.nok) (hlen : ∀ v, (writeP ⟨FX.fds fx_PushTelemetryResponse, 0⟩ v t).length + 1000 ≤ lim) {Te : TypeId} {ve : Value} (hge : GErr (F gErr) w Te ve) :
    Calls Tryd.prog 3 [.int .u8 n, .agg ts.toArray].toArray w fun e w' => e = .returned (.bool true) ∧ Mod [] w w' :=
  tell_msg lib libI tlib msg_PushTelemetryResponse (by kernel_rfl) uZ1 uZ2 uZ3 uVersion uGot hn ht hk hno hlen hge

theorem PushTelemetryResponse_size : Nat.ble (FD.maxL (decide ((0 : Int) ≥ 0)) (FX.fds fx_PushTelemetryResponse) + tagM (decide ((0 : Int) ≥ 0))) 70368744176664 = true := by kernel_rfl
theorem PushTelemetryResponse_sizef : Nat.ble (FD.maxL false (FX.fds fx_PushTelemetryResponse) + tagM false) 70368744176664 = true := by kernel_rfl
set_option maxHeartbeats 2000000 in
theorem PushTelemetryResponse_lifted (os : Os) (started : os.Started) (H : Type) (enc : TypeId × Value → H) :
    ReturnsInHanded {} Tryd.checked os 3 .any (fun w args => (Rows.fnTellPushTelemetryResponseSpec.pre enc Tryd.prog Tryd.f3 [] false w args ∧ laidMetH Tryd.prog laidL w) ∧ sizedMet enc Tryd.prog Tryd.f3 (OpenSpec.ofChange Rows.fnTellPushTelemetryResponseSpec) false w args)
      (Rows.fnTellPushTelemetryResponseSpec.post enc Tryd.prog Tryd.f3 false true false false) := by
  refine returnsInHanded_of_change_and (C := Tryd.checked) (X := fun w _ => laidMetH Tryd.prog laidL w) (fun _ _ _ hh h => h.of_heap hh) own started (by kernel_rfl) Tryd.func3
    (ChangeSpec.witness_shaped (enc := enc) (C := Tryd.checked) (os := os) (X := fun w _ => laidMetH Tryd.prog laidL w) false (World.doorLaid Tryd.prog 400 os) #[.int .u8 0, .agg #[.int .i64 0, .slice none 0 0, .bool false, .slice none 0 0, .slice none 0 0]] 8 rfl (World.shaped_of_RefB (by kernel_rfl) (by kernel_rfl)) (by kernel_rfl) (by kernel_rfl) (by kernel_rfl) (door_met os _)) ?_
  intro W base args ds gs before hval0 hW _ _ hL _
  have hval : ∀ (j : Nat) t v, Tryd.f3.params[j]? = some t → args[j]? = some v → Value.okWide Tryd.prog W .any base t v := hval0
  have hW' := hW
  obtain ⟨p, q, hA0, hV, rfl, hfz, hnd⟩ := hW
  have hA : DataW.TrodAll enc Tryd.prog W 0 (fun _ => true) true Tryd.f3.params.toList args.toList ds p := hA0
  rw [Tryd.params3] at hA hval
  obtain ⟨v0, v2, d0, d2, p0, p2, rfl, rfl, rfl, h0, h2⟩ := trodAll_two hA
  obtain ⟨rfl, rfl⟩ := trodVars_none hV
  obtain ⟨a, rfl, rfl, rfl, wa⟩ := open_int Tryd.underlying5 (hval 0 5 v0 rfl rfl) h0
  obtain ⟨t, ts, rfl, hrt, hko, hno, -, hback2⟩ := open_tree treeTy jLaid treeRec treeRow (hval 1 26 v2 rfl rfl) h2
  obtain ⟨Te, ve, hge⟩ := gerr_of_laid gNum (show _ = some 54 by kernel_rfl) Tryd.underlying54 hL (by kernel_rfl)
  clear hA0 hval0
  refine (lawPushTelemetryResponse (u8_of wa) hrt hko hno (md_len (flex := 0) msg_PushTelemetryResponse.plain PushTelemetryResponse_size PushTelemetryResponse_sizef hko) hge).mono fun e W' ⟨he, hm⟩ => ?_
  subst he
  exact ⟨_, rfl, post_of_mod (s := Rows.fnTellPushTelemetryResponseSpec) (pv := []) hW' (fun _ => trodAll_mk1 (shut_bool Tryd.underlying4 true)) (trodAll_mk2 (shut_int Tryd.underlying5 wa) (hback2 W' hm)) rfl hm⟩

theorem PushTelemetryResponse_j1 : (Rows.fnTellPushTelemetryResponseRow.inPlace == Tryd.prog.inPlace 3) = true := by kernel_rfl
theorem PushTelemetryResponse_j2 : (Rows.fnTellPushTelemetryResponseRow.unfollowed == Tryd.prog.unfollowed 3) = true := by kernel_rfl
theorem PushTelemetryResponse_j3 : (Rows.fnTellPushTelemetryResponseRow.recurses == Tryd.prog.recurses 3) = true := by kernel_rfl
theorem PushTelemetryResponse_j4 : (Rows.fnTellPushTelemetryResponseRow.named == Tryd.prog.varsNamed 3) = true := by kernel_rfl
theorem PushTelemetryResponse_j5 : joinedRest Tryd.prog 3 Tryd.f3 Rows.fnTellPushTelemetryResponseSpec Rows.fnTellPushTelemetryResponseRow = true := by kernel_rfl
theorem PushTelemetryResponse_j6 : Tryd.prog.funcNamed "pub-mailsack/laws.FnTellPushTelemetryResponse" = some 3 := by kernel_rfl
theorem PushTelemetryResponse_j7 : false = Rows.fnTellPushTelemetryResponseRow.goesBy Tryd.prog := by kernel_rfl

theorem PushTelemetryResponse_holds : Rows.FnTellPushTelemetryResponseSaid :=
  OpenClaim.holds_of_wide 3 Tryd.f3 rfl rfl rfl rfl rfl rfl rfl ⟨rfl, rfl, rfl, rfl, rfl⟩ rfl rfl rfl rfl rfl PushTelemetryResponse_j6 Tryd.func3 (joined_of jLaid jMaps jKeys jStops jMay jLift jMake PushTelemetryResponse_j1 PushTelemetryResponse_j2 PushTelemetryResponse_j3 PushTelemetryResponse_j4 PushTelemetryResponse_j5)
    (of_decide_eq_true (by kernel_rfl)) (by unfold Func.isWrapper; first | (rw [if_pos (by decide +kernel)]; kernel_rfl) | (rw [if_neg (by decide +kernel)]; exact ⟨rfl, rfl⟩))
    (fun os started H enc _ => PushTelemetryResponse_lifted os started H enc)

theorem PushTelemetryResponse_card : Rows.FnTellPushTelemetryResponseCardSaid :=
  Claim7.holds_tied_plain_at .later [] [.sentinel] true (true, "55299335a28a53267334b4cfaab32f2cd1370e9c42351eaf9733722b48ada8d9") false
    PushTelemetryResponse_holds (fun _ h => by cases h) (by kernel_rfl) (fun _ h => by cases h) fnTellPushTelemetryResponse_row_tie rfl ⟨rfl, rfl⟩ jMain rfl
    (fun f fn hf hfn => by
      obtain rfl : f = 3 := Option.some.inj (PushTelemetryResponse_j6.symm.trans hf) |>.symm
      obtain rfl : fn = Tryd.f3 := (Option.some.inj (Tryd.func3.symm.trans hfn)).symm
      exact ⟨jLooks, fun j t ht => by
        rw [Tryd.params3] at ht
        have hm : t ∈ [5, 26] := by simpa using Array.mem_of_getElem? ht
        have hall : ([5, 26].all fun u => !Tryd.prog.wantsStandIn u) = true := by kernel_rfl
        exact (show Tryd.prog.wantsStandIn t = false by simpa using List.all_eq_true.1 hall t hm)⟩)
    PushTelemetryResponse_j7

end Go.Proofs.YtkceiijlnaakjaaDoor
