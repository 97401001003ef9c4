/-
  For every input of FnDefaultDeleteTopicsRequest the law returns true, and each argument reads afterwards as it read before; no condition but the row's own (the listed variable reads as the program's text says).
-/
import Derived.Test.YtcknmmkgmlkhaaaGreatDoorU
import Derived.Test.YtcknmmkgmlkhaaaGreatDoorMd
import Derived.Test.YtcknmmkgmlkhaaaGreatDoorJo
import Derived.Test.YtcknmmkgmlkhaaaGreatDoorJa
import Derived.Test.YtcknmmkgmlkhaaaGreatDoorJb
import Derived.Test.YtcknmmkgmlkhaaaGreatDoorJc
import Derived.Test.YtcknmmkgmlkhaaaGreatDoorJd
import Derived.Test.YtcknmmkgmlkhaaaGreatDoorJe
namespace Go.Proofs.YtcknmmkgmlkhaaaGreatDoor
open Go.Msk Go.ChangeShapes Go.WideShapes Go.ChangeAt Go.RowKit
set_option maxRecDepth 100000

theorem lawDeleteTopicsRequest {w : World} {n : Int} (hn : 0 ≤ n ∧ n < 256) {t : TR} {ts : List Value} (ht : RepT anyB w t ts) (hk : t.kok) (hlen : ∀ v, (writeP ⟨FX.fds fx_DeleteTopicsRequest, 4⟩ v t).length + 1000 ≤ lim) {Te : TypeId} {ve : Value} (hge : GErr (F gErr) w Te ve) :
    Calls Tryz.prog 5 [.int .u8 n, .agg ts.toArray].toArray w fun e w' => e = .returned (.bool true) ∧ Mod [] w w' :=
  def_msg lib libI slib msg_DeleteTopicsRequest (by kernel_rfl) uZ1 uZ2 uZ3 uVersion uGot uDfs uAt uNum hn ht hk hlen hge

theorem DeleteTopicsRequest_size : Nat.ble (FD.maxL (decide ((4 : Int) ≥ 0)) (FX.fds fx_DeleteTopicsRequest) + tagM (decide ((4 : Int) ≥ 0))) 70368744176664 = true := by kernel_rfl
theorem DeleteTopicsRequest_sizef : Nat.ble (FD.maxL false (FX.fds fx_DeleteTopicsRequest) + tagM false) 70368744176664 = true := by kernel_rfl
set_option maxHeartbeats 2000000 in
theorem DeleteTopicsRequest_lifted (os : Os) (started : os.Started) (H : Type) (enc : TypeId × Value → H) :
    ReturnsInHanded {} Tryz.checked os 5 .any (fun w args => (Rows.fnDefaultDeleteTopicsRequestSpec.pre enc Tryz.prog Tryz.f5 [] false w args ∧ laidMetH Tryz.prog laidL w) ∧ sizedMet enc Tryz.prog Tryz.f5 (OpenSpec.ofChange Rows.fnDefaultDeleteTopicsRequestSpec) false w args)
      (Rows.fnDefaultDeleteTopicsRequestSpec.post enc Tryz.prog Tryz.f5 false true false false) := by
  refine returnsInHanded_of_change_and (C := Tryz.checked) (X := fun w _ => laidMetH Tryz.prog laidL w) (fun _ _ _ hh h => h.of_heap hh) own started (by kernel_rfl) Tryz.func5
    (ChangeSpec.witness_shaped (enc := enc) (C := Tryz.checked) (os := os) (X := fun w _ => laidMetH Tryz.prog laidL w) false (World.doorLaid Tryz.prog 400 os) #[.int .u8 0, .agg #[.int .i64 0, .slice none 0 0, .bool false, .slice none 0 0, .slice none 0 0]] 8 rfl (World.shaped_of_RefB (by kernel_rfl) (by kernel_rfl)) (by kernel_rfl) (by kernel_rfl) (by kernel_rfl) (door_met os _)) ?_
  intro W base args ds gs before hval0 hW _ _ hL _
  have hval : ∀ (j : Nat) t v, Tryz.f5.params[j]? = some t → args[j]? = some v → Value.okWide Tryz.prog W .any base t v := hval0
  have hW' := hW
  obtain ⟨p, q, hA0, hV, rfl, hfz, hnd⟩ := hW
  have hA : DataW.TrodAll enc Tryz.prog W 0 (fun _ => true) true Tryz.f5.params.toList args.toList ds p := hA0
  rw [Tryz.params5] at hA hval
  obtain ⟨v0, v2, d0, d2, p0, p2, rfl, rfl, rfl, h0, h2⟩ := trodAll_two hA
  obtain ⟨rfl, rfl⟩ := trodVars_none hV
  obtain ⟨a, rfl, rfl, rfl, wa⟩ := open_int Tryz.underlying5 (hval 0 5 v0 rfl rfl) h0
  obtain ⟨t, ts, rfl, hrt, hko, -, hback2⟩ := open_tree treeTy jLaid treeRec treeRow (hval 1 26 v2 rfl rfl) h2
  obtain ⟨Te, ve, hge⟩ := gerr_of_laid gNum (show _ = some 54 by kernel_rfl) Tryz.underlying54 hL (by kernel_rfl)
  clear hA0 hval0
  refine (lawDeleteTopicsRequest (u8_of wa) hrt hko (md_len (flex := 4) msg_DeleteTopicsRequest.plain DeleteTopicsRequest_size DeleteTopicsRequest_sizef hko) hge).mono fun e W' ⟨he, hm⟩ => ?_
  subst he
  exact ⟨_, rfl, post_of_mod (s := Rows.fnDefaultDeleteTopicsRequestSpec) (pv := []) hW' (fun _ => trodAll_mk1 (shut_bool Tryz.underlying4 true)) (trodAll_mk2 (shut_int Tryz.underlying5 wa) (hback2 W' hm)) rfl hm⟩

theorem DeleteTopicsRequest_j1 : (Rows.fnDefaultDeleteTopicsRequestRow.inPlace == Tryz.prog.inPlace 5) = true := by kernel_rfl
theorem DeleteTopicsRequest_j2 : (Rows.fnDefaultDeleteTopicsRequestRow.unfollowed == Tryz.prog.unfollowed 5) = true := by kernel_rfl
theorem DeleteTopicsRequest_j3 : (Rows.fnDefaultDeleteTopicsRequestRow.recurses == Tryz.prog.recurses 5) = true := by kernel_rfl
theorem DeleteTopicsRequest_j4 : (Rows.fnDefaultDeleteTopicsRequestRow.named == Tryz.prog.varsNamed 5) = true := by kernel_rfl
theorem DeleteTopicsRequest_j5 : joinedRest Tryz.prog 5 Tryz.f5 Rows.fnDefaultDeleteTopicsRequestSpec Rows.fnDefaultDeleteTopicsRequestRow = true := by kernel_rfl
theorem DeleteTopicsRequest_j6 : Tryz.prog.funcNamed "pub-mailsack/laws.FnDefaultDeleteTopicsRequest" = some 5 := by kernel_rfl
theorem DeleteTopicsRequest_j7 : false = Rows.fnDefaultDeleteTopicsRequestRow.goesBy Tryz.prog := by kernel_rfl

theorem DeleteTopicsRequest_holds : Rows.FnDefaultDeleteTopicsRequestSaid :=
  OpenClaim.holds_of_wide 5 Tryz.f5 rfl rfl rfl rfl rfl rfl rfl ⟨rfl, rfl, rfl, rfl, rfl⟩ rfl rfl rfl rfl rfl DeleteTopicsRequest_j6 Tryz.func5 (joined_of jLaid jMaps jKeys jStops jMay jLift jMake DeleteTopicsRequest_j1 DeleteTopicsRequest_j2 DeleteTopicsRequest_j3 DeleteTopicsRequest_j4 DeleteTopicsRequest_j5)
    (of_decide_eq_true (by kernel_rfl)) (by unfold Func.isWrapper; first | (rw [if_pos (by decide +kernel)]; kernel_rfl) | (rw [if_neg (by decide +kernel)]; exact ⟨rfl, rfl⟩))
    (fun os started H enc _ => DeleteTopicsRequest_lifted os started H enc)

theorem DeleteTopicsRequest_card : Rows.FnDefaultDeleteTopicsRequestCardSaid :=
  Claim7.holds_tied_plain_at .later [] [.sentinel] true (true, "5f4d16a474fce8d8431efec0f294ecea4545ba3ea2bdeb99bf03cd0e62ad3b90") false
    DeleteTopicsRequest_holds (fun _ h => by cases h) (by kernel_rfl) (fun _ h => by cases h) fnDefaultDeleteTopicsRequest_row_tie rfl ⟨rfl, rfl⟩ jMain rfl
    (fun f fn hf hfn => by
      obtain rfl : f = 5 := Option.some.inj (DeleteTopicsRequest_j6.symm.trans hf) |>.symm
      obtain rfl : fn = Tryz.f5 := (Option.some.inj (Tryz.func5.symm.trans hfn)).symm
      exact ⟨jLooks, fun j t ht => by
        rw [Tryz.params5] at ht
        have hm : t ∈ [5, 26] := by simpa using Array.mem_of_getElem? ht
        have hall : ([5, 26].all fun u => !Tryz.prog.wantsStandIn u) = true := by kernel_rfl
        exact (show Tryz.prog.wantsStandIn t = false by simpa using List.all_eq_true.1 hall t hm)⟩)
    DeleteTopicsRequest_j7

end Go.Proofs.YtcknmmkgmlkhaaaGreatDoor
