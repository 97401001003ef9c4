/-
  For every input of FnTellUpdateRaftVoterResponse the law returns true, and each argument reads afterwards as it read before; no condition but the row's own (the listed variable reads as the program's text says).
-/
import Derived.Test.YtfoljfjkifiboaaGreatDoorU
import Derived.Test.YtfoljfjkifiboaaGreatDoorMa
import Derived.Test.YtfoljfjkifiboaaGreatDoorJo
import Derived.Test.YtfoljfjkifiboaaGreatDoorJa
import Derived.Test.YtfoljfjkifiboaaGreatDoorJb
import Derived.Test.YtfoljfjkifiboaaGreatDoorJc
import Derived.Test.YtfoljfjkifiboaaGreatDoorJd
import Derived.Test.YtfoljfjkifiboaaGreatDoorJe
namespace Go.Proofs.YtfoljfjkifiboaaGreatDoor
open Go.Msk Go.ChangeShapes Go.WideShapes Go.ChangeAt Go.RowKit
set_option maxRecDepth 100000

theorem lawUpdateRaftVoterResponse {w : World} {n : Int} (hn : 0 ≤ n ∧ n < 256) {t : TR} {ts : List Value} (ht : RepT anyB w t ts) (hk : t.kok) (hno : t.nok) (hlen : ∀ v, (kBK ⟨pf_UpdateRaftVoterResponse ++ [f_UpdateRaftVoterResponse], 0⟩ v t).length + 1000 ≤ lim) {Te : TypeId} {ve : Value} (hge : GErr (F gErr) w Te ve) :
    Calls Tryz.prog 3 [.int .u8 n, .agg ts.toArray].toArray w fun e w' => e = .returned (.bool true) ∧ Mod [] w w' :=
  kt_msg lib libI tlib uUsualK msg_UpdateRaftVoterResponse (by kernel_rfl) uZ1 uZ2 uZ3 uVersion uGot hn ht hk hno hlen hge

theorem UpdateRaftVoterResponse_size : Nat.ble (FD.maxL true pf_UpdateRaftVoterResponse + 3000000000 + FD.maxL true f_UpdateRaftVoterResponse.sub) 70368744170000 = true := by kernel_rfl
theorem UpdateRaftVoterResponse_sizef : Nat.ble (FD.maxL false pf_UpdateRaftVoterResponse) 70368744170000 = true := by kernel_rfl
set_option maxHeartbeats 2000000 in
theorem UpdateRaftVoterResponse_lifted (os : Os) (started : os.Started) (H : Type) (enc : TypeId × Value → H) :
    ReturnsInHanded {} Tryz.checked os 3 .any (fun w args => (Rows.fnTellUpdateRaftVoterResponseSpec.pre enc Tryz.prog Tryz.f3 [] false w args ∧ laidMetH Tryz.prog laidL w) ∧ sizedMet enc Tryz.prog Tryz.f3 (OpenSpec.ofChange Rows.fnTellUpdateRaftVoterResponseSpec) false w args)
      (Rows.fnTellUpdateRaftVoterResponseSpec.post enc Tryz.prog Tryz.f3 false true false false) := by
  refine returnsInHanded_of_change_and (C := Tryz.checked) (X := fun w _ => laidMetH Tryz.prog laidL w) (fun _ _ _ hh h => h.of_heap hh) own started (by kernel_rfl) Tryz.func3
    (ChangeSpec.witness_shaped (enc := enc) (C := Tryz.checked) (os := os) (X := fun w _ => laidMetH Tryz.prog laidL w) false (World.doorLaid Tryz.prog 400 os) #[.int .u8 0, .agg #[.int .i64 0, .slice none 0 0, .bool false, .slice none 0 0, .slice none 0 0]] 8 rfl (World.shaped_of_RefB (by kernel_rfl) (by kernel_rfl)) (by kernel_rfl) (by kernel_rfl) (by kernel_rfl) (door_met os _)) ?_
  intro W base args ds gs before hval0 hW _ _ hL _
  have hval : ∀ (j : Nat) t v, Tryz.f3.params[j]? = some t → args[j]? = some v → Value.okWide Tryz.prog W .any base t v := hval0
  have hW' := hW
  obtain ⟨p, q, hA0, hV, rfl, hfz, hnd⟩ := hW
  have hA : DataW.TrodAll enc Tryz.prog W 0 (fun _ => true) true Tryz.f3.params.toList args.toList ds p := hA0
  rw [Tryz.params3] at hA hval
  obtain ⟨v0, v2, d0, d2, p0, p2, rfl, rfl, rfl, h0, h2⟩ := trodAll_two hA
  obtain ⟨rfl, rfl⟩ := trodVars_none hV
  obtain ⟨a, rfl, rfl, rfl, wa⟩ := open_int Tryz.underlying5 (hval 0 5 v0 rfl rfl) h0
  obtain ⟨t, ts, rfl, hrt, hko, hno, -, hback2⟩ := open_tree treeTy jLaid treeRec treeRow (hval 1 26 v2 rfl rfl) h2
  obtain ⟨Te, ve, hge⟩ := kH8 gNum (show _ = some 56 by kernel_rfl) Tryz.underlying56 hL (by kernel_rfl)
  clear hA0 hval0
  refine (lawUpdateRaftVoterResponse (u8_of wa) hrt hko hno (msg_UpdateRaftVoterResponse.lenK UpdateRaftVoterResponse_size UpdateRaftVoterResponse_sizef hko) hge).mono fun e W' ⟨he, hm⟩ => ?_
  subst he
  exact ⟨_, rfl, kJR (s := Rows.fnTellUpdateRaftVoterResponseSpec) (pv := []) hW' (fun _ => trodAll_mk1 (shut_bool Tryz.underlying4 true)) (trodAll_mk2 (shut_int Tryz.underlying5 wa) (hback2 W' hm)) rfl hm⟩

theorem UpdateRaftVoterResponse_j1 : (Rows.fnTellUpdateRaftVoterResponseRow.inPlace == Tryz.prog.inPlace 3) = true := by kernel_rfl
theorem UpdateRaftVoterResponse_j2 : (Rows.fnTellUpdateRaftVoterResponseRow.unfollowed == Tryz.prog.unfollowed 3) = true := by kernel_rfl
theorem UpdateRaftVoterResponse_j3 : (Rows.fnTellUpdateRaftVoterResponseRow.recurses == Tryz.prog.recurses 3) = true := by kernel_rfl
theorem UpdateRaftVoterResponse_j4 : (Rows.fnTellUpdateRaftVoterResponseRow.named == Tryz.prog.varsNamed 3) = true := by kernel_rfl
theorem UpdateRaftVoterResponse_j5 : joinedRest Tryz.prog 3 Tryz.f3 Rows.fnTellUpdateRaftVoterResponseSpec Rows.fnTellUpdateRaftVoterResponseRow = true := by kernel_rfl
theorem UpdateRaftVoterResponse_j6 : Tryz.prog.funcNamed "pub-mailsack/laws.FnTellUpdateRaftVoterResponse" = some 3 := by kernel_rfl
theorem UpdateRaftVoterResponse_j7 : false = Rows.fnTellUpdateRaftVoterResponseRow.goesBy Tryz.prog := by kernel_rfl

theorem UpdateRaftVoterResponse_holds : Rows.FnTellUpdateRaftVoterResponseSaid :=
  OpenClaim.holds_of_wide 3 Tryz.f3 rfl rfl rfl rfl rfl rfl rfl ⟨rfl, rfl, rfl, rfl, rfl⟩ rfl rfl rfl rfl rfl UpdateRaftVoterResponse_j6 Tryz.func3 (joined_of jLaid jMaps jKeys jStops jMay jLift jMake UpdateRaftVoterResponse_j1 UpdateRaftVoterResponse_j2 UpdateRaftVoterResponse_j3 UpdateRaftVoterResponse_j4 UpdateRaftVoterResponse_j5)
    (of_decide_eq_true (by kernel_rfl)) (by unfold Func.isWrapper; first | (rw [if_pos (by decide +kernel)]; kernel_rfl) | (rw [if_neg (by decide +kernel)]; exact ⟨rfl, rfl⟩))
    (fun os started H enc _ => UpdateRaftVoterResponse_lifted os started H enc)

theorem UpdateRaftVoterResponse_card : Rows.FnTellUpdateRaftVoterResponseCardSaid :=
  Claim7.holds_tied_plain_at .later [] [.sentinel] true (true, "af531776d047fc6da166072732ff3fb78e56b092d6c3c372dc5220c0bb102e41") false
    UpdateRaftVoterResponse_holds (fun _ h => by cases h) (by kernel_rfl) (fun _ h => by cases h) fnTellUpdateRaftVoterResponse_row_tie rfl ⟨rfl, rfl⟩ jMain rfl
    (fun f fn hf hfn => by
      obtain rfl : f = 3 := Option.some.inj (UpdateRaftVoterResponse_j6.symm.trans hf) |>.symm
      obtain rfl : fn = Tryz.f3 := (Option.some.inj (Tryz.func3.symm.trans hfn)).symm
      exact ⟨jLooks, fun j t ht => by
        rw [Tryz.params3] at ht
        have hm : t ∈ [5, 26] := by simpa using Array.mem_of_getElem? ht
        have hall : ([5, 26].all fun u => !Tryz.prog.wantsStandIn u) = true := by kernel_rfl
        exact (show Tryz.prog.wantsStandIn t = false by simpa using List.all_eq_true.1 hall t hm)⟩)
    UpdateRaftVoterResponse_j7

end Go.Proofs.YtfoljfjkifiboaaGreatDoor
