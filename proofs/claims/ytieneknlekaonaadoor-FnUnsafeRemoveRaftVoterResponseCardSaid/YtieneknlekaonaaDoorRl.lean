/-
  For every input of FnUnsafeRemoveRaftVoterResponse the law returns true, and each argument reads afterwards as it read before; no condition but the row's own (the listed variable reads as the program's text says).
-/
import Derived.Test.YtieneknlekaonaaDoorU
import Derived.Test.YtieneknlekaonaaDoorMl
import Derived.Test.YtieneknlekaonaaDoorJo
import Derived.Test.YtieneknlekaonaaDoorJa
import Derived.Test.YtieneknlekaonaaDoorJb
import Derived.Test.YtieneknlekaonaaDoorJc
import Derived.Test.YtieneknlekaonaaDoorJd
import Derived.Test.YtieneknlekaonaaDoorJe
namespace Go.Proofs.YtieneknlekaonaaDoor
open Go.Msk Go.ChangeShapes Go.WideShapes Go.ChangeAt Go.RowKit
set_option maxRecDepth 100000

theorem unsRemoveRaftVoterResponse {w : World} {n : Int} (hn : 0 ≤ n ∧ n < 256) {v : Value} {src : List UInt8} (hsl : SlC (fun _ => True) w v src.length (u8s src)) {Te : TypeId} {ve : Value} (hge : GErr (F gErr) w Te ve) :
    Calls Tryd.prog 14 [.int .u8 n, v].toArray w fun e w' => e = .returned (.bool true) ∧ Mod [] w w' :=
  uns_msg lib libI msg_RemoveRaftVoterResponse (by kernel_rfl) uVersion uGot uSameTree uSame hn hsl hge

theorem RemoveRaftVoterResponse_lifted (os : Os) (started : os.Started) (H : Type) (enc : TypeId × Value → H) :
    ReturnsInHanded {} Tryd.checked os 14 .any (fun w args => (Rows.fnUnsafeRemoveRaftVoterResponseSpec.pre enc Tryd.prog Tryd.f14 [] false w args ∧ laidMetH Tryd.prog laidL w) ∧ sizedMet enc Tryd.prog Tryd.f14 (OpenSpec.ofChange Rows.fnUnsafeRemoveRaftVoterResponseSpec) false w args)
      (Rows.fnUnsafeRemoveRaftVoterResponseSpec.post enc Tryd.prog Tryd.f14 false true false false) := by
  refine returnsInHanded_of_change_and (C := Tryd.checked) (X := fun w _ => laidMetH Tryd.prog laidL w) (fun _ _ _ hh h => h.of_heap hh) own started (by kernel_rfl) Tryd.func14
    (ChangeSpec.witness_shaped (enc := enc) (C := Tryd.checked) (os := os) (X := fun w _ => laidMetH Tryd.prog laidL w) false (World.doorLaid Tryd.prog 400 os) #[.int .u8 0, .slice none 0 0] 8 rfl (World.shaped_of_RefB (by kernel_rfl) (by kernel_rfl)) (by kernel_rfl) (by kernel_rfl) (by kernel_rfl) (door_met os _)) ?_
  intro W base args ds gs before hval0 hW _ _ hL _
  have hval : ∀ (j : Nat) t v, Tryd.f14.params[j]? = some t → args[j]? = some v → Value.okWide Tryd.prog W .any base t v := hval0
  have hW' := hW
  obtain ⟨p, q, hA0, hV, rfl, hfz, hnd⟩ := hW
  have hA : DataW.TrodAll enc Tryd.prog W 0 (fun _ => true) true Tryd.f14.params.toList args.toList ds p := hA0
  rw [Tryd.params14] at hA hval
  obtain ⟨v0, v1, d0, d1, p0, p1, rfl, rfl, rfl, h0, h1⟩ := trodAll_two hA
  obtain ⟨rfl, rfl⟩ := trodVars_none hV
  obtain ⟨a, rfl, rfl, rfl, wa⟩ := open_int Tryd.underlying5 (hval 0 5 v0 rfl rfl) h0
  obtain ⟨src, hsl, hback⟩ := open_octets Tryd.underlying22 Tryd.underlying5 (by kernel_rfl) (hval 1 22 v1 rfl rfl) h1
  obtain ⟨Te, ve, hge⟩ := gerr_of_laid gNum (show _ = some 44 by kernel_rfl) Tryd.underlying44 hL (by kernel_rfl)
  clear hA0 hval0
  refine (unsRemoveRaftVoterResponse (u8_of wa) hsl hge).mono fun e W' ⟨he, hm⟩ => ?_
  subst he
  exact ⟨_, rfl, post_of_mod (pv := []) hW' (fun _ => trodAll_mk1 (shut_bool Tryd.underlying4 true)) (trodAll_mk2 (shut_int Tryd.underlying5 wa) (hback W' hm)) rfl hm⟩

theorem RemoveRaftVoterResponse_j1 : (Rows.fnUnsafeRemoveRaftVoterResponseRow.inPlace == Tryd.prog.inPlace 14) = true := by kernel_rfl
theorem RemoveRaftVoterResponse_j2 : (Rows.fnUnsafeRemoveRaftVoterResponseRow.unfollowed == Tryd.prog.unfollowed 14) = true := by kernel_rfl
theorem RemoveRaftVoterResponse_j3 : (Rows.fnUnsafeRemoveRaftVoterResponseRow.recurses == Tryd.prog.recurses 14) = true := by kernel_rfl
theorem RemoveRaftVoterResponse_j4 : (Rows.fnUnsafeRemoveRaftVoterResponseRow.named == Tryd.prog.varsNamed 14) = true := by kernel_rfl
theorem RemoveRaftVoterResponse_j5 : joinedRest Tryd.prog 14 Tryd.f14 Rows.fnUnsafeRemoveRaftVoterResponseSpec Rows.fnUnsafeRemoveRaftVoterResponseRow = true := by kernel_rfl
theorem RemoveRaftVoterResponse_j6 : Tryd.prog.funcNamed "pub-mailsack/laws.FnUnsafeRemoveRaftVoterResponse" = some 14 := by kernel_rfl
theorem RemoveRaftVoterResponse_j7 : false = Rows.fnUnsafeRemoveRaftVoterResponseRow.goesBy Tryd.prog := by kernel_rfl

theorem RemoveRaftVoterResponse_holds : Rows.FnUnsafeRemoveRaftVoterResponseSaid :=
  OpenClaim.holds_of_wide 14 Tryd.f14 rfl rfl rfl rfl rfl rfl rfl ⟨rfl, rfl, rfl, rfl, rfl⟩ rfl rfl rfl rfl rfl RemoveRaftVoterResponse_j6 Tryd.func14 (joined_of jLaid jMaps jKeys jStops jMay jLift jMake RemoveRaftVoterResponse_j1 RemoveRaftVoterResponse_j2 RemoveRaftVoterResponse_j3 RemoveRaftVoterResponse_j4 RemoveRaftVoterResponse_j5)
    (of_decide_eq_true (by kernel_rfl)) (by unfold Func.isWrapper; first | (rw [if_pos (by decide +kernel)]; kernel_rfl) | (rw [if_neg (by decide +kernel)]; exact ⟨rfl, rfl⟩))
    (fun os started H enc _ => RemoveRaftVoterResponse_lifted os started H enc)

theorem RemoveRaftVoterResponse_card : Rows.FnUnsafeRemoveRaftVoterResponseCardSaid :=
  Claim7.holds_tied_plain_at .later [] [.sentinel] true (true, "b6c32a2adf760e1f662a716f062875115922cac70eb76b58d23fbd76494a9af4") false
    RemoveRaftVoterResponse_holds (fun _ h => by cases h) (by kernel_rfl) (fun _ h => by cases h) fnUnsafeRemoveRaftVoterResponse_row_tie rfl ⟨rfl, rfl⟩ jMain rfl
    (fun f fn hf hfn => by
      obtain rfl : f = 14 := Option.some.inj (RemoveRaftVoterResponse_j6.symm.trans hf) |>.symm
      obtain rfl : fn = Tryd.f14 := (Option.some.inj (Tryd.func14.symm.trans hfn)).symm
      exact ⟨jLooks, fun j t ht => by
        rw [Tryd.params14] at ht
        have hm : t ∈ [5, 22] := by simpa using Array.mem_of_getElem? ht
        have hall : ([5, 22].all fun u => !Tryd.prog.wantsStandIn u) = true := by kernel_rfl
        exact (show Tryd.prog.wantsStandIn t = false by simpa using List.all_eq_true.1 hall t hm)⟩)
    RemoveRaftVoterResponse_j7

end Go.Proofs.YtieneknlekaonaaDoor
