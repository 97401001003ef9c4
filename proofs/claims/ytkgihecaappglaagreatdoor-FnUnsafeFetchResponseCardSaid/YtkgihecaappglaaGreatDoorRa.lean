/-
  For every input of FnUnsafeFetchResponse the law returns true, and each argument reads afterwards as it read before; no condition but the row's own (the listed variable reads as the program's text says).
-/
import Derived.Test.YtkgihecaappglaaGreatDoorU
import Derived.Test.YtkgihecaappglaaGreatDoorMa
import Derived.Test.YtkgihecaappglaaGreatDoorJo
import Derived.Test.YtkgihecaappglaaGreatDoorJa
import Derived.Test.YtkgihecaappglaaGreatDoorJb
import Derived.Test.YtkgihecaappglaaGreatDoorJc
import Derived.Test.YtkgihecaappglaaGreatDoorJd
import Derived.Test.YtkgihecaappglaaGreatDoorJe
namespace Go.Proofs.YtkgihecaappglaaGreatDoor
open Go.Msk Go.ChangeShapes Go.WideShapes Go.ChangeAt Go.RowKit
set_option maxRecDepth 100000

theorem unsFetchResponse {w : World} {n : Int} (hn : 0 ≤ n ∧ n < 256) {v : Value} {src : List UInt8} (hsl : SlC (fun _ => True) w v src.length (u8s src)) {Te : TypeId} {ve : Value} (hge : GErr (F gErr) w Te ve) :
    Calls Tryz.prog 3 [.int .u8 n, v].toArray w fun e w' => e = .returned (.bool true) ∧ Mod [] w w' :=
  uns_msg lib libI msg_FetchResponse (by kernel_rfl) uVersion uGot uSameTree uSame hn hsl hge

theorem FetchResponse_lifted (os : Os) (started : os.Started) (H : Type) (enc : TypeId × Value → H) :
    ReturnsInHanded {} Tryz.checked os 3 .any (fun w args => (Rows.fnUnsafeFetchResponseSpec.pre enc Tryz.prog Tryz.f3 [] false w args ∧ laidMetH Tryz.prog laidL w) ∧ sizedMet enc Tryz.prog Tryz.f3 (OpenSpec.ofChange Rows.fnUnsafeFetchResponseSpec) false w args)
      (Rows.fnUnsafeFetchResponseSpec.post enc Tryz.prog Tryz.f3 false true false false) := by
  refine returnsInHanded_of_change_and (C := Tryz.checked) (X := fun w _ => laidMetH Tryz.prog laidL w) (fun _ _ _ hh h => h.of_heap hh) own started (by kernel_rfl) Tryz.func3
    (ChangeSpec.witness_shaped (enc := enc) (C := Tryz.checked) (os := os) (X := fun w _ => laidMetH Tryz.prog laidL w) false (World.doorLaid Tryz.prog 400 os) #[.int .u8 0, .slice none 0 0] 8 rfl (World.shaped_of_RefB (by kernel_rfl) (by kernel_rfl)) (by kernel_rfl) (by kernel_rfl) (by kernel_rfl) (door_met os _)) ?_
  intro W base args ds gs before hval0 hW _ _ hL _
  have hval : ∀ (j : Nat) t v, Tryz.f3.params[j]? = some t → args[j]? = some v → Value.okWide Tryz.prog W .any base t v := hval0
  have hW' := hW
  obtain ⟨p, q, hA0, hV, rfl, hfz, hnd⟩ := hW
  have hA : DataW.TrodAll enc Tryz.prog W 0 (fun _ => true) true Tryz.f3.params.toList args.toList ds p := hA0
  rw [Tryz.params3] at hA hval
  obtain ⟨v0, v1, d0, d1, p0, p1, rfl, rfl, rfl, h0, h1⟩ := trodAll_two hA
  obtain ⟨rfl, rfl⟩ := trodVars_none hV
  obtain ⟨a, rfl, rfl, rfl, wa⟩ := open_int Tryz.underlying5 (hval 0 5 v0 rfl rfl) h0
  obtain ⟨src, hsl, hback⟩ := open_octets Tryz.underlying22 Tryz.underlying5 (by kernel_rfl) (hval 1 22 v1 rfl rfl) h1
  obtain ⟨Te, ve, hge⟩ := gerr_of_laid gNum (show _ = some 44 by kernel_rfl) Tryz.underlying44 hL (by kernel_rfl)
  clear hA0 hval0
  refine (unsFetchResponse (u8_of wa) hsl hge).mono fun e W' ⟨he, hm⟩ => ?_
  subst he
  exact ⟨_, rfl, post_of_mod (pv := []) hW' (fun _ => trodAll_mk1 (shut_bool Tryz.underlying4 true)) (trodAll_mk2 (shut_int Tryz.underlying5 wa) (hback W' hm)) rfl hm⟩

theorem FetchResponse_j1 : (Rows.fnUnsafeFetchResponseRow.inPlace == Tryz.prog.inPlace 3) = true := by kernel_rfl
theorem FetchResponse_j2 : (Rows.fnUnsafeFetchResponseRow.unfollowed == Tryz.prog.unfollowed 3) = true := by kernel_rfl
theorem FetchResponse_j3 : (Rows.fnUnsafeFetchResponseRow.recurses == Tryz.prog.recurses 3) = true := by kernel_rfl
theorem FetchResponse_j4 : (Rows.fnUnsafeFetchResponseRow.named == Tryz.prog.varsNamed 3) = true := by kernel_rfl
theorem FetchResponse_j5 : joinedRest Tryz.prog 3 Tryz.f3 Rows.fnUnsafeFetchResponseSpec Rows.fnUnsafeFetchResponseRow = true := by kernel_rfl
theorem FetchResponse_j6 : Tryz.prog.funcNamed "pub-mailsack/laws.FnUnsafeFetchResponse" = some 3 := by kernel_rfl
theorem FetchResponse_j7 : false = Rows.fnUnsafeFetchResponseRow.goesBy Tryz.prog := by kernel_rfl

theorem FetchResponse_holds : Rows.FnUnsafeFetchResponseSaid :=
  OpenClaim.holds_of_wide 3 Tryz.f3 rfl rfl rfl rfl rfl rfl rfl ⟨rfl, rfl, rfl, rfl, rfl⟩ rfl rfl rfl rfl rfl FetchResponse_j6 Tryz.func3 (joined_of jLaid jMaps jKeys jStops jMay jLift jMake FetchResponse_j1 FetchResponse_j2 FetchResponse_j3 FetchResponse_j4 FetchResponse_j5)
    (of_decide_eq_true (by kernel_rfl)) (by unfold Func.isWrapper; first | (rw [if_pos (by decide +kernel)]; kernel_rfl) | (rw [if_neg (by decide +kernel)]; exact ⟨rfl, rfl⟩))
    (fun os started H enc _ => FetchResponse_lifted os started H enc)

theorem FetchResponse_card : Rows.FnUnsafeFetchResponseCardSaid :=
  Claim7.holds_tied_plain_at .later [] [.sentinel] true (true, "bcb94881c3157bbcd13154ca75216933b8ab2f635b44f9e7eb6a9976cff8a91c") false
    FetchResponse_holds (fun _ h => by cases h) (by kernel_rfl) (fun _ h => by cases h) fnUnsafeFetchResponse_row_tie rfl ⟨rfl, rfl⟩ jMain rfl
    (fun f fn hf hfn => by
      obtain rfl : f = 3 := Option.some.inj (FetchResponse_j6.symm.trans hf) |>.symm
      obtain rfl : fn = Tryz.f3 := (Option.some.inj (Tryz.func3.symm.trans hfn)).symm
      exact ⟨jLooks, fun j t ht => by
        rw [Tryz.params3] at ht
        have hm : t ∈ [5, 22] := by simpa using Array.mem_of_getElem? ht
        have hall : ([5, 22].all fun u => !Tryz.prog.wantsStandIn u) = true := by kernel_rfl
        exact (show Tryz.prog.wantsStandIn t = false by simpa using List.all_eq_true.1 hall t hm)⟩)
    FetchResponse_j7

end Go.Proofs.YtkgihecaappglaaGreatDoor
