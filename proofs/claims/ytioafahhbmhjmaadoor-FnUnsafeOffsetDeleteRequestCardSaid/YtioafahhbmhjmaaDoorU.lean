/-
  The rows of this seat, proved.
-/
import Derived.Test.YtioafahhbmhjmaaDoorRows
import Derived.Test.YtioafahhbmhjmaaDoorM
import Derived.Test.YtioafahhbmhjmaaDoorCards
import Derived.Test.YtioafahhbmhjmaaDoorTie
import Derived.SevenTiedAt
namespace Go.Proofs.YtioafahhbmhjmaaDoor
open Go.Msk Go.ChangeShapes Go.WideShapes Go.ChangeAt Go.RowKit
set_option maxRecDepth 100000

theorem own : ownKnob Tryd.prog.godebug = none := by kernel_rfl
theorem gNum : Tryd.prog.globalNamed "pub-mailsack/pub/kmsg/inner/kbin.ErrNotEnoughData" = some (F gErr) := by kernel_rfl
theorem uVersion : liftF Tryd.prog (F lVersion) = some (ir_lVersion F) := by kernel_rfl
theorem uGot : liftF Tryd.prog (F lGot) = some (ir_lGot F) := by kernel_rfl
theorem uSameTree : liftF Tryd.prog (F sSameTree) = some (ir_sSameTree F) := by kernel_rfl
theorem uSame : liftF Tryd.prog (F sSame) = some (ir_sSame F) := by kernel_rfl

def laidL : List (String × DataW Unit) := [("pub-mailsack/pub/kmsg/inner/kbin.ErrNotEnoughData", Rows.laid_pub_mailsack_pub_kmsg_inner_kbin_ErrNotEnoughData)]

theorem door_met (os : Os) (args : Array Value) : laidMetH Tryd.prog laidL ((World.doorLaid Tryd.prog 400 os).forCall (fun _ _ => 0) ⟨#[], args, []⟩).memory :=
  laidMetH_of_parts3 (fuel := 8) (laidMet_of_run' 8 (by kernel_rfl) (by kernel_rfl)) (by kernel_rfl) (by kernel_rfl)

theorem unsOffsetDeleteRequest {w : World} {n : Int} (hn : 0 ≤ n ∧ n < 256) {v : Value} {src : List UInt8} (hsl : SlC (fun _ => True) w v src.length (u8s src)) {Te : TypeId} {ve : Value} (hge : GErr (F gErr) w Te ve) :
    Calls Tryd.prog 4 [.int .u8 n, v].toArray w fun e w' => e = .returned (.bool true) ∧ Mod [] w w' :=
  uns_msg lib libI msg_OffsetDeleteRequest (by kernel_rfl) uVersion uGot uSameTree uSame hn hsl hge

theorem OffsetDeleteRequest_lifted (os : Os) (started : os.Started) (H : Type) (enc : TypeId × Value → H) :
    ReturnsInHanded {} Tryd.checked os 4 .any (fun w args => (Rows.fnUnsafeOffsetDeleteRequestSpec.pre enc Tryd.prog Tryd.f4 [] false w args ∧ laidMetH Tryd.prog laidL w) ∧ sizedMet enc Tryd.prog Tryd.f4 (OpenSpec.ofChange Rows.fnUnsafeOffsetDeleteRequestSpec) false w args)
      (Rows.fnUnsafeOffsetDeleteRequestSpec.post enc Tryd.prog Tryd.f4 false true false false) := by
  refine returnsInHanded_of_change_and (C := Tryd.checked) (X := fun w _ => laidMetH Tryd.prog laidL w) (fun _ _ _ hh h => h.of_heap hh) own started (by kernel_rfl) Tryd.func4
    (ChangeSpec.witness_shaped (enc := enc) (C := Tryd.checked) (os := os) (X := fun w _ => laidMetH Tryd.prog laidL w) false (World.doorLaid Tryd.prog 400 os) #[.int .u8 0, .slice none 0 0] 8 rfl (World.shaped_of_RefB (by kernel_rfl) (by kernel_rfl)) (by kernel_rfl) (by kernel_rfl) (by kernel_rfl) (door_met os _)) ?_
  intro W base args ds gs before hval0 hW _ _ hL _
  have hval : ∀ (j : Nat) t v, Tryd.f4.params[j]? = some t → args[j]? = some v → Value.okWide Tryd.prog W .any base t v := hval0
  have hW' := hW
  obtain ⟨p, q, hA0, hV, rfl, hfz, hnd⟩ := hW
  have hA : DataW.TrodAll enc Tryd.prog W 0 (fun _ => true) true Tryd.f4.params.toList args.toList ds p := hA0
  rw [Tryd.params4] at hA hval
  obtain ⟨v0, v1, d0, d1, p0, p1, rfl, rfl, rfl, h0, h1⟩ := trodAll_two hA
  obtain ⟨rfl, rfl⟩ := trodVars_none hV
  obtain ⟨a, rfl, rfl, rfl, wa⟩ := open_int Tryd.underlying5 (hval 0 5 v0 rfl rfl) h0
  obtain ⟨src, hsl, hback⟩ := open_octets Tryd.underlying22 Tryd.underlying5 (by kernel_rfl) (hval 1 22 v1 rfl rfl) h1
  obtain ⟨Te, ve, hge⟩ := gerr_of_laid gNum (show _ = some 60 by kernel_rfl) Tryd.underlying60 hL (by kernel_rfl)
  clear hA0 hval0
  refine (unsOffsetDeleteRequest (u8_of wa) hsl hge).mono fun e W' ⟨he, hm⟩ => ?_
  subst he
  exact ⟨_, rfl, post_of_mod (pv := []) hW' (fun _ => trodAll_mk1 (shut_bool Tryd.underlying4 true)) (trodAll_mk2 (shut_int Tryd.underlying5 wa) (hback W' hm)) rfl hm⟩

theorem OffsetDeleteRequest_holds : Rows.FnUnsafeOffsetDeleteRequestSaid :=
  OpenClaim.holds_of_wide 4 Tryd.f4 rfl rfl rfl rfl rfl rfl rfl ⟨rfl, rfl, rfl, rfl, rfl⟩ rfl rfl rfl rfl rfl (by kernel_rfl) Tryd.func4 (by kernel_rfl)
    (of_decide_eq_true (by kernel_rfl)) (by unfold Func.isWrapper; first | (rw [if_pos (by decide +kernel)]; kernel_rfl) | (rw [if_neg (by decide +kernel)]; exact ⟨rfl, rfl⟩))
    (fun os started H enc _ => OffsetDeleteRequest_lifted os started H enc)

theorem OffsetDeleteRequest_card : Rows.FnUnsafeOffsetDeleteRequestCardSaid :=
  Claim7.holds_tied_plain_at .later [] [.sentinel] true (true, "4b951ba02a64e5c86b17eb2b2a9702b12eab2b5b64a03ee5cb80af28fbaac733") false
    OffsetDeleteRequest_holds (fun _ h => by cases h) (by kernel_rfl) (fun _ h => by cases h) fnUnsafeOffsetDeleteRequest_row_tie rfl ⟨rfl, rfl⟩ (by kernel_rfl) rfl
    (fun f fn hf hfn => by
      obtain rfl : f = 4 := Option.some.inj ((show Tryd.prog.funcNamed "pub-mailsack/laws.FnUnsafeOffsetDeleteRequest" = some 4 by kernel_rfl).symm.trans hf) |>.symm
      obtain rfl : fn = Tryd.f4 := (Option.some.inj (Tryd.func4.symm.trans hfn)).symm
      exact ⟨by kernel_rfl, fun j t ht => by
        rw [Tryd.params4] at ht
        have hm : t ∈ [5, 22] := by simpa using Array.mem_of_getElem? ht
        have hall : ([5, 22].all fun u => !Tryd.prog.wantsStandIn u) = true := by kernel_rfl
        exact (show Tryd.prog.wantsStandIn t = false by simpa using List.all_eq_true.1 hall t hm)⟩)
    (by kernel_rfl)


end Go.Proofs.YtioafahhbmhjmaaDoor
