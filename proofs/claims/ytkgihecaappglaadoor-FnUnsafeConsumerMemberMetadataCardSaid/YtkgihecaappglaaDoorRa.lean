/-
  For every input of FnUnsafeConsumerMemberMetadata the law returns true, and each argument reads afterwards as it read before; no condition but the row's own (the listed variable reads as the program's text says).
-/
import Derived.Test.YtkgihecaappglaaDoorU
import Derived.Test.YtkgihecaappglaaDoorMa
import Derived.Test.YtkgihecaappglaaDoorJo
import Derived.Test.YtkgihecaappglaaDoorJa
import Derived.Test.YtkgihecaappglaaDoorJb
import Derived.Test.YtkgihecaappglaaDoorJc
import Derived.Test.YtkgihecaappglaaDoorJd
import Derived.Test.YtkgihecaappglaaDoorJe
namespace Go.Proofs.YtkgihecaappglaaDoor
open Go.Msk Go.ChangeShapes Go.WideShapes Go.ChangeAt Go.RowKit
set_option maxRecDepth 100000

theorem unsConsumerMemberMetadata {w : World} {v : Value} {src : List UInt8} (hsl : SlC (fun _ => True) w v src.length (u8s src)) {Te : TypeId} {ve : Value} (hge : GErr (F gErr) w Te ve) :
    Calls Tryd.prog 3 [v].toArray w fun e w' => e = .returned (.bool true) ∧ Mod [] w w' :=
  kuns_msg lib libI slib msg_ConsumerMemberMetadata (by kernel_rfl) uKept uFixed uGot uSameTree uSame hsl hge

theorem ConsumerMemberMetadata_lifted (os : Os) (started : os.Started) (H : Type) (enc : TypeId × Value → H) :
    ReturnsInHanded {} Tryd.checked os 3 .any (fun w args => (Rows.fnUnsafeConsumerMemberMetadataSpec.pre enc Tryd.prog Tryd.f3 [] false w args ∧ laidMetH Tryd.prog laidL w) ∧ sizedMet enc Tryd.prog Tryd.f3 (OpenSpec.ofChange Rows.fnUnsafeConsumerMemberMetadataSpec) false w args)
      (Rows.fnUnsafeConsumerMemberMetadataSpec.post enc Tryd.prog Tryd.f3 false true false false) := by
  refine returnsInHanded_of_change_and (C := Tryd.checked) (X := fun w _ => laidMetH Tryd.prog laidL w) (fun _ _ _ hh h => h.of_heap hh) own started (by kernel_rfl) Tryd.func3
    (ChangeSpec.witness_shaped (enc := enc) (C := Tryd.checked) (os := os) (X := fun w _ => laidMetH Tryd.prog laidL w) false (World.doorLaid Tryd.prog 400 os) #[.slice none 0 0] 8 rfl (World.shaped_of_RefB (by kernel_rfl) (by kernel_rfl)) (by kernel_rfl) (by kernel_rfl) (by kernel_rfl) (door_met os _)) ?_
  intro W base args ds gs before hval0 hW _ _ hL _
  have hval : ∀ (j : Nat) t v, Tryd.f3.params[j]? = some t → args[j]? = some v → Value.okWide Tryd.prog W .any base t v := hval0
  have hW' := hW
  obtain ⟨p, q, hA0, hV, rfl, hfz, hnd⟩ := hW
  have hA : DataW.TrodAll enc Tryd.prog W 0 (fun _ => true) true Tryd.f3.params.toList args.toList ds p := hA0
  rw [Tryd.params3] at hA hval
  obtain ⟨v1, d1, rfl, rfl, h1⟩ := trodAll_one hA
  obtain ⟨rfl, rfl⟩ := trodVars_none hV
  obtain ⟨src, hsl, hback⟩ := open_octets Tryd.underlying22 Tryd.underlying5 (by kernel_rfl) (hval 0 22 v1 rfl rfl) h1
  obtain ⟨Te, ve, hge⟩ := gerr_of_laid gNum (show _ = some 49 by kernel_rfl) Tryd.underlying49 hL (by kernel_rfl)
  clear hA0 hval0
  refine (unsConsumerMemberMetadata hsl hge).mono fun e W' ⟨he, hm⟩ => ?_
  subst he
  exact ⟨_, rfl, post_of_mod (pv := []) hW' (fun _ => trodAll_mk1 (shut_bool Tryd.underlying4 true)) (trodAll_mk1 (hback W' hm)) rfl hm⟩

theorem ConsumerMemberMetadata_j1 : (Rows.fnUnsafeConsumerMemberMetadataRow.inPlace == Tryd.prog.inPlace 3) = true := by kernel_rfl
theorem ConsumerMemberMetadata_j2 : (Rows.fnUnsafeConsumerMemberMetadataRow.unfollowed == Tryd.prog.unfollowed 3) = true := by kernel_rfl
theorem ConsumerMemberMetadata_j3 : (Rows.fnUnsafeConsumerMemberMetadataRow.recurses == Tryd.prog.recurses 3) = true := by kernel_rfl
theorem ConsumerMemberMetadata_j4 : (Rows.fnUnsafeConsumerMemberMetadataRow.named == Tryd.prog.varsNamed 3) = true := by kernel_rfl
theorem ConsumerMemberMetadata_j5 : joinedRest Tryd.prog 3 Tryd.f3 Rows.fnUnsafeConsumerMemberMetadataSpec Rows.fnUnsafeConsumerMemberMetadataRow = true := by kernel_rfl
theorem ConsumerMemberMetadata_j6 : Tryd.prog.funcNamed "pub-mailsack/laws.FnUnsafeConsumerMemberMetadata" = some 3 := by kernel_rfl
theorem ConsumerMemberMetadata_j7 : false = Rows.fnUnsafeConsumerMemberMetadataRow.goesBy Tryd.prog := by kernel_rfl

theorem ConsumerMemberMetadata_holds : Rows.FnUnsafeConsumerMemberMetadataSaid :=
  OpenClaim.holds_of_wide 3 Tryd.f3 rfl rfl rfl rfl rfl rfl rfl ⟨rfl, rfl, rfl, rfl, rfl⟩ rfl rfl rfl rfl rfl ConsumerMemberMetadata_j6 Tryd.func3 (joined_of jLaid jMaps jKeys jStops jMay jLift jMake ConsumerMemberMetadata_j1 ConsumerMemberMetadata_j2 ConsumerMemberMetadata_j3 ConsumerMemberMetadata_j4 ConsumerMemberMetadata_j5)
    (of_decide_eq_true (by kernel_rfl)) (by unfold Func.isWrapper; first | (rw [if_pos (by decide +kernel)]; kernel_rfl) | (rw [if_neg (by decide +kernel)]; exact ⟨rfl, rfl⟩))
    (fun os started H enc _ => ConsumerMemberMetadata_lifted os started H enc)

theorem ConsumerMemberMetadata_card : Rows.FnUnsafeConsumerMemberMetadataCardSaid :=
  Claim7.holds_tied_plain_at .later [] [.sentinel] true (true, "21986074d051154016eab077599bb3e9a1edac6da091e9aef4b7fe3ab3a59f78") false
    ConsumerMemberMetadata_holds (fun _ h => by cases h) (by kernel_rfl) (fun _ h => by cases h) fnUnsafeConsumerMemberMetadata_row_tie rfl ⟨rfl, rfl⟩ jMain rfl
    (fun f fn hf hfn => by
      obtain rfl : f = 3 := Option.some.inj (ConsumerMemberMetadata_j6.symm.trans hf) |>.symm
      obtain rfl : fn = Tryd.f3 := (Option.some.inj (Tryd.func3.symm.trans hfn)).symm
      exact ⟨jLooks, fun j t ht => by
        rw [Tryd.params3] at ht
        have hm : t ∈ [22] := by simpa using Array.mem_of_getElem? ht
        have hall : ([22].all fun u => !Tryd.prog.wantsStandIn u) = true := by kernel_rfl
        exact (show Tryd.prog.wantsStandIn t = false by simpa using List.all_eq_true.1 hall t hm)⟩)
    ConsumerMemberMetadata_j7

end Go.Proofs.YtkgihecaappglaaDoor
