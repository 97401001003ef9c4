/-
  For every input of FnBehindAddOffsetsToTxnRequest the law returns true, and each argument reads afterwards as it read before; no condition but the row's own (the listed variable reads as the program's text says).
-/
import Derived.Test.YtfpobhhgbmbeaaaDoorU
import Derived.Test.YtfpobhhgbmbeaaaDoorMa
import Derived.Test.YtfpobhhgbmbeaaaDoorJo
import Derived.Test.YtfpobhhgbmbeaaaDoorJa
import Derived.Test.YtfpobhhgbmbeaaaDoorJb
import Derived.Test.YtfpobhhgbmbeaaaDoorJc
import Derived.Test.YtfpobhhgbmbeaaaDoorJd
import Derived.Test.YtfpobhhgbmbeaaaDoorJe
namespace Go.Proofs.YtfpobhhgbmbeaaaDoor
open Go.Msk Go.ChangeShapes Go.WideShapes Go.ChangeAt Go.RowKit
set_option maxRecDepth 100000

theorem behAddOffsetsToTxnRequest {w : World} {n : Int} (hn : 0 ≤ n ∧ n < 256) {dv : Value} {ld : List UInt8} {t : TR} {ts : List Value} (hd : SlC anyB w dv ld.length (u8s ld)) (ht : RepT anyB w t ts) (hk : t.kok) {Te : TypeId} {ve : Value} (hge : GErr (F gErr) w Te ve) :
    Calls Tryd.prog 9 [.int .u8 n, dv, .agg ts.toArray].toArray w fun e w' => e = .returned (.bool true) ∧ Mod [] w w' :=
  beh_msg lib libA slib msg_AddOffsetsToTxnRequest (by kernel_rfl) uZ1 uZ2 uZ3 uVersion uSame hn hd ht hk hge

theorem AddOffsetsToTxnRequest_lifted (os : Os) (started : os.Started) (H : Type) (enc : TypeId × Value → H) :
    ReturnsInHanded {} Tryd.checked os 9 .any (fun w args => (Rows.fnBehindAddOffsetsToTxnRequestSpec.pre enc Tryd.prog Tryd.f9 [] false w args ∧ laidMetH Tryd.prog laidL w) ∧ sizedMet enc Tryd.prog Tryd.f9 (OpenSpec.ofChange Rows.fnBehindAddOffsetsToTxnRequestSpec) false w args)
      (Rows.fnBehindAddOffsetsToTxnRequestSpec.post enc Tryd.prog Tryd.f9 false true false false) := by
  refine returnsInHanded_of_change_and (C := Tryd.checked) (X := fun w _ => laidMetH Tryd.prog laidL w) (fun _ _ _ hh h => h.of_heap hh) own started (by kernel_rfl) Tryd.func9
    (ChangeSpec.witness_shaped (enc := enc) (C := Tryd.checked) (os := os) (X := fun w _ => laidMetH Tryd.prog laidL w) false (World.doorLaid Tryd.prog 400 os) #[.int .u8 0, .slice none 0 0, .agg #[.int .i64 0, .slice none 0 0, .bool false, .slice none 0 0, .slice none 0 0]] 8 rfl (World.shaped_of_RefB (by kernel_rfl) (by kernel_rfl)) (by kernel_rfl) (by kernel_rfl) (by kernel_rfl) (door_met os _)) ?_
  intro W base args ds gs before hval0 hW _ _ hL _
  have hval : ∀ (j : Nat) t v, Tryd.f9.params[j]? = some t → args[j]? = some v → Value.okWide Tryd.prog W .any base t v := hval0
  have hW' := hW
  obtain ⟨p, q, hA0, hV, rfl, hfz, hnd⟩ := hW
  have hA : DataW.TrodAll enc Tryd.prog W 0 (fun _ => true) true Tryd.f9.params.toList args.toList ds p := hA0
  rw [Tryd.params9] at hA hval
  obtain ⟨v0, v1, v2, d0, d1, d2, p0, p1, p2, rfl, rfl, rfl, h0, h1, h2⟩ := trodAll_three hA
  obtain ⟨rfl, rfl⟩ := trodVars_none hV
  obtain ⟨a, rfl, rfl, rfl, wa⟩ := open_int Tryd.underlying5 (hval 0 5 v0 rfl rfl) h0
  obtain ⟨src, hsl, hback⟩ := open_octets Tryd.underlying22 Tryd.underlying5 (by kernel_rfl) (hval 1 22 v1 rfl rfl) h1
  obtain ⟨t, ts, rfl, hrt, hko, hback2⟩ := open_tree treeTy jLaid treeRec treeRow (hval 2 26 v2 rfl rfl) h2
  obtain ⟨Te, ve, hge⟩ := gerr_of_laid gNum (show _ = some 49 by kernel_rfl) Tryd.underlying49 hL (by kernel_rfl)
  clear hA0 hval0
  refine (behAddOffsetsToTxnRequest (u8_of wa) hsl hrt hko hge).mono fun e W' ⟨he, hm⟩ => ?_
  subst he
  exact ⟨_, rfl, post_of_mod (pv := []) hW' (fun _ => trodAll_mk1 (shut_bool Tryd.underlying4 true)) (trodAll_mk3 (shut_int Tryd.underlying5 wa) (hback W' hm) (hback2 W' hm)) rfl hm⟩

theorem AddOffsetsToTxnRequest_j1 : (Rows.fnBehindAddOffsetsToTxnRequestRow.inPlace == Tryd.prog.inPlace 9) = true := by kernel_rfl
theorem AddOffsetsToTxnRequest_j2 : (Rows.fnBehindAddOffsetsToTxnRequestRow.unfollowed == Tryd.prog.unfollowed 9) = true := by kernel_rfl
theorem AddOffsetsToTxnRequest_j3 : (Rows.fnBehindAddOffsetsToTxnRequestRow.recurses == Tryd.prog.recurses 9) = true := by kernel_rfl
theorem AddOffsetsToTxnRequest_j4 : (Rows.fnBehindAddOffsetsToTxnRequestRow.named == Tryd.prog.varsNamed 9) = true := by kernel_rfl
theorem AddOffsetsToTxnRequest_j5 : joinedRest Tryd.prog 9 Tryd.f9 Rows.fnBehindAddOffsetsToTxnRequestSpec Rows.fnBehindAddOffsetsToTxnRequestRow = true := by kernel_rfl
theorem AddOffsetsToTxnRequest_j6 : Tryd.prog.funcNamed "pub-mailsack/laws.FnBehindAddOffsetsToTxnRequest" = some 9 := by kernel_rfl
theorem AddOffsetsToTxnRequest_j7 : false = Rows.fnBehindAddOffsetsToTxnRequestRow.goesBy Tryd.prog := by kernel_rfl

theorem AddOffsetsToTxnRequest_holds : Rows.FnBehindAddOffsetsToTxnRequestSaid :=
  OpenClaim.holds_of_wide 9 Tryd.f9 rfl rfl rfl rfl rfl rfl rfl ⟨rfl, rfl, rfl, rfl, rfl⟩ rfl rfl rfl rfl rfl AddOffsetsToTxnRequest_j6 Tryd.func9 (joined_of jLaid jMaps jKeys jStops jMay jLift jMake AddOffsetsToTxnRequest_j1 AddOffsetsToTxnRequest_j2 AddOffsetsToTxnRequest_j3 AddOffsetsToTxnRequest_j4 AddOffsetsToTxnRequest_j5)
    (of_decide_eq_true (by kernel_rfl)) (by unfold Func.isWrapper; first | (rw [if_pos (by decide +kernel)]; kernel_rfl) | (rw [if_neg (by decide +kernel)]; exact ⟨rfl, rfl⟩))
    (fun os started H enc _ => AddOffsetsToTxnRequest_lifted os started H enc)

theorem AddOffsetsToTxnRequest_card : Rows.FnBehindAddOffsetsToTxnRequestCardSaid :=
  Claim7.holds_tied_plain_at .later [] [.sentinel] true (true, "ec0becf0ac43e2ffa85fec231be22cea059831a0d100a499d6b2a4a11010c2a7") false
    AddOffsetsToTxnRequest_holds (fun _ h => by cases h) (by kernel_rfl) (fun _ h => by cases h) fnBehindAddOffsetsToTxnRequest_row_tie rfl ⟨rfl, rfl⟩ jMain rfl
    (fun f fn hf hfn => by
      obtain rfl : f = 9 := Option.some.inj (AddOffsetsToTxnRequest_j6.symm.trans hf) |>.symm
      obtain rfl : fn = Tryd.f9 := (Option.some.inj (Tryd.func9.symm.trans hfn)).symm
      exact ⟨jLooks, fun j t ht => by
        rw [Tryd.params9] at ht
        have hm : t ∈ [5, 22, 26] := by simpa using Array.mem_of_getElem? ht
        have hall : ([5, 22, 26].all fun u => !Tryd.prog.wantsStandIn u) = true := by kernel_rfl
        exact (show Tryd.prog.wantsStandIn t = false by simpa using List.all_eq_true.1 hall t hm)⟩)
    AddOffsetsToTxnRequest_j7

end Go.Proofs.YtfpobhhgbmbeaaaDoor
