/-
  For every input of FnMakeTxnMetadataValue the law returns true, and each argument reads afterwards as it read before; no condition but the row's own.
-/
import Derived.Test.YtfoljfjkifiboaaU
import Derived.Test.YtfoljfjkifiboaaMa
import Derived.Test.YtfoljfjkifiboaaJo
import Derived.Test.YtfoljfjkifiboaaJa
import Derived.Test.YtfoljfjkifiboaaJb
import Derived.Test.YtfoljfjkifiboaaJc
import Derived.Test.YtfoljfjkifiboaaJd
namespace Go.Proofs.Ytfoljfjkifiboaa
open Go.Msk Go.ChangeShapes Go.WideShapes Go.ChangeAt Go.RowKit
set_option maxRecDepth 100000

theorem lawTxnMetadataValue {w : World} {n : Int} (hn : 0 ≤ n ∧ n < 256) {t : TR} {ts : List Value} (ht : RepT anyB w t ts) (hk : t.kok) (hno : t.nok) (hlen : ∀ v, (keptK ⟨pf_TxnMetadataValue ++ tg_TxnMetadataValue, 1⟩ v t).length + 1000 ≤ lim) :
    Calls Try.prog 3 [.int .u8 n, .agg ts.toArray].toArray w fun e w' => e = .returned (.bool true) ∧ Mod [] w w' :=
  mkk_msg libM libA klib msg_TxnMetadataValue (by kernel_rfl) uZ1 uZ2 uZ3 uGiven hn ht hk hno hlen

theorem TxnMetadataValue_size : Nat.ble (FD.maxL true pf_TxnMetadataValue + 1077003964) 70368744170000 = true := by kernel_rfl
theorem TxnMetadataValue_sizef : Nat.ble (FD.maxL false pf_TxnMetadataValue) 70368744170000 = true := by kernel_rfl
set_option maxHeartbeats 2000000 in
theorem TxnMetadataValue_lifted (os : Os) (started : os.Started) (H : Type) (enc : TypeId × Value → H) :
    ReturnsInHanded {} Try.checked os 3 .any (fun w args => Rows.fnMakeTxnMetadataValueSpec.pre enc Try.prog Try.f3 [] false w args ∧ sizedMet enc Try.prog Try.f3 (OpenSpec.ofChange Rows.fnMakeTxnMetadataValueSpec) false w args) (Rows.fnMakeTxnMetadataValueSpec.post enc Try.prog Try.f3 false true false false) := by
  refine returnsInHanded_of_change (C := Try.checked) own started (by kernel_rfl) Try.func3
    (drop_x (ChangeSpec.witness_shaped (enc := enc) (C := Try.checked) (os := os) (X := fun _ _ => True) false (World.doorLaid Try.prog 400 os) #[.int .u8 0, .agg #[.int .i64 0, .slice none 0 0, .bool false, .slice none 0 0, .slice none 0 0]] 8 rfl (World.shaped_of_RefB (by kernel_rfl) (by kernel_rfl)) (by kernel_rfl) (by kernel_rfl) (by kernel_rfl) trivial)) ?_
  intro W base args ds gs before hval0 hW _ _
  have hval : ∀ (j : Nat) t v, Try.f3.params[j]? = some t → args[j]? = some v → Value.okWide Try.prog W .any base t v := hval0
  have hW' := hW
  obtain ⟨p, q, hA0, hV, rfl, hfz, hnd⟩ := hW
  have hA : DataW.TrodAll enc Try.prog W 0 (fun _ => true) true Try.f3.params.toList args.toList ds p := hA0
  rw [Try.params3] at hA hval
  obtain ⟨v0, v2, d0, d2, p0, p2, rfl, rfl, rfl, h0, h2⟩ := trodAll_two hA
  obtain ⟨rfl, rfl⟩ := trodVars_none hV
  obtain ⟨a, rfl, rfl, rfl, wa⟩ := open_int Try.underlying5 (hval 0 5 v0 rfl rfl) h0
  obtain ⟨t, ts, rfl, hrt, hko, hno, -, hback2⟩ := open_tree treeTy jLaid treeRec treeRow (hval 1 26 v2 rfl rfl) h2
  clear hA0 hval0
  refine (lawTxnMetadataValue (u8_of wa) hrt hko hno (msg_TxnMetadataValue.len libA TxnMetadataValue_size TxnMetadataValue_sizef hko hno)).mono fun e W' ⟨he, hm⟩ => ?_
  subst he
  exact ⟨_, rfl, post_of_mod (s := Rows.fnMakeTxnMetadataValueSpec) (pv := []) hW' (fun _ => trodAll_mk1 (shut_bool Try.underlying4 true)) (trodAll_mk2 (shut_int Try.underlying5 wa) (hback2 W' hm)) rfl hm⟩

theorem TxnMetadataValue_j1 : (Rows.fnMakeTxnMetadataValueRow.inPlace == Try.prog.inPlace 3) = true := by kernel_rfl
theorem TxnMetadataValue_j2 : (Rows.fnMakeTxnMetadataValueRow.unfollowed == Try.prog.unfollowed 3) = true := by kernel_rfl
theorem TxnMetadataValue_j3 : (Rows.fnMakeTxnMetadataValueRow.recurses == Try.prog.recurses 3) = true := by kernel_rfl
theorem TxnMetadataValue_j4 : (Rows.fnMakeTxnMetadataValueRow.named == Try.prog.varsNamed 3) = true := by kernel_rfl
theorem TxnMetadataValue_j5 : joinedRest Try.prog 3 Try.f3 Rows.fnMakeTxnMetadataValueSpec Rows.fnMakeTxnMetadataValueRow = true := by kernel_rfl
theorem TxnMetadataValue_j6 : Try.prog.funcNamed "pub-mailsack/laws.FnMakeTxnMetadataValue" = some 3 := by kernel_rfl

theorem TxnMetadataValue_holds : Rows.FnMakeTxnMetadataValueSaid :=
  OpenClaim.holds_of_wide 3 Try.f3 rfl rfl rfl rfl rfl rfl rfl ⟨rfl, rfl, rfl, rfl, rfl⟩ rfl rfl rfl rfl rfl TxnMetadataValue_j6 Try.func3 (joined_of jLaid jMaps jKeys jStops jMay jLift jMake TxnMetadataValue_j1 TxnMetadataValue_j2 TxnMetadataValue_j3 TxnMetadataValue_j4 TxnMetadataValue_j5)
    (of_decide_eq_true (by kernel_rfl)) (by unfold Func.isWrapper; first | (rw [if_pos (by decide +kernel)]; kernel_rfl) | (rw [if_neg (by decide +kernel)]; exact ⟨rfl, rfl⟩))
    (fun os started H enc _ => TxnMetadataValue_lifted os started H enc)

end Go.Proofs.Ytfoljfjkifiboaa
