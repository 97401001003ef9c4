/-
  For every input of FnBehindMetadataResponse where what it is handed is of bulk at most 1048576, the law returns true, and each argument reads afterwards as it read before; no condition but the row's own (the listed variable reads as the program's text says).
-/
import Derived.Test.YtljndbdfoiagpaaGreatDoorU
import Derived.Test.YtljndbdfoiagpaaGreatDoorMb
import Derived.Test.YtljndbdfoiagpaaGreatDoorJo
import Derived.Test.YtljndbdfoiagpaaGreatDoorJa
import Derived.Test.YtljndbdfoiagpaaGreatDoorJb
import Derived.Test.YtljndbdfoiagpaaGreatDoorJc
import Derived.Test.YtljndbdfoiagpaaGreatDoorJd
import Derived.Test.YtljndbdfoiagpaaGreatDoorJe
namespace Go.Proofs.YtljndbdfoiagpaaGreatDoor
open Go.Msk Go.ChangeShapes Go.WideShapes Go.ChangeAt Go.RowKit
set_option maxRecDepth 100000

theorem lawMetadataResponse {w : World} {n : Int} (hn : 0 ≤ n ∧ n < 256) {dv : Value} {ld : List UInt8} {t : TR} {ts : List Value} (hd : SlC anyB w dv ld.length (u8s ld)) (ht : RepT anyB w t ts) (hk : t.kok) (hlen : ∀ v, (writeP ⟨FX.fds fx_MetadataResponse, 9⟩ v t).length + 1000 ≤ lim) {Te : TypeId} {ve : Value} (hge : GErr (F gErr) w Te ve) :
    Calls Tryz.prog 3 [.int .u8 n, dv, .agg ts.toArray].toArray w fun e w' => e = .returned (.bool true) ∧ Mod [] w w' :=
  beh_msg lib libA slib msg_MetadataResponse (by kernel_rfl) uZ1 uZ2 uZ3 uVersion uSame hn hd ht hk hlen hge

theorem MetadataResponse_size : Nat.ble (FD.kL (FX.fds fx_MetadataResponse)) 1000000 = true := by kernel_rfl
set_option maxHeartbeats 2000000 in
theorem MetadataResponse_lifted (os : Os) (started : os.Started) (H : Type) (enc : TypeId × Value → H) (F : Stop.Interp) :
    ReturnsInHanded {} Tryz.checked os 3 .any (fun w args => ((Rows.OpenSpec.upto Rows.fnBehindMetadataResponseSpec).pre enc Tryz.prog Tryz.f3 [] false w args ∧ laidMetH Tryz.prog laidL w) ∧ sizedMet enc Tryz.prog Tryz.f3 (Rows.OpenSpec.upto Rows.fnBehindMetadataResponseSpec) false w args)
      (((Rows.OpenSpec.upto Rows.fnBehindMetadataResponseSpec).at F).post enc Tryz.prog Tryz.f3 false true false false) := by
  refine returns_cond (C := Tryz.checked) (s := (Rows.OpenSpec.upto Rows.fnBehindMetadataResponseSpec)) (k := Rows.uptoSmall) rfl (X := fun w _ => laidMetH Tryz.prog laidL w) (fun _ _ _ hh h => h.of_heap hh) own started (by kernel_rfl) Tryz.func3
    (witness_cond (enc := enc) (C := Tryz.checked) (os := os) (s := (Rows.OpenSpec.upto Rows.fnBehindMetadataResponseSpec)) (k := Rows.uptoSmall) rfl (X := fun w _ => laidMetH Tryz.prog laidL w) (World.doorLaid Tryz.prog 400 os) #[.int .u8 0, .slice none 0 0, .agg #[.int .i64 0, .slice none 0 0, .bool false, .slice none 0 0, .slice none 0 0]] 8 rfl (World.shaped_of_RefB (by kernel_rfl) (by kernel_rfl)) (by kernel_rfl) (by kernel_rfl) (by kernel_rfl) (door_met os _)) ?_
  intro W base args ds gs before hval0 hW hk0 hL
  have hval : ∀ (j : Nat) t v, Tryz.f3.params[j]? = some t → args[j]? = some v → Value.okWide Tryz.prog W .any base t v := hval0
  have hW' := hW
  obtain ⟨p, q, hA0, hV, rfl, hfz, hnd⟩ := hW
  have hA : DataW.TrodAll enc Tryz.prog W 0 (fun _ => true) true Tryz.f3.params.toList args.toList ds p := hA0
  rw [Tryz.params3] at hA hval
  obtain ⟨v0, v1, v2, d0, d1, d2, p0, p1, p2, rfl, rfl, rfl, h0, h1, h2⟩ := trodAll_three hA
  obtain ⟨rfl, rfl⟩ := trodVars_none hV
  obtain ⟨a, rfl, rfl, rfl, wa⟩ := open_int Tryz.underlying5 (hval 0 5 v0 rfl rfl) h0
  obtain ⟨src, hsl, hback⟩ := open_octets Tryz.underlying22 Tryz.underlying5 (by kernel_rfl) (hval 1 22 v1 rfl rfl) h1
  obtain ⟨t, ts, rfl, hrt, hko, -, hbulk, hback2⟩ := open_tree treeTy jLaid treeRec treeRow (hval 2 26 v2 rfl rfl) h2
  obtain ⟨Te, ve, hge⟩ := gerr_of_laid gNum (show _ = some 50 by kernel_rfl) Tryz.underlying50 hL (by kernel_rfl)
  clear hA0 hval0
  have hwt : t.wt ≤ 1048576 := by
    have a := hbulk _ _ bulkB
    have b : Rows.uptoBulkAll ([_, d1, d2] ++ []) ≤ 1048576 := of_decide_eq_true hk0
    rw [List.append_nil, bulkB.cons, bulkB.cons, bulkB.cons, bulkB.nil] at b
    omega
  refine (lawMetadataResponse (u8_of wa) hsl hrt hko (msg_MetadataResponse.lenW MetadataResponse_size hko hwt) hge).mono fun e W' ⟨he, hm⟩ => ?_
  subst he
  exact ⟨_, rfl, post_of_mod (s := (Rows.OpenSpec.upto Rows.fnBehindMetadataResponseSpec).at F) (pv := []) hW' (fun _ => trodAll_mk1 (shut_bool Tryz.underlying4 true)) (trodAll_mk3 (shut_int Tryz.underlying5 wa) (hback W' hm) (hback2 W' hm)) rfl hm⟩

theorem MetadataResponse_j1 : (Rows.fnBehindMetadataResponseUptoRow.inPlace == Tryz.prog.inPlace 3) = true := by kernel_rfl
theorem MetadataResponse_j2 : (Rows.fnBehindMetadataResponseUptoRow.unfollowed == Tryz.prog.unfollowed 3) = true := by kernel_rfl
theorem MetadataResponse_j3 : (Rows.fnBehindMetadataResponseUptoRow.recurses == Tryz.prog.recurses 3) = true := by kernel_rfl
theorem MetadataResponse_j4 : (Rows.fnBehindMetadataResponseUptoRow.named == Tryz.prog.varsNamed 3) = true := by kernel_rfl
theorem MetadataResponse_j5 : joinedRest Tryz.prog 3 Tryz.f3 (Rows.OpenSpec.upto Rows.fnBehindMetadataResponseSpec).bare Rows.fnBehindMetadataResponseUptoRow = true := by kernel_rfl
theorem MetadataResponse_j6 : Tryz.prog.funcNamed "pub-mailsack/laws.FnBehindMetadataResponse" = some 3 := by kernel_rfl
theorem MetadataResponse_j7 : false = Rows.fnBehindMetadataResponseUptoRow.goesBy Tryz.prog := by kernel_rfl

theorem MetadataResponse_holds : Rows.FnBehindMetadataResponseUptoSaid :=
  OpenClaim.holds_of_cond 3 Tryz.f3 rfl rfl rfl rfl rfl rfl rfl ⟨rfl, rfl, rfl, rfl, rfl⟩ rfl rfl rfl rfl rfl MetadataResponse_j6 Tryz.func3 (joined_of jLaid jMaps jKeys jStops jMay jLift jMake MetadataResponse_j1 MetadataResponse_j2 MetadataResponse_j3 MetadataResponse_j4 MetadataResponse_j5)
    (of_decide_eq_true (by kernel_rfl)) (by unfold Func.isWrapper; first | (rw [if_pos (by decide +kernel)]; kernel_rfl) | (rw [if_neg (by decide +kernel)]; exact ⟨rfl, rfl⟩))
    (fun os started H enc _ F => MetadataResponse_lifted os started H enc F)

theorem MetadataResponse_card : Rows.FnBehindMetadataResponseUptoCardSaid :=
  Claim7.holds_tied_plain_at .later [] [.sentinel] true (true, "e92e53707b35ad2a0023603f8fbe85c758b3616ccd40f8f20f7735e60e7c7bca") false
    MetadataResponse_holds (fun _ h => by cases h) (by kernel_rfl) (fun _ h => by cases h) fnBehindMetadataResponseUpto_row_tie rfl ⟨rfl, rfl⟩ jMain rfl
    (fun f fn hf hfn => by
      obtain rfl : f = 3 := Option.some.inj (MetadataResponse_j6.symm.trans hf) |>.symm
      obtain rfl : fn = Tryz.f3 := (Option.some.inj (Tryz.func3.symm.trans hfn)).symm
      exact ⟨jLooks, fun j t ht => by
        rw [Tryz.params3] at ht
        have hm : t ∈ [5, 22, 26] := by simpa using Array.mem_of_getElem? ht
        have hall : ([5, 22, 26].all fun u => !Tryz.prog.wantsStandIn u) = true := by kernel_rfl
        exact (show Tryz.prog.wantsStandIn t = false by simpa using List.all_eq_true.1 hall t hm)⟩)
    MetadataResponse_j7

end Go.Proofs.YtljndbdfoiagpaaGreatDoor
