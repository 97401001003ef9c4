/-
  For every input of FnBehindShareGroupDescribeResponse where what it is handed is of bulk at most 1048576, the law returns true, and each argument reads afterwards as it read before; no condition but the row's own (the listed variable reads as the program's text says).
-/
import Derived.Test.YthjbggibpkgmpaaGreatDoorU
import Derived.Test.YthjbggibpkgmpaaGreatDoorMk
import Derived.Test.YthjbggibpkgmpaaGreatDoorJo
import Derived.Test.YthjbggibpkgmpaaGreatDoorJa
import Derived.Test.YthjbggibpkgmpaaGreatDoorJb
import Derived.Test.YthjbggibpkgmpaaGreatDoorJc
import Derived.Test.YthjbggibpkgmpaaGreatDoorJd
import Derived.Test.YthjbggibpkgmpaaGreatDoorJe
namespace Go.Proofs.YthjbggibpkgmpaaGreatDoor
open Go.Msk Go.ChangeShapes Go.WideShapes Go.ChangeAt Go.RowKit
set_option maxRecDepth 100000

theorem lawShareGroupDescribeResponse {w : World} {n : Int} (hn : 0 ≤ n ∧ n < 256) {dv : Value} {ld : List UInt8} {t : TR} {ts : List Value} (hd : SlC anyB w dv ld.length (u8s ld)) (ht : RepT anyB w t ts) (hk : t.kok) (hlen : ∀ v, (writeP ⟨FX.fds fx_ShareGroupDescribeResponse, 0⟩ v t).length + 1000 ≤ lim) {Te : TypeId} {ve : Value} (hge : GErr (F gErr) w Te ve) :
    Calls Tryz.prog 13 [.int .u8 n, dv, .agg ts.toArray].toArray w fun e w' => e = .returned (.bool true) ∧ Mod [] w w' :=
  beh_msg lib libA slib msg_ShareGroupDescribeResponse (by kernel_rfl) uZ1 uZ2 uZ3 uVersion uSame hn hd ht hk hlen hge

theorem ShareGroupDescribeResponse_size : Nat.ble (FD.kL (FX.fds fx_ShareGroupDescribeResponse)) 1000000 = true := by kernel_rfl
set_option maxHeartbeats 2000000 in
theorem ShareGroupDescribeResponse_lifted (os : Os) (started : os.Started) (H : Type) (enc : TypeId × Value → H) (F : Stop.Interp) :
    ReturnsInHanded {} Tryz.checked os 13 .any (fun w args => ((Rows.OpenSpec.upto Rows.fnBehindShareGroupDescribeResponseSpec).pre enc Tryz.prog Tryz.f13 [] false w args ∧ laidMetH Tryz.prog laidL w) ∧ sizedMet enc Tryz.prog Tryz.f13 (Rows.OpenSpec.upto Rows.fnBehindShareGroupDescribeResponseSpec) false w args)
      (((Rows.OpenSpec.upto Rows.fnBehindShareGroupDescribeResponseSpec).at F).post enc Tryz.prog Tryz.f13 false true false false) := by
  refine returns_cond (C := Tryz.checked) (s := (Rows.OpenSpec.upto Rows.fnBehindShareGroupDescribeResponseSpec)) (k := Rows.uptoSmall) rfl (X := fun w _ => laidMetH Tryz.prog laidL w) (fun _ _ _ hh h => h.of_heap hh) own started (by kernel_rfl) Tryz.func13
    (witness_cond (enc := enc) (C := Tryz.checked) (os := os) (s := (Rows.OpenSpec.upto Rows.fnBehindShareGroupDescribeResponseSpec)) (k := Rows.uptoSmall) rfl (X := fun w _ => laidMetH Tryz.prog laidL w) (World.doorLaid Tryz.prog 400 os) #[.int .u8 0, .slice none 0 0, .agg #[.int .i64 0, .slice none 0 0, .bool false, .slice none 0 0, .slice none 0 0]] 8 rfl (World.shaped_of_RefB (by kernel_rfl) (by kernel_rfl)) (by kernel_rfl) (by kernel_rfl) (by kernel_rfl) (door_met os _)) ?_
  intro W base args ds gs before hval0 hW hk0 hL
  have hval : ∀ (j : Nat) t v, Tryz.f13.params[j]? = some t → args[j]? = some v → Value.okWide Tryz.prog W .any base t v := hval0
  have hW' := hW
  obtain ⟨p, q, hA0, hV, rfl, hfz, hnd⟩ := hW
  have hA : DataW.TrodAll enc Tryz.prog W 0 (fun _ => true) true Tryz.f13.params.toList args.toList ds p := hA0
  rw [Tryz.params13] at hA hval
  obtain ⟨v0, v1, v2, d0, d1, d2, p0, p1, p2, rfl, rfl, rfl, h0, h1, h2⟩ := trodAll_three hA
  obtain ⟨rfl, rfl⟩ := trodVars_none hV
  obtain ⟨a, rfl, rfl, rfl, wa⟩ := open_int Tryz.underlying5 (hval 0 5 v0 rfl rfl) h0
  obtain ⟨src, hsl, hback⟩ := open_octets Tryz.underlying22 Tryz.underlying5 (by kernel_rfl) (hval 1 22 v1 rfl rfl) h1
  obtain ⟨t, ts, rfl, hrt, hko, hbulk, hback2⟩ := open_tree treeTy jLaid treeRec treeRow (hval 2 26 v2 rfl rfl) h2
  obtain ⟨Te, ve, hge⟩ := gerr_of_laid gNum (show _ = some 49 by kernel_rfl) Tryz.underlying49 hL (by kernel_rfl)
  clear hA0 hval0
  have hwt : t.wt ≤ 1048576 := by
    have a := hbulk _ _ bulkB
    have b : Rows.uptoBulkAll ([_, d1, d2] ++ []) ≤ 1048576 := of_decide_eq_true hk0
    rw [List.append_nil, bulkB.cons, bulkB.cons, bulkB.cons, bulkB.nil] at b
    omega
  refine (lawShareGroupDescribeResponse (u8_of wa) hsl hrt hko (msg_ShareGroupDescribeResponse.lenW ShareGroupDescribeResponse_size hko hwt) hge).mono fun e W' ⟨he, hm⟩ => ?_
  subst he
  exact ⟨_, rfl, post_of_mod (s := (Rows.OpenSpec.upto Rows.fnBehindShareGroupDescribeResponseSpec).at F) (pv := []) hW' (fun _ => trodAll_mk1 (shut_bool Tryz.underlying4 true)) (trodAll_mk3 (shut_int Tryz.underlying5 wa) (hback W' hm) (hback2 W' hm)) rfl hm⟩

theorem ShareGroupDescribeResponse_j1 : (Rows.fnBehindShareGroupDescribeResponseUptoRow.inPlace == Tryz.prog.inPlace 13) = true := by kernel_rfl
theorem ShareGroupDescribeResponse_j2 : (Rows.fnBehindShareGroupDescribeResponseUptoRow.unfollowed == Tryz.prog.unfollowed 13) = true := by kernel_rfl
theorem ShareGroupDescribeResponse_j3 : (Rows.fnBehindShareGroupDescribeResponseUptoRow.recurses == Tryz.prog.recurses 13) = true := by kernel_rfl
theorem ShareGroupDescribeResponse_j4 : (Rows.fnBehindShareGroupDescribeResponseUptoRow.named == Tryz.prog.varsNamed 13) = true := by kernel_rfl
theorem ShareGroupDescribeResponse_j5 : joinedRest Tryz.prog 13 Tryz.f13 (Rows.OpenSpec.upto Rows.fnBehindShareGroupDescribeResponseSpec).bare Rows.fnBehindShareGroupDescribeResponseUptoRow = true := by kernel_rfl
theorem ShareGroupDescribeResponse_j6 : Tryz.prog.funcNamed "pub-mailsack/laws.FnBehindShareGroupDescribeResponse" = some 13 := by kernel_rfl
theorem ShareGroupDescribeResponse_j7 : false = Rows.fnBehindShareGroupDescribeResponseUptoRow.goesBy Tryz.prog := by kernel_rfl

theorem ShareGroupDescribeResponse_holds : Rows.FnBehindShareGroupDescribeResponseUptoSaid :=
  OpenClaim.holds_of_cond 13 Tryz.f13 rfl rfl rfl rfl rfl rfl rfl ⟨rfl, rfl, rfl, rfl, rfl⟩ rfl rfl rfl rfl rfl ShareGroupDescribeResponse_j6 Tryz.func13 (joined_of jLaid jMaps jKeys jStops jMay jLift jMake ShareGroupDescribeResponse_j1 ShareGroupDescribeResponse_j2 ShareGroupDescribeResponse_j3 ShareGroupDescribeResponse_j4 ShareGroupDescribeResponse_j5)
    (of_decide_eq_true (by kernel_rfl)) (by unfold Func.isWrapper; first | (rw [if_pos (by decide +kernel)]; kernel_rfl) | (rw [if_neg (by decide +kernel)]; exact ⟨rfl, rfl⟩))
    (fun os started H enc _ F => ShareGroupDescribeResponse_lifted os started H enc F)

theorem ShareGroupDescribeResponse_card : Rows.FnBehindShareGroupDescribeResponseUptoCardSaid :=
  Claim7.holds_tied_plain_at .later [] [.sentinel] true (true, "7843e2e327881765293ecb2c7a7d5cd1c4cc285ad5e185d22ed35e564e813dfc") false
    ShareGroupDescribeResponse_holds (fun _ h => by cases h) (by kernel_rfl) (fun _ h => by cases h) fnBehindShareGroupDescribeResponseUpto_row_tie rfl ⟨rfl, rfl⟩ jMain rfl
    (fun f fn hf hfn => by
      obtain rfl : f = 13 := Option.some.inj (ShareGroupDescribeResponse_j6.symm.trans hf) |>.symm
      obtain rfl : fn = Tryz.f13 := (Option.some.inj (Tryz.func13.symm.trans hfn)).symm
      exact ⟨jLooks, fun j t ht => by
        rw [Tryz.params13] at ht
        have hm : t ∈ [5, 22, 26] := by simpa using Array.mem_of_getElem? ht
        have hall : ([5, 22, 26].all fun u => !Tryz.prog.wantsStandIn u) = true := by kernel_rfl
        exact (show Tryz.prog.wantsStandIn t = false by simpa using List.all_eq_true.1 hall t hm)⟩)
    ShareGroupDescribeResponse_j7

end Go.Proofs.YthjbggibpkgmpaaGreatDoor
