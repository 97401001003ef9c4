/-
  For every input of FnUnsafeBrokerHeartbeatResponse the law returns true, and each argument reads afterwards as it read before; no condition but the row's own (the listed variable reads as the program's text says).
-/
import Derived.Test.YtolcohnlcakchaaDoorU
import Derived.Test.YtolcohnlcakchaaDoorMa
import Derived.Test.YtolcohnlcakchaaDoorJo
import Derived.Test.YtolcohnlcakchaaDoorJa
import Derived.Test.YtolcohnlcakchaaDoorJb
import Derived.Test.YtolcohnlcakchaaDoorJc
import Derived.Test.YtolcohnlcakchaaDoorJd
import Derived.Test.YtolcohnlcakchaaDoorJe
namespace Go.Proofs.YtolcohnlcakchaaDoor
open Go.Msk Go.ChangeShapes Go.WideShapes Go.ChangeAt Go.RowKit
set_option maxRecDepth 100000

theorem unsBrokerHeartbeatResponse {w : World} {n : Int} (hn : 0 ≤ n ∧ n < 256) {v : Value} {src : List UInt8} (hsl : SlC (fun _ => True) w v src.length (u8s src)) {Te : TypeId} {ve : Value} (hge : GErr (F gErr) w Te ve) :
    Calls Tryd.prog 3 [.int .u8 n, v].toArray w fun e w' => e = .returned (.bool true) ∧ Mod [] w w' :=
  uns_msg lib libI msg_BrokerHeartbeatResponse (by kernel_rfl) uVersion uGot uSameTree uSame hn hsl hge

theorem BrokerHeartbeatResponse_lifted (os : Os) (started : os.Started) (H : Type) (enc : TypeId × Value → H) :
    ReturnsInHanded {} Tryd.checked os 3 .any (fun w args => (Rows.fnUnsafeBrokerHeartbeatResponseSpec.pre enc Tryd.prog Tryd.f3 [] false w args ∧ laidMetH Tryd.prog laidL w) ∧ sizedMet enc Tryd.prog Tryd.f3 (OpenSpec.ofChange Rows.fnUnsafeBrokerHeartbeatResponseSpec) false w args)
      (Rows.fnUnsafeBrokerHeartbeatResponseSpec.post enc Tryd.prog Tryd.f3 false true false false) := by
  refine returnsInHanded_of_change_and (C := Tryd.checked) (X := fun w _ => laidMetH Tryd.prog laidL w) (fun _ _ _ hh h => h.of_heap hh) own started (by kernel_rfl) Tryd.func3
    (ChangeSpec.witness_shaped (enc := enc) (C := Tryd.checked) (os := os) (X := fun w _ => laidMetH Tryd.prog laidL w) false (World.doorLaid Tryd.prog 400 os) #[.int .u8 0, .slice none 0 0] 8 rfl (World.shaped_of_RefB (by kernel_rfl) (by kernel_rfl)) (by kernel_rfl) (by kernel_rfl) (by kernel_rfl) (door_met os _)) ?_
  intro W base args ds gs before hval0 hW _ _ hL _
  have hval : ∀ (j : Nat) t v, Tryd.f3.params[j]? = some t → args[j]? = some v → Value.okWide Tryd.prog W .any base t v := hval0
  have hW' := hW
  obtain ⟨p, q, hA0, hV, rfl, hfz, hnd⟩ := hW
  have hA : DataW.TrodAll enc Tryd.prog W 0 (fun _ => true) true Tryd.f3.params.toList args.toList ds p := hA0
  rw [Tryd.params3] at hA hval
  obtain ⟨v0, v1, d0, d1, p0, p1, rfl, rfl, rfl, h0, h1⟩ := trodAll_two hA
  obtain ⟨rfl, rfl⟩ := trodVars_none hV
  obtain ⟨a, rfl, rfl, rfl, wa⟩ := open_int Tryd.underlying5 (hval 0 5 v0 rfl rfl) h0
  obtain ⟨src, hsl, hback⟩ := open_octets Tryd.underlying22 Tryd.underlying5 (by kernel_rfl) (hval 1 22 v1 rfl rfl) h1
  obtain ⟨Te, ve, hge⟩ := gerr_of_laid gNum (show _ = some 44 by kernel_rfl) Tryd.underlying44 hL (by kernel_rfl)
  clear hA0 hval0
  refine (unsBrokerHeartbeatResponse (u8_of wa) hsl hge).mono fun e W' ⟨he, hm⟩ => ?_
  subst he
  exact ⟨_, rfl, post_of_mod (pv := []) hW' (fun _ => trodAll_mk1 (shut_bool Tryd.underlying4 true)) (trodAll_mk2 (shut_int Tryd.underlying5 wa) (hback W' hm)) rfl hm⟩

theorem BrokerHeartbeatResponse_j1 : (Rows.fnUnsafeBrokerHeartbeatResponseRow.inPlace == Tryd.prog.inPlace 3) = true := by kernel_rfl
theorem BrokerHeartbeatResponse_j2 : (Rows.fnUnsafeBrokerHeartbeatResponseRow.unfollowed == Tryd.prog.unfollowed 3) = true := by kernel_rfl
theorem BrokerHeartbeatResponse_j3 : (Rows.fnUnsafeBrokerHeartbeatResponseRow.recurses == Tryd.prog.recurses 3) = true := by kernel_rfl
theorem BrokerHeartbeatResponse_j4 : (Rows.fnUnsafeBrokerHeartbeatResponseRow.named == Tryd.prog.varsNamed 3) = true := by kernel_rfl
theorem BrokerHeartbeatResponse_j5 : joinedRest Tryd.prog 3 Tryd.f3 Rows.fnUnsafeBrokerHeartbeatResponseSpec Rows.fnUnsafeBrokerHeartbeatResponseRow = true := by kernel_rfl
theorem BrokerHeartbeatResponse_j6 : Tryd.prog.funcNamed "pub-mailsack/laws.FnUnsafeBrokerHeartbeatResponse" = some 3 := by kernel_rfl
theorem BrokerHeartbeatResponse_j7 : false = Rows.fnUnsafeBrokerHeartbeatResponseRow.goesBy Tryd.prog := by kernel_rfl

theorem BrokerHeartbeatResponse_holds : Rows.FnUnsafeBrokerHeartbeatResponseSaid :=
  OpenClaim.holds_of_wide 3 Tryd.f3 rfl rfl rfl rfl rfl rfl rfl ⟨rfl, rfl, rfl, rfl, rfl⟩ rfl rfl rfl rfl rfl BrokerHeartbeatResponse_j6 Tryd.func3 (joined_of jLaid jMaps jKeys jStops jMay jLift jMake BrokerHeartbeatResponse_j1 BrokerHeartbeatResponse_j2 BrokerHeartbeatResponse_j3 BrokerHeartbeatResponse_j4 BrokerHeartbeatResponse_j5)
    (of_decide_eq_true (by kernel_rfl)) (by unfold Func.isWrapper; first | (rw [if_pos (by decide +kernel)]; kernel_rfl) | (rw [if_neg (by decide +kernel)]; exact ⟨rfl, rfl⟩))
    (fun os started H enc _ => BrokerHeartbeatResponse_lifted os started H enc)

theorem BrokerHeartbeatResponse_card : Rows.FnUnsafeBrokerHeartbeatResponseCardSaid :=
  Claim7.holds_tied_plain_at .later [] [.sentinel] true (true, "751a0e9509237f76669c8d94372f65b2bc574025996187945004391cf35196a5") false
    BrokerHeartbeatResponse_holds (fun _ h => by cases h) (by kernel_rfl) (fun _ h => by cases h) fnUnsafeBrokerHeartbeatResponse_row_tie rfl ⟨rfl, rfl⟩ jMain rfl
    (fun f fn hf hfn => by
      obtain rfl : f = 3 := Option.some.inj (BrokerHeartbeatResponse_j6.symm.trans hf) |>.symm
      obtain rfl : fn = Tryd.f3 := (Option.some.inj (Tryd.func3.symm.trans hfn)).symm
      exact ⟨jLooks, fun j t ht => by
        rw [Tryd.params3] at ht
        have hm : t ∈ [5, 22] := by simpa using Array.mem_of_getElem? ht
        have hall : ([5, 22].all fun u => !Tryd.prog.wantsStandIn u) = true := by kernel_rfl
        exact (show Tryd.prog.wantsStandIn t = false by simpa using List.all_eq_true.1 hall t hm)⟩)
    BrokerHeartbeatResponse_j7

end Go.Proofs.YtolcohnlcakchaaDoor
