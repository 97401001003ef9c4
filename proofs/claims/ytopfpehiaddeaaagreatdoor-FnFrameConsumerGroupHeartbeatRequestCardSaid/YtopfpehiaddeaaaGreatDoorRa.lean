/-
  For every input of FnFrameConsumerGroupHeartbeatRequest the law returns true, and each argument reads afterwards as it read before; no condition but the row's own (the listed variable reads as the program's text says).
-/
import Derived.Test.YtopfpehiaddeaaaGreatDoorU
import Derived.Test.YtopfpehiaddeaaaGreatDoorMa
import Derived.Test.YtopfpehiaddeaaaGreatDoorJo
import Derived.Test.YtopfpehiaddeaaaGreatDoorJa
import Derived.Test.YtopfpehiaddeaaaGreatDoorJb
import Derived.Test.YtopfpehiaddeaaaGreatDoorJc
import Derived.Test.YtopfpehiaddeaaaGreatDoorJd
import Derived.Test.YtopfpehiaddeaaaGreatDoorJe
namespace Go.Proofs.YtopfpehiaddeaaaGreatDoor
open Go.Msk Go.ChangeShapes Go.WideShapes Go.ChangeAt Go.RowKit
set_option maxRecDepth 100000

theorem lawConsumerGroupHeartbeatRequest {w : World} {n num : Int} (hn : 0 ≤ n ∧ n < 256) {hs : Bool} {text : List UInt8} {t : TR} {ts : List Value} (ht : RepT anyB w t ts) (hk : t.kok) (hlen : ∀ v, (writeP ⟨FX.fds fx_ConsumerGroupHeartbeatRequest, 0⟩ v t).length + 40000 ≤ lim) {Te : TypeId} {ve : Value} (hge : GErr (F gErr) w Te ve) :
    Calls Tryz.prog 3 [.int .u8 n, .agg #[.bool hs, str text], .int .i32 num, .agg ts.toArray].toArray w fun e w' => e = .returned (.bool true) ∧ Mod [] w w' :=
  fr_msg lib libA slib frlib msg_ConsumerGroupHeartbeatRequest (by kernel_rfl) uZ1 uZ2 uZ3 uZ4 uVersion uSame uFlex uFrame uFixed hn ht hk hlen hge

theorem ConsumerGroupHeartbeatRequest_size : Nat.ble (FD.maxL (decide ((0 : Int) ≥ 0)) (FX.fds fx_ConsumerGroupHeartbeatRequest) + tagM (decide ((0 : Int) ≥ 0))) 70368744137664 = true := by kernel_rfl
theorem ConsumerGroupHeartbeatRequest_sizef : Nat.ble (FD.maxL false (FX.fds fx_ConsumerGroupHeartbeatRequest) + tagM false) 70368744137664 = true := by kernel_rfl
set_option maxHeartbeats 2000000 in
theorem ConsumerGroupHeartbeatRequest_lifted (os : Os) (started : os.Started) (H : Type) (enc : TypeId × Value → H) :
    ReturnsInHanded {} Tryz.checked os 3 .any (fun w args => (Rows.fnFrameConsumerGroupHeartbeatRequestSpec.pre enc Tryz.prog Tryz.f3 [] false w args ∧ laidMetH Tryz.prog laidL w) ∧ sizedMet enc Tryz.prog Tryz.f3 (OpenSpec.ofChange Rows.fnFrameConsumerGroupHeartbeatRequestSpec) false w args)
      (Rows.fnFrameConsumerGroupHeartbeatRequestSpec.post enc Tryz.prog Tryz.f3 false true false false) := by
  refine returnsInHanded_of_change_and (C := Tryz.checked) (X := fun w _ => laidMetH Tryz.prog laidL w) (fun _ _ _ hh h => h.of_heap hh) own started (by kernel_rfl) Tryz.func3
    (ChangeSpec.witness_shaped (enc := enc) (C := Tryz.checked) (os := os) (X := fun w _ => laidMetH Tryz.prog laidL w) false (World.doorLaid Tryz.prog 400 os) #[.int .u8 0, .agg #[.bool false, .string .empty], .int .i32 0, .agg #[.int .i64 0, .slice none 0 0, .bool false, .slice none 0 0, .slice none 0 0]] 8 rfl (World.shaped_of_RefB (by kernel_rfl) (by kernel_rfl)) (by kernel_rfl) (by kernel_rfl) (by kernel_rfl) (door_met os _)) ?_
  intro W base args ds gs before hval0 hW _ _ hL _
  have hval : ∀ (j : Nat) t v, Tryz.f3.params[j]? = some t → args[j]? = some v → Value.okWide Tryz.prog W .any base t v := hval0
  have hW' := hW
  obtain ⟨p, q, hA0, hV, rfl, hfz, hnd⟩ := hW
  have hA : DataW.TrodAll enc Tryz.prog W 0 (fun _ => true) true Tryz.f3.params.toList args.toList ds p := hA0
  rw [Tryz.params3] at hA hval
  obtain ⟨v0, v1, v3, v2, d0, d1, d3, d2, p0, p1, p3, p2, rfl, rfl, rfl, h0, h1, h3, h2⟩ := Go.Msk.trodAll_four hA
  obtain ⟨rfl, rfl⟩ := trodVars_none hV
  obtain ⟨a, rfl, rfl, rfl, wa⟩ := open_int Tryz.underlying5 (hval 0 5 v0 rfl rfl) h0
  obtain ⟨hsb, txt, rfl, hback⟩ := open_id idTy jLaid idRec idRow (hval 1 23 v1 rfl rfl) h1
  obtain ⟨num, rfl, rfl, rfl, wn⟩ := open_int Tryz.underlying21 (hval 2 21 v3 rfl rfl) h3
  obtain ⟨t, ts, rfl, hrt, hko, -, -, hback2⟩ := open_tree treeTy jLaid treeRec treeRow (hval 3 28 v2 rfl rfl) h2
  obtain ⟨Te, ve, hge⟩ := gerr_of_laid gNum (show _ = some 55 by kernel_rfl) Tryz.underlying55 hL (by kernel_rfl)
  clear hA0 hval0
  refine (lawConsumerGroupHeartbeatRequest (u8_of wa) hrt hko (msg_ConsumerGroupHeartbeatRequest.len ConsumerGroupHeartbeatRequest_size ConsumerGroupHeartbeatRequest_sizef hko) hge).mono fun e W' ⟨he, hm⟩ => ?_
  subst he
  exact ⟨_, rfl, post_of_mod (s := Rows.fnFrameConsumerGroupHeartbeatRequestSpec) (pv := []) hW' (fun _ => trodAll_mk1 (shut_bool Tryz.underlying4 true)) (Go.Msk.trodAll_mk4 (shut_int Tryz.underlying5 wa) (hback W' hm) (shut_int Tryz.underlying21 wn) (hback2 W' hm)) rfl hm⟩

theorem ConsumerGroupHeartbeatRequest_j1 : (Rows.fnFrameConsumerGroupHeartbeatRequestRow.inPlace == Tryz.prog.inPlace 3) = true := by kernel_rfl
theorem ConsumerGroupHeartbeatRequest_j2 : (Rows.fnFrameConsumerGroupHeartbeatRequestRow.unfollowed == Tryz.prog.unfollowed 3) = true := by kernel_rfl
theorem ConsumerGroupHeartbeatRequest_j3 : (Rows.fnFrameConsumerGroupHeartbeatRequestRow.recurses == Tryz.prog.recurses 3) = true := by kernel_rfl
theorem ConsumerGroupHeartbeatRequest_j4 : (Rows.fnFrameConsumerGroupHeartbeatRequestRow.named == Tryz.prog.varsNamed 3) = true := by kernel_rfl
theorem ConsumerGroupHeartbeatRequest_j5 : joinedRest Tryz.prog 3 Tryz.f3 Rows.fnFrameConsumerGroupHeartbeatRequestSpec Rows.fnFrameConsumerGroupHeartbeatRequestRow = true := by kernel_rfl
theorem ConsumerGroupHeartbeatRequest_j6 : Tryz.prog.funcNamed "pub-mailsack/laws.FnFrameConsumerGroupHeartbeatRequest" = some 3 := by kernel_rfl
theorem ConsumerGroupHeartbeatRequest_j7 : false = Rows.fnFrameConsumerGroupHeartbeatRequestRow.goesBy Tryz.prog := by kernel_rfl

theorem ConsumerGroupHeartbeatRequest_holds : Rows.FnFrameConsumerGroupHeartbeatRequestSaid :=
  OpenClaim.holds_of_wide 3 Tryz.f3 rfl rfl rfl rfl rfl rfl rfl ⟨rfl, rfl, rfl, rfl, rfl⟩ rfl rfl rfl rfl rfl ConsumerGroupHeartbeatRequest_j6 Tryz.func3 (joined_of jLaid jMaps jKeys jStops jMay jLift jMake ConsumerGroupHeartbeatRequest_j1 ConsumerGroupHeartbeatRequest_j2 ConsumerGroupHeartbeatRequest_j3 ConsumerGroupHeartbeatRequest_j4 ConsumerGroupHeartbeatRequest_j5)
    (of_decide_eq_true (by kernel_rfl)) (by unfold Func.isWrapper; first | (rw [if_pos (by decide +kernel)]; kernel_rfl) | (rw [if_neg (by decide +kernel)]; exact ⟨rfl, rfl⟩))
    (fun os started H enc _ => ConsumerGroupHeartbeatRequest_lifted os started H enc)

theorem ConsumerGroupHeartbeatRequest_card : Rows.FnFrameConsumerGroupHeartbeatRequestCardSaid :=
  Claim7.holds_tied_plain_at .later [] [.sentinel] true (true, "87c5ffd1676f2786c1c6683951c97c56858dc533970f995847b99d3a111aba01") false
    ConsumerGroupHeartbeatRequest_holds (fun _ h => by cases h) (by kernel_rfl) (fun _ h => by cases h) fnFrameConsumerGroupHeartbeatRequest_row_tie rfl ⟨rfl, rfl⟩ jMain rfl
    (fun f fn hf hfn => by
      obtain rfl : f = 3 := Option.some.inj (ConsumerGroupHeartbeatRequest_j6.symm.trans hf) |>.symm
      obtain rfl : fn = Tryz.f3 := (Option.some.inj (Tryz.func3.symm.trans hfn)).symm
      exact ⟨jLooks, fun j t ht => by
        rw [Tryz.params3] at ht
        have hm : t ∈ [5, 23, 21, 28] := by simpa using Array.mem_of_getElem? ht
        have hall : ([5, 23, 21, 28].all fun u => !Tryz.prog.wantsStandIn u) = true := by kernel_rfl
        exact (show Tryz.prog.wantsStandIn t = false by simpa using List.all_eq_true.1 hall t hm)⟩)
    ConsumerGroupHeartbeatRequest_j7

end Go.Proofs.YtopfpehiaddeaaaGreatDoor
