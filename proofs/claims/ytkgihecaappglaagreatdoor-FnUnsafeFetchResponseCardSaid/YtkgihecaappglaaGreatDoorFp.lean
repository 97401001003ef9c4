/- A small language of resolved operations, and what the generic and the generated functions do in it (part 16). -/
import Derived.Test.YtkgihecaappglaaGreatDoorFo
import Derived.Shelf.GgSortFunc.Whole
import Derived.Shelf.GgSortFunc.Tiny

namespace Go.Msk
open Go.RowKit
set_option maxRecDepth 100000
def pairF (b d ver f : FuncId) : List RI :=
  [⟨some b, .mv (.tmp 0), none⟩, ⟨some (b + 1), .mv (.tmp 5), none⟩, ⟨some (b + 2), .call ver [.tmp b, .tmp (b + 1)], none⟩, ⟨some (b + 3), .mv (.tmp 1), none⟩, ⟨some (b + 4), .call f [.tmp (b + 2), .tmp (b + 3)], none⟩,
   ⟨some (b - 1), .mv (.tmp (b + 4)), none⟩, ⟨some (b + 5), .ext (.tmp (b - 1)) 0, none⟩, ⟨some (b + 6), .ext (.tmp (b - 1)) 1, none⟩, ⟨some d, .alloc tzero, none⟩, ⟨none, .st (.tmp d) 5 (.tmp (b + 5)), none⟩, ⟨some (d + 1), .mv (.tmp (b + 6)), none⟩]
def unsTail (got same : FuncId) : List DI :=
  [⟨⟨some 35, .mv (.tmp 7), none⟩, false, []⟩, ⟨⟨some 36, .mv (.tmp 9), none⟩, false, []⟩, ⟨⟨some 37, .beq false (.tmp 35) (.tmp 36), none⟩, false, []⟩, ⟨⟨some 38, .mv (.tmp 37), none⟩, false, []⟩,
   ⟨⟨some 39, .mv (.tmp 7), some (38, true)⟩, false, []⟩, ⟨⟨some 40, .lnot (.tmp 39), some (38, true)⟩, false, []⟩, ⟨⟨some 41, .mv (.tmp 40), some (38, true)⟩, false, []⟩,
   ⟨⟨some 42, .ldn (.tmp 6) 5, some (41, false)⟩, false, []⟩, ⟨⟨some 43, .call got [.tmp 42], some (41, false)⟩, true, []⟩,
   ⟨⟨some 44, .ldn (.tmp 8) 5, some (41, false)⟩, false, []⟩, ⟨⟨some 45, .call got [.tmp 44], some (41, false)⟩, true, [8]⟩,
   ⟨⟨some 46, .call same [.tmp 43, .tmp 45], some (41, false)⟩, true, [8, 10]⟩,
   ⟨⟨some 47, .pick (.tmp 41) (.const (.bool true)) (.tmp 46), some (38, true)⟩, false, [8, 10, 11]⟩,
   ⟨⟨some 48, .pick (.tmp 38) (.tmp 47) (.const (.bool false)), none⟩, false, [8, 10, 11]⟩,
   ⟨⟨some 4, .mv (.tmp 48), none⟩, false, [8, 10, 11]⟩]
def unsCode (mx ver tell uns got same : FuncId) : IC × List RV × Nat :=
  (.seq (.blk [⟨some 4, .mv (.const (.bool false)), none⟩])
  (.seq (.seq (.blk [⟨some 10, .mv (.tmp 1), none⟩, ⟨some 11, .len (.tmp 10), none⟩, ⟨some 12, .bin .gtr (.tmp 11) (.const (.int .i64 2147483647)), none⟩])
    (.cond (.tmp 12) (.seq (.blk [⟨some 4, .mv (.const (.bool true)), none⟩]) .ret) .skip))
  (.seq (.blk [⟨some 13, .call mx [], none⟩, ⟨some 5, .mv (.tmp 13), none⟩])
  (.seq (.seq (.blk [⟨some 14, .mv (.tmp 5), none⟩, ⟨some 15, .bin .lss (.tmp 14) (.const (.int .i64 0)), none⟩])
    (.cond (.tmp 15) (.seq (.blk [⟨some 4, .mv (.const (.bool false)), none⟩]) .ret) .skip))
  (.seq (.seq (.blk [⟨some 16, .mv (.tmp 1), none⟩, ⟨some 17, .len (.tmp 16), none⟩, ⟨some 18, .bin .gtr (.tmp 17) (.const (.int .i64 1000)), none⟩])
    (.cond (.tmp 18) (.seq (.blk [⟨some 4, .mv (.const (.bool true)), none⟩]) .ret) .skip))
  (.seq (.blk (pairF 20 6 ver tell))
  (.seq (.blk (pairF 28 8 ver uns))
  (.seq (.drw (unsTail got same) [])
  .ret))))))), [.tmp 4], 49)
def TellOf (P : Program) (f : FuncId) (g : Nat) (Te : TypeId) (ve : Value) (res : Int → List UInt8 → Option TR) (most : Int) : Prop :=
  ∀ (w : World) (ver : Int) (v : Value) (src : List UInt8), 0 ≤ ver → ver ≤ most → src.length ≤ 1000 → SlC (fun _ => True) w v src.length (u8s src) → GErr g w Te ve →
    Calls P f [.int .i64 ver, v].toArray w fun e w' => Mod [] w w' ∧ ∃ cs, RepT (fun b => w.heap.size ≤ b) w' ((res ver src).getD .zero) cs ∧ e = .returned (.tuple #[.agg cs.toArray, .bool (res ver src).isSome])
section
variable {P : Program}
theorem pair_wp {b d ver f g : Nat} {Te : TypeId} {ve : Value} {res : Int → List UInt8 → Option TR} {most n : Int} {src : List UInt8} {v : Value} (hf : TellOf P f g Te ve res most)
    (hver : ∀ w, Calls P ver [.int .u8 n, .int .i64 most].toArray w fun e w' => e = .returned (.int .i64 (n % (most + 1))) ∧ w' = w) (_hn : 0 ≤ n) (hm : 0 ≤ most) (hl : src.length ≤ 1000)
    {σ : Sl} {w : World} {rest : Sl → World → Prop} (h0 : σ 0 = .int .u8 n) (h5 : σ 5 = .int .i64 most) (h1 : σ 1 = v) (hv : SlC (fun _ => True) w v src.length (u8s src)) (hg : GErr g w Te ve) (hd : 5 < d) (hdb : d + 1 < b - 1)
    (hQ : ∀ σ' w' p cs, (∀ j, j < b - 1 → j ≠ d → j ≠ d + 1 → σ' j = σ j) → σ' d = .pointer (some ⟨p, 0, none⟩) → σ' (d + 1) = .bool (res (n % (most + 1)) src).isSome → Blk w' p cs → w.heap.size ≤ p →
      RepT (fun b => w.heap.size ≤ b ∧ b ≠ p) w' ((res (n % (most + 1)) src).getD .zero) cs → Mod [] w w' → rest σ' w') :
    wpR P (pairF b d ver f) σ w rest := by
  obtain ⟨c, rfl⟩ : ∃ c, b = c + 1 := ⟨b - 1, by omega⟩
  simp only [Nat.add_sub_cancel] at *
  have q1 : 0 ≤ n % (most + 1) := Int.emod_nonneg _ (by omega)
  have q2 : n % (most + 1) < most + 1 := Int.emod_lt_of_pos _ (by omega)
  unfold pairF
  simp only [Nat.add_sub_cancel]
  refine wpR_step (v := .int .u8 n) (congrArg some h0) ?_
  refine wpR_step (v := .int .i64 most) (by simp only [RK.val?, ev, updo, upd, show (5 : Nat) ≠ c + 1 by omega, if_false, h5]) ?_
  refine wpR_call (vs := [.int .u8 n, .int .i64 most]) (by simp only [List.map_cons, List.map_nil, ev, updo, upd, show c + 1 ≠ c + 1 + 1 by omega, if_false, if_true]) (hver w) ?_
  rintro e w1 ⟨rfl, rfl⟩
  refine ⟨_, rfl, ?_⟩
  refine wpR_step (v := v) (by simp only [RK.val?, ev, updo, upd, show (1 : Nat) ≠ c + 1 by omega, show (1 : Nat) ≠ c + 1 + 1 by omega, show (1 : Nat) ≠ c + 1 + 2 by omega, if_false, h1]) ?_
  refine wpR_call (vs := [.int .i64 (n % (most + 1)), v]) (by simp only [List.map_cons, List.map_nil, ev, updo, upd, show c + 1 + 2 ≠ c + 1 + 3 by omega, if_false, if_true]) (hf w1 _ v src q1 (by omega) hl hv hg) ?_
  rintro e w2 ⟨m12, cs, hrep, rfl⟩
  refine ⟨_, rfl, ?_⟩
  generalize hr : res (n % (most + 1)) src = r at *
  generalize hT : Value.tuple #[.agg cs.toArray, .bool r.isSome] = T
  refine wpR_step (v := T) (by simp only [RK.val?, ev, updo, upd, if_true]) ?_
  refine wpR_step (v := .agg cs.toArray) (by subst hT; simp only [RK.val?, ev, updo, upd, if_true]; rfl) ?_
  refine wpR_step (v := .bool r.isSome) (by subst hT; simp only [RK.val?, ev, updo, upd, show c ≠ c + 1 + 5 by omega, if_false, if_true]; rfl) ?_
  refine wpR_run ?_
  intro Tn
  have h5c := hrep.five
  obtain ⟨k1, k2, k3⟩ := new_put w2 tzero cs Tn (by rw [h5c]; rfl) hrep.oneCell
  generalize hw3 : w2.alloc (.cells tzero.toArray Tn) = w3 at k1 k2 k3 ⊢
  refine wpR_run ?_
  have ec : (Value.agg cs.toArray).cells = cs.toArray := rfl
  simp only [RK.run, ev, updo, upd, if_true, show c + 1 + 5 ≠ d by omega, show c + 1 + 5 ≠ c + 1 + 6 by omega, if_false, ec]
  refine ⟨by simp [h5c], by simpa using k1, ?_⟩
  refine wpR_step (v := .bool r.isSome) (by simp only [RK.val?, ev, upd, show c + 1 + 6 ≠ d by omega, if_false, if_true]) ?_
  simp only [wpR]
  refine hQ _ _ w2.heap.size cs ?_ ?_ ?_ k2 m12.size ?_ (m12.trans k3)
  · intro j hj hjd hjd1
    simp only [updo, upd, hjd, hjd1, show j ≠ c + 1 by omega, show j ≠ c + 1 + 1 by omega, show j ≠ c + 1 + 2 by omega, show j ≠ c + 1 + 3 by omega, show j ≠ c + 1 + 4 by omega, show j ≠ c by omega, show j ≠ c + 1 + 5 by omega, show j ≠ c + 1 + 6 by omega, if_false]
  · simp only [updo, upd, show d ≠ d + 1 by omega, if_false, if_true]
  · simp only [updo, upd, if_true]
  · exact hrep.mod k3 (by simp) fun b hb hx => ⟨hx, by omega⟩
def UPhi (t : TR) : Nat → Value → World → Prop := fun k v w => if k = 11 then v = .bool true else ∃ cs, v = .agg cs.toArray ∧ RepT (fun _ => True) w t cs
theorem uns_tail {got same : FuncId} {t : TR} {o : Bool} (hgot : GotAt P got t) (hsame : SameAt P same t) {σ : Sl} {w : World} {p1 p2 : Nat} {cs1 cs2 : List Value} {R : Ending → World → Prop}
    (h6 : σ 6 = .pointer (some ⟨p1, 0, none⟩)) (h8 : σ 8 = .pointer (some ⟨p2, 0, none⟩)) (h7 : σ 7 = .bool o) (h9 : σ 9 = .bool o) (hb1 : Blk w p1 cs1) (hb2 : Blk w p2 cs2) (hr1 : RepT (fun b => b < w.heap.size) w t cs1) (hr2 : RepT (fun b => b < w.heap.size) w t cs2)
    (hQ : ∀ σ' w', Mod [] w w' → σ' 4 = .bool true → wpC P .ret (postC [.tmp 4] R) σ' w') :
    wpC P (.seq (.drw (unsTail got same) []) .ret) (postC [.tmp 4] R) σ w := by
  rw [wpC_seq]
  show wpD P (unsTail got same) [] σ w.drew _
  have hb1' : Blk w.drew p1 cs1 := hb1.of_heap rfl
  have hb2' : Blk w.drew p2 cs2 := hb2.of_heap rfl
  have hr1' : RepT (fun b => b < w.heap.size) w.drew t cs1 := hr1.mod (Mod.drew [] w) (by simp) fun _ _ h => h
  have hr2' : RepT (fun b => b < w.heap.size) w.drew t cs2 := hr2.mod (Mod.drew [] w) (by simp) fun _ _ h => h
  have hmd : Mod [] w w.drew := Mod.drew [] w
  have hsz : w.drew.heap.size = w.heap.size := rfl
  generalize w.drew = wd at hb1' hb2' hr1' hr2' hmd hsz ⊢
  refine wpD_of_B (UPhi t) (fun j v w1 w2 h hm => ?_) ?_
  · unfold UPhi at h ⊢
    split at h
    · rename_i hj; rw [if_pos hj]; exact h
    · rename_i hj; rw [if_neg hj]
      obtain ⟨cs, h1, h2⟩ := h
      exact ⟨cs, h1, h2.mod hm (by simp) fun _ _ h => h⟩
  generalize hE : (fun σ' => ∀ w, Mod [] wd w → known (unsTail got same) (UPhi t) (List.range (unsTail got same).length) σ' w → wpR P [] σ' w _) = E
  have hfin : ∀ σ', σ' 4 = .bool true → E σ' := by
    intro σ' h4; subst hE
    intro w' hm' _
    exact hQ σ' w' (hmd.trans hm') h4
  unfold unsTail
  refine walkB_step (v := .bool o) (congrArg some h7) ?_
  refine walkB_step (v := .bool o) (by simp only [RK.val?, ev, updo, upd]; simp [h9]) ?_
  refine walkB_step (v := .bool true) (by simp only [RK.val?, ev, updo, upd]; simp) ?_
  refine walkB_step (v := .bool true) (by simp only [RK.val?, ev, updo, upd, if_true]) ?_
  refine walkB_stepG (v := .bool o) (by simp only [updo, upd, if_true]) (by simp only [RK.val?, ev, updo, upd]; simp [h7]) ?_
  refine walkB_stepG (v := .bool !o) (by simp only [updo, upd]; simp) (by simp only [RK.val?, ev, updo, upd, if_true]) ?_
  refine walkB_stepG (v := .bool !o) (by simp only [updo, upd]; simp) (by simp only [RK.val?, ev, updo, upd, if_true]) ?_
  simp only [updo]
  generalize hσ1 : upd (upd (upd (upd (upd (upd (upd σ 35 (.bool o)) 36 (.bool o)) 37 (.bool true)) 38 (.bool true)) 39 (.bool o)) 40 (.bool !o)) 41 (.bool !o) = σ1
  have s41 : σ1 41 = .bool !o := by subst hσ1; simp only [upd, if_true]
  have s38 : σ1 38 = .bool true := by subst hσ1; simp [upd]
  have s6 : σ1 6 = .pointer (some ⟨p1, 0, none⟩) := by subst hσ1; simp [upd, h6]
  have s8 : σ1 8 = .pointer (some ⟨p2, 0, none⟩) := by subst hσ1; simp [upd, h8]
  clear hσ1
  cases o with
  | false =>
    refine walkB_offG (by simpa using s41) ?_
    refine walkB_offG (by simp only [updo, upd]; simpa using s41) ?_
    refine walkB_offG (by simp only [updo, upd]; simpa using s41) ?_
    refine walkB_offG (by simp only [updo, upd]; simpa using s41) ?_
    refine walkB_offG (by simp only [updo, upd]; simpa using s41) ?_
    refine walkB_stepG (v := .bool true) (by simp only [updo, upd]; simpa using s38) (by simp only [RK.val?, ev, updo, upd]; simp [s41]) ?_
    refine walkB_step (v := .bool true) (by simp only [RK.val?, ev, updo, upd]; simp [s38]) ?_
    refine walkB_step (v := .bool true) (by simp only [RK.val?, ev, updo, upd, if_true]) ?_
    exact hfin _ (by simp only [updo, upd, if_true])
  | true =>
    have s41 : σ1 41 = .bool false := s41
    refine walkB_stepG (v := .agg cs1.toArray) s41 (by simp only [RK.val?, ev, s6, cellsAt_of' hb1'.cells hr1.five, Option.map_some]) ?_
    refine walkB_nodeG (by simp only [updo, upd]; simpa using s41) (fun w1 hm1 _ => ?_) fun v1 hv1 => ?_
    · have hs := hm1.size
      refine (show Calls P got _ w1 _ from hgot w.heap.size w1 cs1 (by omega) (hr1'.mod hm1 (by simp) fun _ _ h => h)).mono ?_
      rintro e w2 ⟨cs', rfl, h2, h3⟩
      refine ⟨_, rfl, h3, ?_⟩
      unfold UPhi; rw [if_neg (by decide)]
      exact ⟨cs', rfl, h2.mod (Mod.refl [] _) (by simp) fun _ _ _ => trivial⟩
    refine walkB_stepG (v := .agg cs2.toArray) (by simp only [updo, upd]; simpa using s41) (by simp only [RK.val?, ev, updo, upd]; simp [s8, cellsAt_of' hb2'.cells hr2.five]) ?_
    refine walkB_nodeG (by simp only [updo, upd]; simpa using s41) (fun w1 hm1 _ => ?_) fun v2 hv2 => ?_
    · have hs := hm1.size
      refine (show Calls P got _ w1 _ from hgot w.heap.size w1 cs2 (by omega) (hr2'.mod hm1 (by simp) fun _ _ h => h)).mono ?_
      rintro e w2 ⟨cs', rfl, h2, h3⟩
      refine ⟨_, rfl, h3, ?_⟩
      unfold UPhi; rw [if_neg (by decide)]
      exact ⟨cs', rfl, h2.mod (Mod.refl [] _) (by simp) fun _ _ _ => trivial⟩
    refine walkB_nodeG (by simp only [updo, upd]; simpa using s41) (fun w1 hm1 hk => ?_) fun v3 hv3 => ?_
    · have k8 := hk 8 (by simp) _ rfl rfl (by simp only [gOk, updo, upd]; simp [s41]) 43 rfl
      have k10 := hk 10 (by simp) _ rfl rfl (by simp only [gOk, updo, upd]; simp [s41]) 45 rfl
      unfold UPhi at k8 k10
      rw [if_neg (by decide)] at k8 k10
      obtain ⟨c1, e1, q1⟩ := k8
      obtain ⟨c2, e2, q2⟩ := k10
      have a1 : ([.tmp 43, .tmp 45] : List Operand).map (ev (updo (updo (updo (updo σ1 (some 42) (.agg cs1.toArray)) (some 43) v1) (some 44) (.agg cs2.toArray)) (some 45) v2)) = [.agg c1.toArray, .agg c2.toArray] := by
        rw [← e1, ← e2]; rfl
      simp only [RK.run, a1]
      refine (hsame w1 c1 c2 q1 q2).mono ?_
      rintro e w2 ⟨rfl, h3⟩
      refine ⟨_, rfl, h3, ?_⟩
      unfold UPhi; rw [if_pos rfl]
    obtain ⟨w3, hw3⟩ := hv3
    have e3 : v3 = .bool true := by unfold UPhi at hw3; rwa [if_pos rfl] at hw3
    subst e3
    refine walkB_stepG (v := .bool true) (by simp only [updo, upd]; simpa using s38) (by simp only [RK.val?, ev, updo, upd]; simp [s41]) ?_
    refine walkB_step (v := .bool true) (by simp only [RK.val?, ev, updo, upd]; simp [s38]) ?_
    refine walkB_step (v := .bool true) (by simp only [RK.val?, ev, updo, upd, if_true]) ?_
    exact hfin _ (by simp only [updo, upd, if_true])
theorem uns_call (hm : P.follows .mixedOrders = true) {f mx ver tell uns got same g : FuncId} (h : liftF P f = some (unsCode mx ver tell uns got same)) {most : Int} (hmost : 0 ≤ most ∧ most < 32768)
    (hmx : ∀ w, Calls P mx #[] w fun e w' => e = .returned (.int .i64 most) ∧ Mod [] w w') (hver : ∀ w n, 0 ≤ n ∧ n < 256 → Calls P ver [.int .u8 n, .int .i64 most].toArray w fun e w' => e = .returned (.int .i64 (n % (most + 1))) ∧ w' = w)
    {Te : TypeId} {ve : Value} {res : Int → List UInt8 → Option TR} (htell : TellOf P tell g Te ve res most) (huns : TellOf P uns g Te ve res most)
    (hsmall : ∀ ver src t, src.length ≤ 1000 → res ver src = some t → t.small) (hgot : ∀ t : TR, t.small → GotAt P got t) (hsame : ∀ t : TR, t.small → SameAt P same t)
    {w : World} {n : Int} (hn : 0 ≤ n ∧ n < 256) {v : Value} {src : List UInt8} (hv : SlC (fun _ => True) w v src.length (u8s src)) (hg : GErr g w Te ve) :
    Calls P f [.int .u8 n, v].toArray w fun e w' => e = .returned (.bool true) ∧ Mod [] w w' := by
  unfold unsCode at h
  refine call_of h hm (by simp) ?_
  have a0 : args0 [.int .u8 n, v] 0 = .int .u8 n := rfl
  have a1 : args0 [.int .u8 n, v] 1 = v := rfl
  generalize args0 [.int .u8 n, v] = σ0 at a0 a1 ⊢
  obtain ⟨base, cap, hvv, -⟩ := id hv
  have fin : ∀ (σ : Sl) (w' : World), Mod [] w w' → σ 4 = .bool true → wpC P .ret (postC [.tmp 4] fun e w' => e = .returned (.bool true) ∧ Mod [] w w') σ w' := by
    intro σ w' hm' h4
    simp only [wpC, postC, rvals, List.mapM_cons, List.mapM_nil, RV.val, h4, Option.bind_eq_bind, Option.bind_some, Option.pure_def, tup_one]
    exact ⟨trivial, hm'⟩
  rw [wpC_seq, wpC_blk]
  refine wpR_step (v := .bool false) rfl ?_
  refine wpR_done ?_
  rw [wpC_seq, wpC_seq, wpC_blk]
  refine wpR_step (v := v) (by simp only [RK.val?, ev, updo, upd]; simp [a1]) ?_
  refine wpR_step (v := .int .i64 src.length) (by simp only [RK.val?, ev, updo, upd, if_true, hvv]) ?_
  refine wpR_step (v := .bool (decide ((src.length : Int) > 2147483647))) (by simp only [RK.val?, ev, updo, upd, if_true, isShift, decide_true, Bool.or_true, intBin]) ?_
  refine wpR_done ?_
  by_cases hbig : (src.length : Int) > 2147483647
  · rw [wpC_cond_t (by simp only [ev, updo, upd, if_true, hbig, decide_true]), wpC_seq, wpC_blk]
    refine wpR_step (v := .bool true) rfl ?_
    refine wpR_done ?_
    exact fin _ _ (Mod.refl _ _) rfl
  rw [wpC_cond_f (by simp only [ev, updo, upd, if_true, hbig, decide_false]), wpC_skip]
  simp only [thenC]
  rw [wpC_seq, wpC_blk]
  refine wpR_call (vs := []) rfl (hmx w) ?_
  rintro e w1 ⟨rfl, m1⟩
  refine ⟨_, rfl, ?_⟩
  refine wpR_step (v := .int .i64 most) rfl ?_
  refine wpR_done ?_
  rw [wpC_seq, wpC_seq, wpC_blk]
  refine wpR_step (v := .int .i64 most) rfl ?_
  refine wpR_step (v := .bool false) (by simp only [RK.val?, ev, updo, upd, if_true, isShift, decide_true, Bool.or_true, intBin]; simp; omega) ?_
  refine wpR_done ?_
  rw [wpC_cond_f rfl, wpC_skip]
  simp only [thenC]
  rw [wpC_seq, wpC_seq, wpC_blk]
  refine wpR_step (v := v) (by simp only [RK.val?, ev, updo, upd]; simp [a1]) ?_
  refine wpR_step (v := .int .i64 src.length) (by simp only [RK.val?, ev, updo, upd, if_true, hvv]) ?_
  refine wpR_step (v := .bool (decide ((src.length : Int) > 1000))) (by simp only [RK.val?, ev, updo, upd, if_true, isShift, decide_true, Bool.or_true, intBin]) ?_
  refine wpR_done ?_
  by_cases hbig2 : (src.length : Int) > 1000
  · rw [wpC_cond_t (by simp only [ev, updo, upd, if_true, hbig2, decide_true]), wpC_seq, wpC_blk]
    refine wpR_step (v := .bool true) rfl ?_
    refine wpR_done ?_
    exact fin _ _ m1 rfl
  rw [wpC_cond_f (by simp only [ev, updo, upd, if_true, hbig2, decide_false]), wpC_skip]
  simp only [thenC]
  rw [wpC_seq, wpC_blk]
  have hg1 : GErr g w1 Te ve := cell_mod hg m1 (by simp)
  have hv1 := hv.mod (ok' := fun _ => True) m1 (by simp) fun _ _ h => h
  refine pair_wp (n := n) (most := most) (src := src) (v := v) htell (fun w => hver w n hn) hn.1 hmost.1 (by omega) (by simp only [updo, upd]; simp [a0]) (by simp only [updo, upd]; simp) (by simp only [updo, upd]; simp [a1]) hv1 hg1 (by omega) (by omega) ?_
  intro σ2 w2 p1 cs1 a2 q6 q7 hb1 hp1 hr1 m2
  have g2 : ∀ j, j < 6 → j ≠ 4 → σ2 j = (if j = 5 then .int .i64 most else σ0 j) := by
    intro j hj h4
    rw [a2 j (by omega) (by omega) (by omega)]
    simp only [updo, upd, h4, show j ≠ 13 by omega, show j ≠ 14 by omega, show j ≠ 15 by omega, show j ≠ 16 by omega, show j ≠ 17 by omega, show j ≠ 18 by omega, show j ≠ 10 by omega, show j ≠ 11 by omega, show j ≠ 12 by omega, if_false]
  simp only [thenC]
  rw [wpC_seq, wpC_blk]
  refine pair_wp (n := n) (most := most) (src := src) (v := v) huns (fun w => hver w n hn) hn.1 hmost.1 (by omega) (by rw [g2 0 (by omega) (by omega)]; exact a0) (by rw [g2 5 (by omega) (by omega)]; rfl) (by rw [g2 1 (by omega) (by omega)]; exact a1)
    (hv1.mod (ok' := fun _ => True) m2 (by simp) fun _ _ h => h) (cell_mod hg1 m2 (by simp)) (by omega) (by omega) ?_
  intro σ3 w3 p2 cs2 a3 q8 q9 hb2 hp2 hr2 m3
  simp only [thenC]
  have hsm : ((res (n % (most + 1)) src).getD .zero).small := by
    cases hr : res (n % (most + 1)) src with
    | none => simp [TR.zero, TR.small, TR.smallL]
    | some t => exact hsmall _ _ _ (by omega) hr
  refine uns_tail (hgot _ hsm) (hsame _ hsm) (by rw [a3 6 (by omega) (by omega) (by omega)]; exact q6) q8 (by rw [a3 7 (by omega) (by omega) (by omega)]; exact q7) q9 (hb1.mod m3 (by simp)) hb2
    (hr1.mod m3 (by simp) fun b hb _ => Nat.lt_of_lt_of_le hb m3.size) (hr2.mod (Mod.refl [] _) (by simp) fun b hb _ => hb) fun σ' w' hm' h4 => fin σ' w' ((m1.trans m2).trans (m3.trans hm')) h4
end
end Go.Msk

namespace Go.Msk
open Go.RowKit
set_option maxRecDepth 100000
structure LibI (P : Program) (F : Nat → Nat) (has : Nat → Bool) : Prop where
  iBoolTree : has Msk.iBoolTree = true → liftF P (F Msk.iBoolTree) = some (ir_iBoolTree F)
  iTextTree : has Msk.iTextTree = true → liftF P (F Msk.iTextTree) = some (ir_iTextTree F)
  iOctetsTree : has Msk.iOctetsTree = true → liftF P (F Msk.iOctetsTree) = some (ir_iOctetsTree F)
  tEach : has Msk.tEach = true → liftF P (F Msk.tEach) = some (ir_tEach F)
  iSorted : has Msk.iSorted = true → liftF P (F Msk.iSorted) = some (ir_iSorted F)
  sort : has Msk.tEach = true → SortC P (F sortSlice) (F tEach1) (F tyU32s)
section
variable {P : Program} {F : Nat → Nat}
theorem boolTree_ok (hm : P.follows .mixedOrders = true) (h : liftF P (F iBoolTree) = some (ir_iBoolTree F)) : (TK.boo (F iBoolTree)).Ok P := by
  intro O w g v hg hr
  obtain ⟨b, rfl⟩ := hg
  have hv : v = .bool b := by cases hr; rfl
  subst hv
  refine call_of h hm (by simp) ?_
  rw [wpC_seq, wpC_blk]
  refine wpR_run ?_
  intro T
  have hb2 : Blk (w.alloc (.cells tzero.toArray T)) w.heap.size tzero := Blk.new w tzero T
  have hm1 : Mod [] w (w.alloc (.cells tzero.toArray T)) := Mod.alloc _ _ _
  have hz : ([Value.int .i64 0, .slice none 0 0, .bool false, .slice none 0 0, .slice none 0 0] : List Value) = tzero := rfl
  rw [hz]
  have hsz : (w.alloc (.cells tzero.toArray T)).heap.size = w.heap.size + 1 := by simp
  generalize w.alloc (.cells tzero.toArray T) = w1 at hb2 hm1 hsz ⊢
  have a0 : args0 [Value.bool b] 0 = .bool b := rfl
  generalize args0 [Value.bool b] = σ0 at a0 ⊢
  show wpC P (.seq (.seq _ _) _) _ _ _
  rw [wpC_seq, wpC_seq, wpC_blk]
  refine wpR_step (v := .bool b) (by simp [RK.val?, ev, updo, upd, a0]) ?_
  refine wpR_done ?_
  cases b with
  | true =>
    rw [wpC_cond_t rfl, wpC_seq, wpC_blk]
    refine wpR_step (v := .agg [.int .i64 1, .slice none 0 0, .bool false, .slice none 0 0, .slice none 0 0].toArray) (by simp [RK.val?, ev, fillL, tzero, splice, Value.cells]) ?_
    exact treeRet (by simp [updo, upd]) hb2 (by simp [updo, upd]) (RepT.num 1 false) hm1.nil (Nat.le_refl _)
  | false =>
    rw [wpC_cond_f rfl, wpC_skip]
    simp only [thenC]
    rw [wpC_seq, wpC_blk]
    refine wpR_step (v := .agg [.int .i64 0, .slice none 0 0, .bool false, .slice none 0 0, .slice none 0 0].toArray) (by simp [RK.val?, ev, fillL, tzero]) ?_
    exact treeRet (by simp [updo, upd]) hb2 (by simp [updo, upd]) (RepT.num 0 false) hm1.nil (Nat.le_refl _)
def TK.okB (F : Nat → Nat) (has : Nat → Bool) : TK → Bool
  | .num _ => true
  | .str => true
  | .boo f => f == F iBoolTree && has iBoolTree
  | .txt f => f == F iTextTree && has iTextTree
  | .oct f => f == F iOctetsTree && has iOctetsTree
theorem TK.ok_of {has : Nat → Bool} (hm : P.follows .mixedOrders = true) (L : LibI P F has) {k : TK} (h : k.okB F has = true) : k.Ok P := by
  cases k with
  | num c => trivial
  | str => trivial
  | boo f => simp only [TK.okB, Bool.and_eq_true, beq_iff_eq] at h; rw [h.1]; exact boolTree_ok hm (L.iBoolTree h.2)
  | txt f => simp only [TK.okB, Bool.and_eq_true, beq_iff_eq] at h; rw [h.1]; exact textTree_ok hm (L.iTextTree h.2)
  | oct f => simp only [TK.okB, Bool.and_eq_true, beq_iff_eq] at h; rw [h.1]; exact octetsTree_ok hm (L.iOctetsTree h.2)
def Tl.cells : Tl → Nat
  | .nil => 0
  | .fld _ rest => 1 + rest.cells
  | .lst _ _ _ rest => 1 + rest.cells
  | .uid rest => 16 + rest.cells
  | .sub _ n _ rest => n + rest.cells
  | .tags .. => 1
def Tl.okB (F : Nat → Nat) (has : Nat → Bool) : Tl → Bool
  | .nil => true
  | .fld k rest => k.okB F has && rest.okB F has
  | .lst k _ body rest => (match k with | .tell _ => decide (0 < body.cells) && decide (body.len ≤ 1000) | _ => true) && body.okB F has && rest.okB F has
  | .uid rest => rest.okB F has
  | .sub _ n body rest => decide (0 < body.cells) && decide (body.len ≤ 1000) && decide (body.cells = n) && body.okB F has && rest.okB F has
  | .tags _ b c => b == F tEach && c == F iSorted && has tEach && has iSorted
def Tl.subs : Tl → List (FuncId × Tl)
  | .nil => []
  | .fld _ rest => rest.subs
  | .lst k _ body rest => (match k with | .tell f => [(f, body)] | _ => []) ++ (body.subs ++ rest.subs)
  | .uid rest => rest.subs
  | .sub f _ body rest => (f, body) :: (body.subs ++ rest.subs)
  | .tags .. => []
def Tl.cbs : Tl → List FuncId
  | .nil => []
  | .fld _ rest => rest.cbs
  | .lst _ _ body rest => body.cbs ++ rest.cbs
  | .uid rest => rest.cbs
  | .sub _ _ body rest => body.cbs ++ rest.cbs
  | .tags a _ _ => [a]
def SubsOk (P : Program) : List (FuncId × Tl) → Prop
  | [] => True
  | p :: l => liftF P p.1 = some (p.2.code 0) ∧ SubsOk P l
def CbsOk (P : Program) : List FuncId → Prop
  | [] => True
  | a :: l => (liftF P a = some cbCode ∧ hasBody P a = true) ∧ CbsOk P l
theorem SubsOk.append {l l' : List (FuncId × Tl)} (h : SubsOk P (l ++ l')) : SubsOk P l ∧ SubsOk P l' := by
  induction l with
  | nil => exact ⟨trivial, h⟩
  | cons p l ih => exact ⟨⟨h.1, (ih h.2).1⟩, (ih h.2).2⟩
theorem CbsOk.append {l l' : List FuncId} (h : CbsOk P (l ++ l')) : CbsOk P l ∧ CbsOk P l' := by
  induction l with
  | nil => exact ⟨trivial, h⟩
  | cons p l ih => exact ⟨⟨h.1, (ih h.2).1⟩, (ih h.2).2⟩
theorem Tl.cells_len {has : Nat → Bool} : ∀ (tl : Tl) (O : List Nat) (w : World) (gs : List GV) (css : List (List Value)), tl.okB F has = true → tl.ty gs → RepL O w gs css → css.flatten.length = tl.cells := by
  intro tl
  induction tl with
  | nil => intro O w gs css _ hT hr; simp only [Tl.ty] at hT; subst hT; cases hr; rfl
  | fld k rest ih =>
    intro O w gs css h hT hr
    simp only [Tl.okB, Bool.and_eq_true] at h
    obtain ⟨g, l, rfl, hg, hT⟩ := hT
    cases hr with
    | cons h1 h2 => simp only [List.flatten_cons, List.length_append, Tl.cells, TK.one hg h1, ih _ _ _ _ h.2 hT h2]
  | lst k esz body rest _ ih =>
    intro O w gs css h hT hr
    simp only [Tl.okB, Bool.and_eq_true] at h
    obtain ⟨isnil, sz, x, l, rfl, -, -, -, hT⟩ := hT
    cases hr with
    | @cons _ _ cs css h1 h2 =>
      have : cs.length = 1 := by cases h1 <;> rfl
      simp only [List.flatten_cons, List.length_append, Tl.cells, this, ih _ _ _ _ h.2 hT h2]
  | uid rest ih =>
    intro O w gs css h hT hr
    obtain ⟨x, l, rfl, hx, hT⟩ := hT
    cases hr with
    | @cons _ _ cs css h1 h2 =>
      have : cs.length = 16 := by cases h1; rw [u8s_length, hx]
      simp only [List.flatten_cons, List.length_append, Tl.cells, this, ih _ _ _ _ h hT h2]
  | sub f n body rest ihb ih =>
    intro O w gs css h hT hr
    simp only [Tl.okB, Bool.and_eq_true, decide_eq_true_eq] at h
    obtain ⟨x, l, rfl, hx, hT, -⟩ := hT
    cases hr with
    | @cons _ _ cs css h1 h2 =>
      have : cs.length = n := by cases h1 with | rcd h1 => rw [← h.1.1.2]; exact ihb _ _ _ _ h.1.2 hx h1
      simp only [List.flatten_cons, List.length_append, Tl.cells, this, ih _ _ _ _ h.2 hT h2]
  | tags a b c =>
    intro O w gs css h hT hr
    obtain ⟨m, rfl, -⟩ := hT
    cases hr with
    | @cons _ _ cs css h1 h2 =>
      cases h2
      have : cs.length = 1 := by cases h1 <;> rfl
      simp [this, Tl.cells]
theorem Tl.tellS {has : Nat → Bool} (hm : P.follows .mixedOrders = true) {tl : Tl} {f : FuncId} (hb : tl.okB F has = true) (hO : tl.Ok P) (hpos : 0 < tl.cells) (hlen : tl.len ≤ 1000) (h : liftF P f = some (tl.code 0)) : TellS P f tl.ty := by
  intro O w B base gs css hT hr hc
  have hl := Tl.cells_len tl O w gs css hb hT hr
  have hcell : ∃ v, css.flatten[0]? = some v := ⟨css.flatten[0], List.getElem?_eq_getElem (by omega)⟩
  obtain ⟨v, hv⟩ := hcell
  have := hc.2 0 v hv
  have hlt := World.block_lt_of_cell? w _ this
  exact Tl.call hm h hO hlen O w B base gs css hT hr hlt hc
theorem Tl.ok_of {has : Nat → Bool} (hm : P.follows .mixedOrders = true) (L : LibI P F has) : ∀ tl : Tl, tl.okB F has = true → SubsOk P tl.subs → CbsOk P tl.cbs → tl.Ok P := by
  intro tl
  induction tl with
  | nil => intro _ _ _; trivial
  | fld k rest ih =>
    intro h hs hc
    simp only [Tl.okB, Bool.and_eq_true] at h
    exact ⟨TK.ok_of hm L h.1, ih h.2 hs hc⟩
  | lst k esz body rest ihb ih =>
    intro h hs hc
    simp only [Tl.okB, Bool.and_eq_true] at h
    obtain ⟨s1, s2⟩ := SubsOk.append hs
    obtain ⟨s3, s4⟩ := SubsOk.append s2
    obtain ⟨c1, c2⟩ := CbsOk.append hc
    refine ⟨?_, ih h.2 s4 c2⟩
    cases k with
    | num c => trivial
    | str => trivial
    | tell f =>
      simp only [Bool.and_eq_true, decide_eq_true_eq] at h
      exact Tl.tellS hm h.1.2 (ihb h.1.2 s3 c1) h.1.1.1 h.1.1.2 s1.1
  | uid rest ih => intro h hs hc; exact ih h hs hc
  | sub f n body rest ihb ih =>
    intro h hs hc
    simp only [Tl.okB, Bool.and_eq_true, decide_eq_true_eq] at h
    obtain ⟨s3, s4⟩ := SubsOk.append hs.2
    obtain ⟨c1, c2⟩ := CbsOk.append hc
    exact ⟨Tl.tellS hm h.1.2 (ihb h.1.2 s3 c1) h.1.1.1.1 h.1.1.1.2 hs.1, ih h.2 s4 c2, fun O w gs css hT hr => by rw [← h.1.1.2]; exact Tl.cells_len body O w gs css h.1.2 hT hr⟩
  | tags a b c =>
    intro h _ hc
    simp only [Tl.okB, Bool.and_eq_true, beq_iff_eq] at h
    obtain ⟨⟨⟨rfl, rfl⟩, h3⟩, h4⟩ := h
    exact ⟨hm, hc.1.1, hc.1.2, fun hcb hb _ _ _ hce hM h1 h2 h5 h6 h7 h8 h9 => tEach_call hm (L.tEach h3) (L.sort h3) hcb hb hce hM h1 h2 h5 h6 h7 h8 h9, fun hp hs hl => iSorted_call hm (L.iSorted h4) hp hs hl⟩
end
end Go.Msk

namespace Go.Msk
open Go.RowKit
set_option maxRecDepth 100000
def dsL (sp : Nat) : List (Nat × Value) → Nat → List IC
  | [], _ => []
  | (off, v) :: r, t => .blk [⟨some t, .mv (.tmp sp), none⟩, ⟨some (t + 1), .nilc (.tmp t), none⟩, ⟨some (t + 2), .fad (.tmp (t + 1)) off, none⟩, ⟨none, .st (.tmp (t + 2)) 1 (.const v), none⟩] :: dsL sp r (t + 3)
abbrev DnI := (Nat × Value) ⊕ (Nat × List (Nat × Value))
def dnFlat : List DnI → List (Nat × Value)
  | [] => []
  | .inl p :: r => p :: dnFlat r
  | .inr (off, l) :: r => (l.map fun p => (off + p.1, p.2)) ++ dnFlat r
def dnL : List DnI → (nv t : Nat) → List IC
  | [], _, _ => []
  | .inl p :: r, nv, t => dsL 0 [p] t ++ dnL r nv (t + 3)
  | .inr (off, l) :: r, nv, t => seqs (.blk [⟨some t, .mv (.tmp 0), none⟩, ⟨some (t + 1), .nilc (.tmp t), none⟩, ⟨some (t + 2), .fad (.tmp (t + 1)) off, none⟩, ⟨some nv, .mv (.tmp (t + 2)), none⟩] :: .blk [⟨some (t + 3), .mv (.tmp nv), none⟩] ::
      dsL nv l (t + 4)) :: dnL r (nv + 1) (t + 4 + 3 * l.length)
def dnN : List DnI → Nat
  | [] => 0
  | .inl _ :: r => dnN r
  | .inr _ :: r => dnN r + 1
def dnT : List DnI → Nat
  | [] => 0
  | .inl _ :: r => 3 + dnT r
  | .inr (_, l) :: r => 4 + 3 * l.length + dnT r
def dnGen (l : List DnI) : IC × List RV × Nat := (seqs (dnL l 2 (2 + dnN l)), [], 2 + dnN l + dnT l)
theorem dfRes_app : ∀ (l l' : List (Nat × Value)) (z : List Value), dfRes (l ++ l') z = dfRes l' (dfRes l z)
  | [], _, _ => rfl
  | (o, v) :: l, l', z => by simp only [List.cons_append, dfRes]; exact dfRes_app l l' _
section
variable {P : Program}
theorem dsL_wp {B base sp : Nat} {pre post : List Value} : ∀ (l : List (Nat × Value)) (t : Nat) (z : List Value) (σ : Sl) (w : World) (Q : Exit → Sl → World → Prop), sp < t → dfOk (l.map fun p => (base + p.1, p.2)) z.length → σ sp = .pointer (some ⟨B, pre.length + base, none⟩) →
    Blk w B (pre ++ (z ++ post)) → (∀ σ' w', (∀ j, j < t → σ' j = σ j) → Mod [B] w w' → Blk w' B (pre ++ (dfRes (l.map fun p => (base + p.1, p.2)) z ++ post)) → Q .normal σ' w') → wpL P (dsL sp l t) Q σ w
  | [], t, z, σ, w, Q, ht, hok, h0, hb, hQ => hQ σ w (fun _ _ => rfl) (Mod.refl _ _) hb
  | (off, v) :: r, t, z, σ, w, Q, ht, hok, h0, hb, hQ => by
    obtain ⟨ho, hv, h1⟩ := hok (base + off, v) List.mem_cons_self
    simp only at ho hv h1
    simp only [dsL, wpL, wpC, wpR, RI.wp, gOk, if_true, RK.run, ev, updo]
    simp only [upd, if_true, h0, Addr.add_mk, hv]
    have hput : Mod [B] w (putCells w ⟨B, pre.length + base + off, none⟩ 0 [v]) := Mod.put (by simp)
    refine ⟨rfl, stOk_many hb (by simp; omega) (by simpa using h1), ?_⟩
    have hp := hb.put (o := pre.length + (base + off)) (vs := [v]) (by simp; omega)
    rw [set_splice1 _ _ _ _ _ ho, ← Nat.add_assoc] at hp
    simp only [thenC]
    refine dsL_wp r (t + 3) (z.set (base + off) v) _ _ Q (by omega) (fun p hp => by rw [List.length_set]; exact hok p (List.mem_cons_of_mem _ hp)) ?_ (by simpa using hp) fun σ' w' hag hm hb' => hQ σ' w' (fun j hj => ?_) (hput.trans hm) hb'
    · simp only [upd, show sp ≠ t by omega, show sp ≠ t + 1 by omega, show sp ≠ t + 2 by omega, if_false, h0]
    · rw [hag j (by omega)]
      simp only [upd, show j ≠ t by omega, show j ≠ t + 1 by omega, show j ≠ t + 2 by omega, if_false]
theorem dnL_wp {B : Nat} {pre post : List Value} : ∀ (l : List DnI) (nv t : Nat) (z : List Value) (σ : Sl) (w : World) (Q : Exit → Sl → World → Prop), 1 ≤ nv → nv + dnN l ≤ t → dfOk (dnFlat l) z.length → σ 0 = .pointer (some ⟨B, pre.length, none⟩) →
    Blk w B (pre ++ (z ++ post)) → (∀ σ' w', Mod [B] w w' → Blk w' B (pre ++ (dfRes (dnFlat l) z ++ post)) → Q .normal σ' w') → wpL P (dnL l nv t) Q σ w
  | [], nv, t, z, σ, w, Q, hn, ht, hok, h0, hb, hQ => hQ σ w (Mod.refl _ _) hb
  | .inl p :: r, nv, t, z, σ, w, Q, hn, ht, hok, h0, hb, hQ => by
    simp only [dnL]
    rw [wpL_append]
    simp only [dnN] at ht
    have e1 : ([p].map fun p : Nat × Value => (0 + p.1, p.2)) = [p] := by simp
    refine dsL_wp (base := 0) [p] t z σ w _ (by omega) (by rw [e1]; exact fun q hq => hok q (by simp only [List.mem_singleton] at hq; subst hq; exact List.mem_cons_self)) h0 hb fun σ' w' hag hm hb' => ?_
    rw [e1] at hb'
    refine thenC_n ?_
    refine dnL_wp r nv (t + 3) _ σ' w' Q hn (by omega) (fun q hq => by rw [dfRes_len]; exact hok q (List.mem_cons_of_mem _ hq)) ((hag 0 (by omega)).trans h0) hb' fun σ2 w2 hm2 hb2 => hQ σ2 w2 (hm.trans hm2) ?_
    obtain ⟨o, v⟩ := p
    exact hb2
  | .inr (off, l) :: r, nv, t, z, σ, w, Q, hn, ht, hok, h0, hb, hQ => by
    simp only [dnL]
    simp only [dnN] at ht
    refine wpL_cons ?_
    rw [wpC_seqs]
    refine wpL_cons ?_
    rw [wpC_blk]
    refine go1 (v := .pointer (some ⟨B, pre.length, none⟩)) rfl (by simp [RK.val?, ev, h0]) ?_
    refine go1 (v := .pointer (some ⟨B, pre.length, none⟩)) rfl (by simp [RK.val?, ev, updo, upd]) ?_
    refine go1 (v := .pointer (some ⟨B, pre.length + off, none⟩)) rfl (by simp [RK.val?, ev, updo, upd, Addr.add_mk]) ?_
    refine go1 (v := .pointer (some ⟨B, pre.length + off, none⟩)) rfl (by simp [RK.val?, ev, updo, upd]) (goEnd ?_)
    refine thenC_n ?_
    generalize hσ : updo _ (some nv) _ = σ1
    have a1 : ∀ j, j < t → j ≠ nv → σ1 j = σ j := fun j hj hne => by rw [← hσ]; simp only [updo, upd, hne, show j ≠ t by omega, show j ≠ t + 1 by omega, show j ≠ t + 2 by omega, if_false]
    have v1 : σ1 nv = .pointer (some ⟨B, pre.length + off, none⟩) := by rw [← hσ]; simp [updo, upd]
    clear hσ
    refine wpL_cons ?_
    rw [wpC_blk]
    refine go1 (v := .pointer (some ⟨B, pre.length + off, none⟩)) rfl (by simp [RK.val?, ev, v1]) (goEnd ?_)
    refine thenC_n ?_
    have a2 : ∀ j, j < t + 3 → updo σ1 (some (t + 3)) (.pointer (some ⟨B, pre.length + off, none⟩)) j = σ1 j := fun j hj => by simp only [updo, upd, show j ≠ t + 3 by omega, if_false]
    refine dsL_wp (base := off) l (t + 4) z _ w _ (by omega) (fun q hq => hok q (by simp only [dnFlat]; exact List.mem_append_left _ hq)) ((a2 nv (by omega)).trans v1) hb fun σ' w' hag hm hb' => ?_
    refine thenC_n ?_
    refine dnL_wp r (nv + 1) (t + 4 + 3 * l.length) _ σ' w' Q (by omega) (by omega) (fun q hq => by rw [dfRes_len]; exact hok q (by simp only [dnFlat]; exact List.mem_append_right _ hq)) ?_ hb' fun σ2 w2 hm2 hb2 => hQ σ2 w2 (hm.trans hm2) ?_
    · rw [hag 0 (by omega), a2 0 (by omega), a1 0 (by omega) (by omega)]; exact h0
    · simp only [dnFlat]; rw [dfRes_app]; exact hb2
theorem dn_call (hm : P.follows .mixedOrders = true) {f : FuncId} {l : List DnI} (h : liftF P f = some (dnGen l)) {z d : List Value} (hok : dfOk (dnFlat l) z.length) (hd : dfRes (dnFlat l) z = d) : DfC P f z d := by
  intro w B pre post hb
  refine call_of h hm (by simp; omega) ?_
  rw [wpC_seqs]
  refine dnL_wp l 2 _ z _ w _ (by omega) (Nat.le_refl _) hok rfl hb fun σ' w' hm' hb' => ?_
  simp only [postC, rvals, List.mapM_nil, Option.pure_def, tup]
  exact ⟨trivial, hd ▸ hb', hm'⟩
end
end Go.Msk

namespace Go.Msk
open Go.RowKit
set_option maxRecDepth 100000
section
variable {P : Program} {F : Nat → Nat}
structure MsgFs where
  tellD : FuncId
  unsD : FuncId
  mx : FuncId
  newp : FuncId
  maxv : FuncId
  setv : FuncId
  rf : FuncId
  urf : FuncId
  rd : FuncId
  tell : FuncId
structure MsgOk (P : Program) (F : Nat → Nat) (has : Nat → Bool) (M : MsgFs) (T : Top) (tl : Tl) (z : List Value) (most : Int) : Prop where
  mx : liftF P M.mx = some (impMaxCode M.newp M.maxv)
  maxv : liftF P M.maxv = some (maxCode most)
  newp : liftF P M.newp = some (newCode z T.dfl)
  setv : liftF P M.setv = some setCode
  rf : liftF P M.rf = some (rfCode M.rd false)
  urf : liftF P M.urf = some (rfCode M.rd true)
  tellD : liftF P M.tellD = some (tellCode M.newp M.setv M.rf M.tell)
  unsD : liftF P M.unsD = some (tellCode M.newp M.setv M.urf M.tell)
  rd : liftF P M.rd = some T.gen
  tell : liftF P M.tell = some (tl.code 1)
  dfl : ∃ l, liftF P T.dfl = some (dfGen l) ∧ dfOk l (T.sc.dcs.flatten.length + 1) ∧ z.length = T.sc.dcs.flatten.length + 1 ∧ dfRes l z = .int .i16 0 :: T.sc.dcs.flatten ∧ ∀ ver, dfRes l (.int .i16 ver :: T.sc.dcs.flatten) = .int .i16 ver :: T.sc.dcs.flatten
  dfs : DfsOk P T.sc.dfs
  kdfs : KdfsOk P T.sc.kdfs
  okT : T.okB F has = true
  okL : tl.okB F has = true
  subs : SubsOk P tl.subs
  cbs : CbsOk P tl.cbs
  fits : fit T.sc tl = true
  small : T.sc.smallB = true
  len : T.sc.len ≤ 1000
  tlen : tl.len ≤ 1000
  most : 0 ≤ most ∧ most < 32768
variable {has : Nat → Bool} {M : MsgFs} {T : Top} {tl : Tl} {z : List Value} {most : Int}
theorem Top.dec_src {T : Top} {ver v : Int} {src : List UInt8} {n : Bool} {gs : List GV} {s' : RS} (h : T.dec decStd ver ⟨src, false, n⟩ = some ((v, gs), s')) : ∃ s1 : RS, s1.src.length ≤ src.length ∧ T.sc.dec decStd v (T.x v) s1 = some (gs, s') := by
  unfold Top.dec at h
  split at h
  rename_i v1 s1 he
  split at h
  · simp at h
  · rename_i l s2 hd
    simp only [Option.some.injEq, Prod.mk.injEq] at h
    obtain ⟨⟨rfl, rfl⟩, rfl⟩ := h
    refine ⟨s1, ?_, hd⟩
    split at he
    · simp only [Prod.mk.injEq] at he
      rw [← he.2]; exact rdN_le 2 ⟨src, false, n⟩
    · simp only [Prod.mk.injEq] at he
      rw [← he.2]; exact Nat.le_refl _
theorem MsgOk.tells_small (h : MsgOk P F has M T tl z most) {ver : Int} {src : List UInt8} {t : TR} (hl : src.length ≤ 2147483647) (ht : T.tells decStd ver src = some t) : t.small := by
  unfold Top.tells at ht
  cases hd : T.dec decStd ver ⟨src, false, src.isEmpty⟩ with
  | none => rw [hd] at ht; simp at ht
  | some q =>
    obtain ⟨⟨v, gs⟩, s⟩ := q
    rw [hd] at ht
    simp only at ht
    split at ht
    · simp at ht
    · simp only [Option.some.injEq] at ht
      subst ht
      obtain ⟨s1, h1, h2⟩ := Top.dec_src hd
      obtain ⟨k1, k2, -⟩ := dec_small decStd_ok decStd_small T.sc s1 s gs h.small (by omega) h2
      exact (rcd_small (by have := h.len; omega) k2).1
theorem MsgOk.ty (h : MsgOk P F has M T tl z most) {ver vr : Int} {src : List UInt8} {gs : List GV} {s : RS} (hl : src.length ≤ 2147483647) (hd : T.dec decStd ver ⟨src, false, src.isEmpty⟩ = some ((vr, gs), s)) : tl.ty gs := by
  obtain ⟨s1, h1, h2⟩ := Top.dec_src hd
  exact (fit_ty decStd_ok T.sc tl s1 s gs h.fits (by omega) h2).1
theorem MsgOk.tellOf (L : Lib P F has) (LI : LibI P F has) (h : MsgOk P F has M T tl z most) {Te : TypeId} {ve : Value} :
    TellOf P M.tellD (F gErr) Te ve (fun ver src => T.tells decStd ver src) most ∧ TellOf P M.unsD (F gErr) Te ve (fun ver src => T.tells decStd ver src) most := by
  obtain ⟨l, e1, e2, e3, e4, e5⟩ := h.dfl
  have hz : DfC P T.dfl z (.int .i16 0 :: T.sc.dcs.flatten) := df_call L.mixed e1 (by rw [e3]; exact e2) e4
  have hT : ∀ u, T.Ok P decStd (F gErr) u := Top.ok_of L h.okT h.dfs h.kdfs e1 e2 e5
  have htl : TellAt P M.tell 1 tl.ty := Tl.call L.mixed h.tell (Tl.ok_of L.mixed LI tl h.okL h.subs h.cbs) h.tlen
  have hw : ∀ ver : Int, 0 ≤ ver → ver ≤ most → IntKind.i16.wrap ver = ver := fun ver h1 h2 => by
    have := h.most
    simp only [IntKind.wrap, IntKind.bits, IntKind.signed]; simp; omega
  refine ⟨fun w ver v src h1 h2 h3 h4 h5 => ?_, fun w ver v src h1 h2 h3 h4 h5 => ?_⟩
  · exact tell_call L.mixed h.tellD h.newp hz h.setv h.rf h.rd (hT false) htl (fun vr gs s hd => h.ty (by omega) hd) h4 (by omega) (hw ver h1 h2) h5
  · exact tell_call L.mixed h.unsD h.newp hz h.setv h.urf h.rd (hT true) htl (fun vr gs s hd => h.ty (by omega) hd) h4 (by omega) (hw ver h1 h2) h5
theorem uns_msg (L : Lib P F has) (LI : LibI P F has) (h : MsgOk P F has M T tl z most) {f : FuncId} (hf : liftF P f = some (unsCode M.mx (F lVersion) M.tellD M.unsD (F lGot) (F sSameTree))) (hv : liftF P (F lVersion) = some (ir_lVersion F))
    (hg : liftF P (F lGot) = some (ir_lGot F)) (hst : liftF P (F sSameTree) = some (ir_sSameTree F)) (hs : liftF P (F sSame) = some (ir_sSame F)) {Te : TypeId} {ve : Value} {w : World} {n : Int} (hn : 0 ≤ n ∧ n < 256) {v : Value} {src : List UInt8}
    (hsl : SlC (fun _ => True) w v src.length (u8s src)) (hge : GErr (F gErr) w Te ve) : Calls P f [.int .u8 n, v].toArray w fun e w' => e = .returned (.bool true) ∧ Mod [] w w' := by
  obtain ⟨l, e1, e2, e3, e4, e5⟩ := h.dfl
  have hz : DfC P T.dfl z (.int .i16 0 :: T.sc.dcs.flatten) := df_call L.mixed e1 (by rw [e3]; exact e2) e4
  obtain ⟨t1, t2⟩ := h.tellOf L LI (Te := Te) (ve := ve)
  exact uns_call L.mixed hf h.most (fun w => impMax_call L.mixed h.mx h.newp hz h.maxv h.most) (fun w n hn => version_call L.mixed hv hn h.most) t1 t2 (fun ver src t hl ht => h.tells_small (by omega) ht) (got_call L.mixed hg) (sameTree_call L.mixed hst hs) hn hsl hge
end
end Go.Msk

namespace Go.Msk
open Go.RowKit Go.Shelf Go.Proofs
set_option maxRecDepth 100000
def ltN (x y : Nat) : Bool := decide (x < y)
theorem swo_ltN : Go.Sort.SWO ltN where
  irrefl := fun x => by simp [ltN]
  trans := fun x y z => by simp only [ltN, decide_eq_true_eq]; omega
  ntrans := fun x y z => by simp only [ltN, decide_eq_false_iff_not]; omega
theorem sortWorld_ok {w : World} {B m : Nat} {cs : List Value} {dk : Array Nat} {os : Array Obj} (h : Blk w B cs) (hl : cs.length = dk.size) :
    Mod [B] w (Go.Sort.grow (Go.Sort.putRow u32v (Go.Sort.ahead w m) B 0 dk) os) ∧ Blk (Go.Sort.grow (Go.Sort.putRow u32v (Go.Sort.ahead w m) B 0 dk) os) B (dk.toList.map u32v) := by
  obtain ⟨T, fr, hb, hfr⟩ := h
  have hlt : B < w.heap.size := (Array.getElem?_eq_some_iff.1 hb).1
  have hsz : (w.heap.modify B (Go.Sort.onCells (Go.Sort.putCells u32v 0 dk))).size = w.heap.size := by simp
  have hget : ∀ k, k < w.heap.size → (Go.Sort.grow (Go.Sort.putRow u32v (Go.Sort.ahead w m) B 0 dk) os).heap[k]? = (w.heap.modify B (Go.Sort.onCells (Go.Sort.putCells u32v 0 dk)))[k]? := fun k hk => by
    show ((w.heap.modify B (Go.Sort.onCells (Go.Sort.putCells u32v 0 dk))) ++ os)[k]? = _
    rw [Array.getElem?_append_left (by omega)]
  refine ⟨⟨rfl, rfl, rfl, ?_, fun k hk hn => ?_⟩, T, fr, ?_, ?_⟩
  · show w.heap.size ≤ ((w.heap.modify B (Go.Sort.onCells (Go.Sort.putCells u32v 0 dk))) ++ os).size
    simp
  · rw [hget k hk, Array.getElem?_modify, if_neg (by simp only [List.mem_singleton] at hn; omega)]
  · rw [hget B hlt, Array.getElem?_modify, if_pos rfl, hb]
    simp only [Option.map_some, Go.Sort.onCells, Option.some.injEq, Obj.cells.injEq, and_true]
    apply Array.ext_getElem?
    intro k
    simp only [Go.Sort.putCells, Array.getElem?_mapIdx, List.getElem?_toArray, List.getElem?_map, Array.getElem?_toList, Nat.zero_add, Nat.zero_le, true_and, Nat.sub_zero]
    by_cases hk : k < dk.size
    · have e1 : cs[k]? = some cs[k] := List.getElem?_eq_getElem (by omega)
      have e2 : dk[k]? = some dk[k] := Array.getElem?_eq_getElem hk
      rw [e1, e2]
      simp only [Option.map_some, if_pos hk]
      rw [getElem!_pos dk k hk]
    · rw [List.getElem?_eq_none (by omega), Array.getElem?_eq_none (by omega)]
      rfl
  · simp only [List.length_map, Array.length_toList]
    rw [← hl]; exact hfr
section
variable {P : Program} {F : Nat → Nat}
theorem each1_call (hm : P.follows .mixedOrders = true) (h : liftF P (F tEach1) = some (ir_tEach1 F)) {w : World} {B Bs n : Nat} {G : Nat → Nat} (hs : w.cell? ⟨Bs, 0, none⟩ = some (.slice (some ⟨B, 0, none⟩) n n))
    (hc : ∀ t, t < n → w.cell? ⟨B, t, none⟩ = some (u32v (G t))) {i j : Nat} (hi : i < n) (hj : j < n) :
    Calls P (F tEach1) [.int .i64 i, .int .i64 j, .pointer (some ⟨Bs, 0, none⟩)].toArray w fun e w' => e = .returned (.bool (ltN (G i) (G j))) ∧ w' = w.drew := by
  unfold ir_tEach1 at h
  refine call_of h hm (by simp) ?_
  have a0 : args0 [.int .i64 i, .int .i64 j, .pointer (some ⟨Bs, 0, none⟩)] 0 = .int .i64 i := rfl
  have a1 : args0 [.int .i64 i, .int .i64 j, .pointer (some ⟨Bs, 0, none⟩)] 1 = .int .i64 j := rfl
  have a2 : args0 [.int .i64 i, .int .i64 j, .pointer (some ⟨Bs, 0, none⟩)] 2 = .pointer (some ⟨Bs, 0, none⟩) := rfl
  generalize args0 [.int .i64 i, .int .i64 j, .pointer (some ⟨Bs, 0, none⟩)] = σ at a0 a1 a2 ⊢
  rw [wpC_seq, wpC_blk]
  refine wpR_step (v := .bool false) rfl ?_
  refine wpR_done ?_
  rw [wpC_seq]
  show wpD P _ [] _ w.drew _
  have hs' : w.drew.cell? ⟨Bs, 0, none⟩ = some (.slice (some ⟨B, 0, none⟩) n n) := hs
  have hi' : w.drew.cell? ⟨B, i, none⟩ = some (u32v (G i)) := hc i hi
  have hj' : w.drew.cell? ⟨B, j, none⟩ = some (u32v (G j)) := hc j hj
  refine wpD_pure rfl ?_
  simp only [List.map_cons, List.map_nil, List.cons_append, List.nil_append]
  refine wpR_step (v := .slice (some ⟨B, 0, none⟩) n n) (by simp only [RK.val?, ev, updo, upd]; simp [a2, hs']) ?_
  refine wpR_step (v := .int .i64 i) (by simp only [RK.val?, ev, updo, upd]; simp [a0]) ?_
  refine wpR_step (v := .pointer (some ⟨B, i, none⟩)) (by
    simp only [RK.val?, ev, updo, upd, show (6 : Nat) ≠ 7 by decide, if_false, if_true]
    rw [if_pos (by omega)]; simp [Addr.add_mk]) ?_
  refine wpR_step (v := u32v (G i)) (by simp only [RK.val?, ev, updo, upd, if_true, hi']) ?_
  refine wpR_step (v := .slice (some ⟨B, 0, none⟩) n n) (by simp only [RK.val?, ev, updo, upd]; simp [a2, hs']) ?_
  refine wpR_step (v := .int .i64 j) (by simp only [RK.val?, ev, updo, upd]; simp [a1]) ?_
  refine wpR_step (v := .pointer (some ⟨B, j, none⟩)) (by
    simp only [RK.val?, ev, updo, upd, show (10 : Nat) ≠ 11 by decide, if_false, if_true]
    rw [if_pos (by omega)]; simp [Addr.add_mk]) ?_
  refine wpR_step (v := u32v (G j)) (by simp only [RK.val?, ev, updo, upd, if_true, hj']) ?_
  refine wpR_step (v := .bool (ltN (G i) (G j))) (by
    simp only [RK.val?, ev, updo, upd, show (9 : Nat) ≠ 13 by decide, show (9 : Nat) ≠ 12 by decide, show (9 : Nat) ≠ 11 by decide, show (9 : Nat) ≠ 10 by decide, if_false, if_true, u32v, isShift, decide_true, Bool.or_true, intBin, ltN]
    congr 2; exact decide_eq_decide.2 (by omega)) ?_
  refine wpR_step (v := .bool (ltN (G i) (G j))) (by simp only [RK.val?, ev, updo, upd, if_true]) ?_
  refine wpR_done ?_
  simp only [wpC, postC, rvals, List.mapM_cons, List.mapM_nil, RV.val, updo, upd, if_true, Option.bind_eq_bind, Option.bind_some, Option.pure_def, tup_one]
  exact ⟨trivial, trivial⟩
theorem sortC_of {ρ : Ren} (L : LaysGg.n6 P ρ) (hm : P.follows .mixedOrders = true) (hl : liftF P (F tEach1) = some (ir_tEach1 F)) (hf : ρ.f 6 = F sortSlice) {e : TypeId} {i ie : TypeInfo} (hi : P.info? (F tyU32s) = some i) (hd : i.desc = .slice e)
    (hpk : P.packed (F tyU32s) = false) (hie : P.info? e = some ie) (ke : Nat) (hke : ∀ w, (Extern.Rtype.kind e).run P w = .ok ke w) (hs1 : ie.size = 1) (hagg : ∀ w, (isAgg e).run P w = .ok false w) (hp : ie.hasPointers = false) (hb : ie.bytes = 4)
    (eg : ∀ args w, (callFunc (F tEach1) args).run P w = .ok (.enter (F tEach1) args) w) (f1 f2 f6 : Nat) (h1 : P.funcs.findIdx? (·.name == "internal/reflectlite" ++ ".Swapper$" ++ toString 1) = some f1) (h2 : P.funcs.findIdx? (·.name == "internal/reflectlite" ++ ".Swapper$" ++ toString 2) = some f2)
    (h6 : P.funcs.findIdx? (·.name == "internal/reflectlite" ++ ".Swapper$" ++ toString 6) = some f6) (gS : Bool) (hx : ∀ args W, (callFunc f6 args).run P W = ((Extern.ReflectliteSwapper.swap gS args).run P W).andThen fun v w' => .ok (.value v) w') :
    SortC P (F sortSlice) (F tEach1) (F tyU32s) := by
  intro w B Bs ks hB hBs hne hlen hk32
  rw [← hf]
  by_cases hn : 2 ≤ ks.length
  · have hK : Go.Lib.swapperK ks.toArray.size ie ke = 6 := by
      have c : (ks.toArray.size == 0) = false := by simp; intro h; rw [h] at hn; simp at hn
      have d : (ks.toArray.size == 1) = false := by simp; omega
      simp only [Go.Lib.swapperK, hp, hb, c, d, Bool.false_and, Bool.false_eq_true, if_false]
    have hH : Go.Sort.Holds u32v w B 0 ks.toArray := by
      intro j hj
      have hj' : j < ks.length := by simpa using hj
      refine ⟨?_, ?_⟩
      · rw [Nat.zero_add, hB.cell j, List.getElem?_map, List.getElem?_eq_getElem hj', getElem!_pos ks.toArray j hj]
        simp
      · obtain ⟨T, fr, hb, hfr⟩ := hB
        obtain ⟨lo, hi⟩ := fr
        simp only [World.frozen?, hb, Nat.zero_add]
        simp only [List.length_map] at hfr
        simp only [Bool.and_eq_false_iff, decide_eq_false_iff_not]
        omega
    have hless : LessReads P (F tEach1) #[.pointer (some ⟨Bs, 0, none⟩)] u32v ltN B 0 ks.toArray.size w := by
      intro m os dk hs a b ha hb
      have hs' : dk.size = ks.length := by simpa using hs
      obtain ⟨q1, q2⟩ := sortWorld_ok (w := w) (B := B) (m := m) (dk := dk) (os := os) hB (by simpa using hs'.symm)
      have q3 := hBs.mod q1 (by simpa using hne)
      refine (each1_call hm hl (w := sortWorld u32v w B 0 m dk os) (B := B) (Bs := Bs) (n := ks.length) (G := fun t => dk[t]!) (q3.cell 0) (fun t ht => ?_) (i := a) (j := b) (by simpa using ha) (by simpa using hb)).mono fun en w' hh => ⟨hh.1, 1, hh.2⟩
      have := q2.cell t
      rw [List.getElem?_map] at this
      have ht' : t < dk.size := by omega
      rw [show (sortWorld u32v w B 0 m dk os).cell? ⟨B, t, none⟩ = _ from this, getElem!_pos dk t ht']
      simp [Array.getElem?_eq_getElem ht']
    have hS := Any.sort_Slice_sorted L (F tyU32s) e i ie hi hd hpk hie ke hke hs1 hagg u32v (fun _ => rfl) ltN swo_ltN (F tEach1) #[.pointer (some ⟨Bs, 0, none⟩)] eg B 0 ks.length ks.toArray (by simpa using hn) (by simp; omega) f6 (by rw [hK]; exact h6) gS hx w hless hH hB.lt
    have hsz : ks.toArray.size = ks.length := by simp
    rw [hsz] at hS
    refine hS.mono ?_
    rintro en w' ⟨rfl, d', n, os, ⟨p1, -, p3⟩, hso, rfl⟩
    have hd' : d'.size = ks.length := by simpa using p1
    obtain ⟨q1, q2⟩ := sortWorld_ok (w := w) (B := B) (m := n) (dk := d') (os := os) hB (by simpa using hd'.symm)
    refine ⟨rfl, d'.toList, ?_, ?_, q2, q1⟩
    · have x1 : d'.extract 0 ks.length = d' := by rw [← hd']; exact Array.extract_size
      have x2 : ks.toArray.extract 0 ks.length = ks.toArray := by rw [← hsz]; exact Array.extract_size
      rw [x1, x2] at p3
      exact p3
    · rw [List.pairwise_iff_getElem]
      intro a b ha hb hab
      have ha' : a < d'.size := by simpa using ha
      have hb' : b < d'.size := by simpa using hb
      have := hso a b (Nat.zero_le _) hab (by omega)
      rw [getElem!_pos d' a ha', getElem!_pos d' b hb'] at this
      simp only [ltN, decide_eq_false_iff_not] at this
      simp only [Array.getElem_toList]
      omega
  · have hks : ks.length = 0 ∨ ks.length = 1 := by omega
    have hfn : ∃ f, P.funcs.findIdx? (·.name == "internal/reflectlite" ++ ".Swapper$" ++ toString (Go.Lib.swapperK ks.length ie ke)) = some f := by
      rcases hks with h | h
      · rw [h]; exact ⟨f1, h1⟩
      · rw [h]; exact ⟨f2, h2⟩
    obtain ⟨f0, hf0⟩ := hfn
    refine (Any.sort_Slice_tiny L (F tyU32s) e i ie hi hd hpk hie ke hke (some ⟨B, 0, none⟩) ks.length ks.length (by omega) f0 hf0 (.func (F tEach1)) #[] #[.pointer (some ⟨Bs, 0, none⟩)] w).mono ?_
    rintro en w' ⟨rfl, os, rfl⟩
    have hm' : Mod [] w (Go.Sort.grow w os) := ⟨rfl, rfl, rfl, by show w.heap.size ≤ (w.heap ++ os).size; simp, fun k hk _ => by show (w.heap ++ os)[k]? = _; rw [Array.getElem?_append_left hk]⟩
    refine ⟨rfl, ks, .refl _, ?_, hB.mod hm' (by simp), hm'.nil⟩
    match ks, hks with
    | [], _ => exact .nil
    | [x], _ => simp
end
end Go.Msk
