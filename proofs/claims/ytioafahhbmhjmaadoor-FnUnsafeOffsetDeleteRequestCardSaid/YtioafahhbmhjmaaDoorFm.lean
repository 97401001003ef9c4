/- A small language of resolved operations, and what the generic and the generated functions do in it (part 13). -/
import Derived.Test.YtioafahhbmhjmaaDoorFl
import Derived.ProofKit
import Derived.LaidMore
import Derived.OpenShut
import Derived.Stop.Joined

/-! The law that both ways of reading tell the same. -/
namespace Go.Msk
open Go.RowKit
set_option maxRecDepth 100000

/-- A door is called and its two results are kept. -/
def pairF (b d ver f : FuncId) : List RI :=
  [⟨some b, .mv (.tmp 0), none⟩, ⟨some (b + 1), .mv (.tmp 5), none⟩, ⟨some (b + 2), .call ver [.tmp b, .tmp (b + 1)], none⟩, ⟨some (b + 3), .mv (.tmp 1), none⟩, ⟨some (b + 4), .call f [.tmp (b + 2), .tmp (b + 3)], none⟩,
   ⟨some (b - 1), .mv (.tmp (b + 4)), none⟩, ⟨some (b + 5), .ext (.tmp (b - 1)) 0, none⟩, ⟨some (b + 6), .ext (.tmp (b - 1)) 1, none⟩, ⟨some d, .alloc tzero, none⟩, ⟨none, .st (.tmp d) 5 (.tmp (b + 5)), none⟩, ⟨some (d + 1), .mv (.tmp (b + 6)), none⟩]

def unsTail (got same : FuncId) : List DI :=
  [⟨⟨some 35, .mv (.tmp 7), none⟩, false, []⟩, ⟨⟨some 36, .mv (.tmp 9), none⟩, false, []⟩, ⟨⟨some 37, .beq false (.tmp 35) (.tmp 36), none⟩, false, []⟩, ⟨⟨some 38, .mv (.tmp 37), none⟩, false, []⟩,
   ⟨⟨some 39, .mv (.tmp 7), some (38, true)⟩, false, []⟩, ⟨⟨some 40, .lnot (.tmp 39), some (38, true)⟩, false, []⟩, ⟨⟨some 41, .mv (.tmp 40), some (38, true)⟩, false, []⟩,
   ⟨⟨some 42, .ldn (.tmp 6) 5, some (41, false)⟩, false, []⟩, ⟨⟨some 43, .call got [.tmp 42], some (41, false)⟩, true, []⟩,
   ⟨⟨some 44, .ldn (.tmp 8) 5, some (41, false)⟩, false, []⟩, ⟨⟨some 45, .call got [.tmp 44], some (41, false)⟩, true, [8]⟩,
   ⟨⟨some 46, .call same [.tmp 43, .tmp 45], some (41, false)⟩, true, [8, 10]⟩,
   ⟨⟨some 47, .pick (.tmp 41) (.const (.bool true)) (.tmp 46), some (38, true)⟩, false, [8, 10, 11]⟩,
   ⟨⟨some 48, .pick (.tmp 38) (.tmp 47) (.const (.bool false)), none⟩, false, [8, 10, 11]⟩,
   ⟨⟨some 4, .mv (.tmp 48), none⟩, false, [8, 10, 11]⟩]

def unsCode (mx ver tell uns got same : FuncId) : IC × List RV × Nat :=
  (.seq (.blk [⟨some 4, .mv (.const (.bool false)), none⟩])
  (.seq (.seq (.blk [⟨some 10, .mv (.tmp 1), none⟩, ⟨some 11, .len (.tmp 10), none⟩, ⟨some 12, .bin .gtr (.tmp 11) (.const (.int .i64 2147483647)), none⟩])
    (.cond (.tmp 12) (.seq (.blk [⟨some 4, .mv (.const (.bool true)), none⟩]) .ret) .skip))
  (.seq (.blk [⟨some 13, .call mx [], none⟩, ⟨some 5, .mv (.tmp 13), none⟩])
  (.seq (.seq (.blk [⟨some 14, .mv (.tmp 5), none⟩, ⟨some 15, .bin .lss (.tmp 14) (.const (.int .i64 0)), none⟩])
    (.cond (.tmp 15) (.seq (.blk [⟨some 4, .mv (.const (.bool false)), none⟩]) .ret) .skip))
  (.seq (.seq (.blk [⟨some 16, .mv (.tmp 1), none⟩, ⟨some 17, .len (.tmp 16), none⟩, ⟨some 18, .bin .gtr (.tmp 17) (.const (.int .i64 1000)), none⟩])
    (.cond (.tmp 18) (.seq (.blk [⟨some 4, .mv (.const (.bool true)), none⟩]) .ret) .skip))
  (.seq (.blk (pairF 20 6 ver tell))
  (.seq (.blk (pairF 28 8 ver uns))
  (.seq (.drw (unsTail got same) [])
  .ret))))))), [.tmp 4], 49)

/-- What a door that reads gives. -/
def TellOf (P : Program) (f : FuncId) (g : Nat) (Te : TypeId) (ve : Value) (res : Int → List UInt8 → Option TR) (most : Int) : Prop :=
  ∀ (w : World) (ver : Int) (v : Value) (src : List UInt8), 0 ≤ ver → ver ≤ most → src.length ≤ 1000 → SlC (fun _ => True) w v src.length (u8s src) → GErr g w Te ve →
    Calls P f [.int .i64 ver, v].toArray w fun e w' => Mod [] w w' ∧ ∃ cs, RepT (fun b => w.heap.size ≤ b) w' ((res ver src).getD .zero) cs ∧ e = .returned (.tuple #[.agg cs.toArray, .bool (res ver src).isSome])

section
variable {P : Program}

theorem pair_wp {b d ver f g : Nat} {Te : TypeId} {ve : Value} {res : Int → List UInt8 → Option TR} {most n : Int} {src : List UInt8} {v : Value} (hf : TellOf P f g Te ve res most)
    (hver : ∀ w, Calls P ver [.int .u8 n, .int .i64 most].toArray w fun e w' => e = .returned (.int .i64 (n % (most + 1))) ∧ w' = w) (hn : 0 ≤ n) (hm : 0 ≤ most) (hl : src.length ≤ 1000)
    {σ : Sl} {w : World} {rest : Sl → World → Prop} (h0 : σ 0 = .int .u8 n) (h5 : σ 5 = .int .i64 most) (h1 : σ 1 = v) (hv : SlC (fun _ => True) w v src.length (u8s src)) (hg : GErr g w Te ve) (hd : 5 < d) (hdb : d + 1 < b - 1)
    (hQ : ∀ σ' w' p cs, (∀ j, j < b - 1 → j ≠ d → j ≠ d + 1 → σ' j = σ j) → σ' d = .pointer (some ⟨p, 0, none⟩) → σ' (d + 1) = .bool (res (n % (most + 1)) src).isSome → Blk w' p cs → w.heap.size ≤ p →
      RepT (fun b => w.heap.size ≤ b ∧ b ≠ p) w' ((res (n % (most + 1)) src).getD .zero) cs → Mod [] w w' → rest σ' w') :
    wpR P (pairF b d ver f) σ w rest := by
  obtain ⟨c, rfl⟩ : ∃ c, b = c + 1 := ⟨b - 1, by omega⟩
  simp only [Nat.add_sub_cancel] at *
  have q1 : 0 ≤ n % (most + 1) := Int.emod_nonneg _ (by omega)
  have q2 : n % (most + 1) < most + 1 := Int.emod_lt_of_pos _ (by omega)
  unfold pairF
  simp only [Nat.add_sub_cancel]
  refine wpR_step (v := .int .u8 n) (congrArg some h0) ?_
  refine wpR_step (v := .int .i64 most) (by simp only [RK.val?, ev, updo, upd, show (5 : Nat) ≠ c + 1 by omega, if_false, h5]) ?_
  refine wpR_call (vs := [.int .u8 n, .int .i64 most]) (by simp only [List.map_cons, List.map_nil, ev, updo, upd, show c + 1 ≠ c + 1 + 1 by omega, if_false, if_true]) (hver w) ?_
  rintro e w1 ⟨rfl, rfl⟩
  refine ⟨_, rfl, ?_⟩
  refine wpR_step (v := v) (by simp only [RK.val?, ev, updo, upd, show (1 : Nat) ≠ c + 1 by omega, show (1 : Nat) ≠ c + 1 + 1 by omega, show (1 : Nat) ≠ c + 1 + 2 by omega, if_false, h1]) ?_
  refine wpR_call (vs := [.int .i64 (n % (most + 1)), v]) (by simp only [List.map_cons, List.map_nil, ev, updo, upd, show c + 1 + 2 ≠ c + 1 + 3 by omega, if_false, if_true]) (hf w1 _ v src q1 (by omega) hl hv hg) ?_
  rintro e w2 ⟨m12, cs, hrep, rfl⟩
  refine ⟨_, rfl, ?_⟩
  generalize hr : res (n % (most + 1)) src = r at *
  generalize hT : Value.tuple #[.agg cs.toArray, .bool r.isSome] = T
  refine wpR_step (v := T) (by simp only [RK.val?, ev, updo, upd, if_true]) ?_
  refine wpR_step (v := .agg cs.toArray) (by subst hT; simp only [RK.val?, ev, updo, upd, if_true]; rfl) ?_
  refine wpR_step (v := .bool r.isSome) (by subst hT; simp only [RK.val?, ev, updo, upd, show c ≠ c + 1 + 5 by omega, if_false, if_true]; rfl) ?_
  refine wpR_run ?_
  intro Tn
  have h5c := hrep.five
  obtain ⟨k1, k2, k3⟩ := new_put w2 tzero cs Tn (by rw [h5c]; rfl) hrep.oneCell
  generalize hw3 : w2.alloc (.cells tzero.toArray Tn) = w3 at k1 k2 k3 ⊢
  refine wpR_run ?_
  have ec : (Value.agg cs.toArray).cells = cs.toArray := rfl
  simp only [RK.run, ev, updo, upd, if_true, show c + 1 + 5 ≠ d by omega, show c + 1 + 5 ≠ c + 1 + 6 by omega, if_false, ec]
  refine ⟨by simp [h5c], by simpa using k1, ?_⟩
  refine wpR_step (v := .bool r.isSome) (by simp only [RK.val?, ev, upd, show c + 1 + 6 ≠ d by omega, if_false, if_true]) ?_
  simp only [wpR]
  refine hQ _ _ w2.heap.size cs ?_ ?_ ?_ k2 m12.size ?_ (m12.trans k3)
  · intro j hj hjd hjd1
    simp only [updo, upd, hjd, hjd1, show j ≠ c + 1 by omega, show j ≠ c + 1 + 1 by omega, show j ≠ c + 1 + 2 by omega, show j ≠ c + 1 + 3 by omega, show j ≠ c + 1 + 4 by omega, show j ≠ c by omega, show j ≠ c + 1 + 5 by omega, show j ≠ c + 1 + 6 by omega, if_false]
  · simp only [updo, upd, show d ≠ d + 1 by omega, if_false, if_true]
  · simp only [updo, upd, if_true]
  · exact hrep.mod k3 (by simp) fun b hb hx => ⟨hx, by omega⟩


/-- What the nodes of the last region give. -/
def UPhi (t : TR) : Nat → Value → World → Prop := fun k v w => if k = 11 then v = .bool true else ∃ cs, v = .agg cs.toArray ∧ RepT (fun _ => True) w t cs

theorem uns_tail {got same : FuncId} {t : TR} {o : Bool} (hgot : GotAt P got t) (hsame : SameAt P same t) {σ : Sl} {w : World} {p1 p2 : Nat} {cs1 cs2 : List Value} {R : Ending → World → Prop}
    (h6 : σ 6 = .pointer (some ⟨p1, 0, none⟩)) (h8 : σ 8 = .pointer (some ⟨p2, 0, none⟩)) (h7 : σ 7 = .bool o) (h9 : σ 9 = .bool o) (hb1 : Blk w p1 cs1) (hb2 : Blk w p2 cs2) (hr1 : RepT (fun b => b < w.heap.size) w t cs1) (hr2 : RepT (fun b => b < w.heap.size) w t cs2)
    (hQ : ∀ σ' w', Mod [] w w' → σ' 4 = .bool true → wpC P .ret (postC [.tmp 4] R) σ' w') :
    wpC P (.seq (.drw (unsTail got same) []) .ret) (postC [.tmp 4] R) σ w := by
  rw [wpC_seq]
  show wpD P (unsTail got same) [] σ w.drew _
  have hb1' : Blk w.drew p1 cs1 := hb1.of_heap rfl
  have hb2' : Blk w.drew p2 cs2 := hb2.of_heap rfl
  have hr1' : RepT (fun b => b < w.heap.size) w.drew t cs1 := hr1.mod (Mod.drew [] w) (by simp) fun _ _ h => h
  have hr2' : RepT (fun b => b < w.heap.size) w.drew t cs2 := hr2.mod (Mod.drew [] w) (by simp) fun _ _ h => h
  have hmd : Mod [] w w.drew := Mod.drew [] w
  have hsz : w.drew.heap.size = w.heap.size := rfl
  generalize w.drew = wd at hb1' hb2' hr1' hr2' hmd hsz ⊢
  refine wpD_of_B (UPhi t) (fun j v w1 w2 h hm => ?_) ?_
  · unfold UPhi at h ⊢
    split at h
    · rename_i hj; rw [if_pos hj]; exact h
    · rename_i hj; rw [if_neg hj]
      obtain ⟨cs, h1, h2⟩ := h
      exact ⟨cs, h1, h2.mod hm (by simp) fun _ _ h => h⟩
  generalize hE : (fun σ' => ∀ w, Mod [] wd w → known (unsTail got same) (UPhi t) (List.range (unsTail got same).length) σ' w → wpR P [] σ' w _) = E
  have hfin : ∀ σ', σ' 4 = .bool true → E σ' := by
    intro σ' h4; subst hE
    intro w' hm' _
    exact hQ σ' w' (hmd.trans hm') h4
  unfold unsTail
  refine walkB_step (v := .bool o) (congrArg some h7) ?_
  refine walkB_step (v := .bool o) (by simp only [RK.val?, ev, updo, upd]; simp [h9]) ?_
  refine walkB_step (v := .bool true) (by simp only [RK.val?, ev, updo, upd]; simp) ?_
  refine walkB_step (v := .bool true) (by simp only [RK.val?, ev, updo, upd, if_true]) ?_
  refine walkB_stepG (v := .bool o) (by simp only [updo, upd, if_true]) (by simp only [RK.val?, ev, updo, upd]; simp [h7]) ?_
  refine walkB_stepG (v := .bool !o) (by simp only [updo, upd]; simp) (by simp only [RK.val?, ev, updo, upd, if_true]) ?_
  refine walkB_stepG (v := .bool !o) (by simp only [updo, upd]; simp) (by simp only [RK.val?, ev, updo, upd, if_true]) ?_
  simp only [updo]
  generalize hσ1 : upd (upd (upd (upd (upd (upd (upd σ 35 (.bool o)) 36 (.bool o)) 37 (.bool true)) 38 (.bool true)) 39 (.bool o)) 40 (.bool !o)) 41 (.bool !o) = σ1
  have s41 : σ1 41 = .bool !o := by subst hσ1; simp only [upd, if_true]
  have s38 : σ1 38 = .bool true := by subst hσ1; simp [upd]
  have s6 : σ1 6 = .pointer (some ⟨p1, 0, none⟩) := by subst hσ1; simp [upd, h6]
  have s8 : σ1 8 = .pointer (some ⟨p2, 0, none⟩) := by subst hσ1; simp [upd, h8]
  clear hσ1
  cases o with
  | false =>
    refine walkB_offG (by simpa using s41) ?_
    refine walkB_offG (by simp only [updo, upd]; simpa using s41) ?_
    refine walkB_offG (by simp only [updo, upd]; simpa using s41) ?_
    refine walkB_offG (by simp only [updo, upd]; simpa using s41) ?_
    refine walkB_offG (by simp only [updo, upd]; simpa using s41) ?_
    refine walkB_stepG (v := .bool true) (by simp only [updo, upd]; simpa using s38) (by simp only [RK.val?, ev, updo, upd]; simp [s41]) ?_
    refine walkB_step (v := .bool true) (by simp only [RK.val?, ev, updo, upd]; simp [s38]) ?_
    refine walkB_step (v := .bool true) (by simp only [RK.val?, ev, updo, upd, if_true]) ?_
    exact hfin _ (by simp only [updo, upd, if_true])
  | true =>
    have s41 : σ1 41 = .bool false := s41
    refine walkB_stepG (v := .agg cs1.toArray) s41 (by simp only [RK.val?, ev, s6, cellsAt_of' hb1'.cells hr1.five, Option.map_some]) ?_
    refine walkB_nodeG (by simp only [updo, upd]; simpa using s41) (fun w1 hm1 _ => ?_) fun v1 hv1 => ?_
    · have hs := hm1.size
      refine (show Calls P got _ w1 _ from hgot w.heap.size w1 cs1 (by omega) (hr1'.mod hm1 (by simp) fun _ _ h => h)).mono ?_
      rintro e w2 ⟨cs', rfl, h2, h3⟩
      refine ⟨_, rfl, h3, ?_⟩
      unfold UPhi; rw [if_neg (by decide)]
      exact ⟨cs', rfl, h2.mod (Mod.refl [] _) (by simp) fun _ _ _ => trivial⟩
    refine walkB_stepG (v := .agg cs2.toArray) (by simp only [updo, upd]; simpa using s41) (by simp only [RK.val?, ev, updo, upd]; simp [s8, cellsAt_of' hb2'.cells hr2.five]) ?_
    refine walkB_nodeG (by simp only [updo, upd]; simpa using s41) (fun w1 hm1 _ => ?_) fun v2 hv2 => ?_
    · have hs := hm1.size
      refine (show Calls P got _ w1 _ from hgot w.heap.size w1 cs2 (by omega) (hr2'.mod hm1 (by simp) fun _ _ h => h)).mono ?_
      rintro e w2 ⟨cs', rfl, h2, h3⟩
      refine ⟨_, rfl, h3, ?_⟩
      unfold UPhi; rw [if_neg (by decide)]
      exact ⟨cs', rfl, h2.mod (Mod.refl [] _) (by simp) fun _ _ _ => trivial⟩
    refine walkB_nodeG (by simp only [updo, upd]; simpa using s41) (fun w1 hm1 hk => ?_) fun v3 hv3 => ?_
    · have k8 := hk 8 (by simp) _ rfl rfl (by simp only [gOk, updo, upd]; simp [s41]) 43 rfl
      have k10 := hk 10 (by simp) _ rfl rfl (by simp only [gOk, updo, upd]; simp [s41]) 45 rfl
      unfold UPhi at k8 k10
      rw [if_neg (by decide)] at k8 k10
      obtain ⟨c1, e1, q1⟩ := k8
      obtain ⟨c2, e2, q2⟩ := k10
      have a1 : ([.tmp 43, .tmp 45] : List Operand).map (ev (updo (updo (updo (updo σ1 (some 42) (.agg cs1.toArray)) (some 43) v1) (some 44) (.agg cs2.toArray)) (some 45) v2)) = [.agg c1.toArray, .agg c2.toArray] := by
        rw [← e1, ← e2]; rfl
      simp only [RK.run, a1]
      refine (hsame w1 c1 c2 q1 q2).mono ?_
      rintro e w2 ⟨rfl, h3⟩
      refine ⟨_, rfl, h3, ?_⟩
      unfold UPhi; rw [if_pos rfl]
    obtain ⟨w3, hw3⟩ := hv3
    have e3 : v3 = .bool true := by unfold UPhi at hw3; rwa [if_pos rfl] at hw3
    subst e3
    refine walkB_stepG (v := .bool true) (by simp only [updo, upd]; simpa using s38) (by simp only [RK.val?, ev, updo, upd]; simp [s41]) ?_
    refine walkB_step (v := .bool true) (by simp only [RK.val?, ev, updo, upd]; simp [s38]) ?_
    refine walkB_step (v := .bool true) (by simp only [RK.val?, ev, updo, upd, if_true]) ?_
    exact hfin _ (by simp only [updo, upd, if_true])

theorem uns_call (hm : P.follows .mixedOrders = true) {f mx ver tell uns got same g : FuncId} (h : liftF P f = some (unsCode mx ver tell uns got same)) {most : Int} (hmost : 0 ≤ most ∧ most < 32768)
    (hmx : ∀ w, Calls P mx #[] w fun e w' => e = .returned (.int .i64 most) ∧ Mod [] w w') (hver : ∀ w n, 0 ≤ n ∧ n < 256 → Calls P ver [.int .u8 n, .int .i64 most].toArray w fun e w' => e = .returned (.int .i64 (n % (most + 1))) ∧ w' = w)
    {Te : TypeId} {ve : Value} {res : Int → List UInt8 → Option TR} (htell : TellOf P tell g Te ve res most) (huns : TellOf P uns g Te ve res most)
    (hsmall : ∀ ver src t, src.length ≤ 1000 → res ver src = some t → t.small) (hgot : ∀ t : TR, t.small → GotAt P got t) (hsame : ∀ t : TR, t.small → SameAt P same t)
    {w : World} {n : Int} (hn : 0 ≤ n ∧ n < 256) {v : Value} {src : List UInt8} (hv : SlC (fun _ => True) w v src.length (u8s src)) (hg : GErr g w Te ve) :
    Calls P f [.int .u8 n, v].toArray w fun e w' => e = .returned (.bool true) ∧ Mod [] w w' := by
  unfold unsCode at h
  refine call_of h hm (by simp) ?_
  have a0 : args0 [.int .u8 n, v] 0 = .int .u8 n := rfl
  have a1 : args0 [.int .u8 n, v] 1 = v := rfl
  generalize args0 [.int .u8 n, v] = σ0 at a0 a1 ⊢
  obtain ⟨base, cap, hvv, -⟩ := id hv
  have fin : ∀ (σ : Sl) (w' : World), Mod [] w w' → σ 4 = .bool true → wpC P .ret (postC [.tmp 4] fun e w' => e = .returned (.bool true) ∧ Mod [] w w') σ w' := by
    intro σ w' hm' h4
    simp only [wpC, postC, rvals, List.mapM_cons, List.mapM_nil, RV.val, h4, Option.bind_eq_bind, Option.bind_some, Option.pure_def, tup_one]
    exact ⟨trivial, hm'⟩
  rw [wpC_seq, wpC_blk]
  refine wpR_step (v := .bool false) rfl ?_
  refine wpR_done ?_
  rw [wpC_seq, wpC_seq, wpC_blk]
  refine wpR_step (v := v) (by simp only [RK.val?, ev, updo, upd]; simp [a1]) ?_
  refine wpR_step (v := .int .i64 src.length) (by simp only [RK.val?, ev, updo, upd, if_true, hvv]) ?_
  refine wpR_step (v := .bool (decide ((src.length : Int) > 2147483647))) (by simp only [RK.val?, ev, updo, upd, if_true, isShift, decide_true, Bool.or_true, intBin]) ?_
  refine wpR_done ?_
  by_cases hbig : (src.length : Int) > 2147483647
  · rw [wpC_cond_t (by simp only [ev, updo, upd, if_true, hbig, decide_true]), wpC_seq, wpC_blk]
    refine wpR_step (v := .bool true) rfl ?_
    refine wpR_done ?_
    exact fin _ _ (Mod.refl _ _) rfl
  rw [wpC_cond_f (by simp only [ev, updo, upd, if_true, hbig, decide_false]), wpC_skip]
  simp only [thenC]
  rw [wpC_seq, wpC_blk]
  refine wpR_call (vs := []) rfl (hmx w) ?_
  rintro e w1 ⟨rfl, m1⟩
  refine ⟨_, rfl, ?_⟩
  refine wpR_step (v := .int .i64 most) rfl ?_
  refine wpR_done ?_
  rw [wpC_seq, wpC_seq, wpC_blk]
  refine wpR_step (v := .int .i64 most) rfl ?_
  refine wpR_step (v := .bool false) (by simp only [RK.val?, ev, updo, upd, if_true, isShift, decide_true, Bool.or_true, intBin]; simp; omega) ?_
  refine wpR_done ?_
  rw [wpC_cond_f rfl, wpC_skip]
  simp only [thenC]
  rw [wpC_seq, wpC_seq, wpC_blk]
  refine wpR_step (v := v) (by simp only [RK.val?, ev, updo, upd]; simp [a1]) ?_
  refine wpR_step (v := .int .i64 src.length) (by simp only [RK.val?, ev, updo, upd, if_true, hvv]) ?_
  refine wpR_step (v := .bool (decide ((src.length : Int) > 1000))) (by simp only [RK.val?, ev, updo, upd, if_true, isShift, decide_true, Bool.or_true, intBin]) ?_
  refine wpR_done ?_
  by_cases hbig2 : (src.length : Int) > 1000
  · rw [wpC_cond_t (by simp only [ev, updo, upd, if_true, hbig2, decide_true]), wpC_seq, wpC_blk]
    refine wpR_step (v := .bool true) rfl ?_
    refine wpR_done ?_
    exact fin _ _ m1 rfl
  rw [wpC_cond_f (by simp only [ev, updo, upd, if_true, hbig2, decide_false]), wpC_skip]
  simp only [thenC]
  rw [wpC_seq, wpC_blk]
  have hg1 : GErr g w1 Te ve := cell_mod hg m1 (by simp)
  have hv1 := hv.mod (ok' := fun _ => True) m1 (by simp) fun _ _ h => h
  refine pair_wp (n := n) (most := most) (src := src) (v := v) htell (fun w => hver w n hn) hn.1 hmost.1 (by omega) (by simp only [updo, upd]; simp [a0]) (by simp only [updo, upd]; simp) (by simp only [updo, upd]; simp [a1]) hv1 hg1 (by omega) (by omega) ?_
  intro σ2 w2 p1 cs1 a2 q6 q7 hb1 hp1 hr1 m2
  have g2 : ∀ j, j < 6 → j ≠ 4 → σ2 j = (if j = 5 then .int .i64 most else σ0 j) := by
    intro j hj h4
    rw [a2 j (by omega) (by omega) (by omega)]
    simp only [updo, upd, h4, show j ≠ 13 by omega, show j ≠ 14 by omega, show j ≠ 15 by omega, show j ≠ 16 by omega, show j ≠ 17 by omega, show j ≠ 18 by omega, show j ≠ 10 by omega, show j ≠ 11 by omega, show j ≠ 12 by omega, if_false]
  simp only [thenC]
  rw [wpC_seq, wpC_blk]
  refine pair_wp (n := n) (most := most) (src := src) (v := v) huns (fun w => hver w n hn) hn.1 hmost.1 (by omega) (by rw [g2 0 (by omega) (by omega)]; exact a0) (by rw [g2 5 (by omega) (by omega)]; rfl) (by rw [g2 1 (by omega) (by omega)]; exact a1)
    (hv1.mod (ok' := fun _ => True) m2 (by simp) fun _ _ h => h) (cell_mod hg1 m2 (by simp)) (by omega) (by omega) ?_
  intro σ3 w3 p2 cs2 a3 q8 q9 hb2 hp2 hr2 m3
  simp only [thenC]
  have hsm : ((res (n % (most + 1)) src).getD .zero).small := by
    cases hr : res (n % (most + 1)) src with
    | none => simp [TR.zero, TR.small, TR.smallL]
    | some t => exact hsmall _ _ _ (by omega) hr
  refine uns_tail (hgot _ hsm) (hsame _ hsm) (by rw [a3 6 (by omega) (by omega) (by omega)]; exact q6) q8 (by rw [a3 7 (by omega) (by omega) (by omega)]; exact q7) q9 (hb1.mod m3 (by simp)) hb2
    (hr1.mod m3 (by simp) fun b hb _ => Nat.lt_of_lt_of_le hb m3.size) (hr2.mod (Mod.refl [] _) (by simp) fun b hb _ => hb) fun σ' w' hm' h4 => fin σ' w' ((m1.trans m2).trans (m3.trans hm')) h4

end
end Go.Msk

/-! What is read is small; the standard readers are as typing asks. -/
namespace Go.Msk
open Go.RowKit
set_option maxRecDepth 100000

theorem TR.smallL_of {l : List TR} (h : ∀ t ∈ l, t.small) : TR.smallL l := by
  induction l with
  | nil => trivial
  | cons t l ih => exact ⟨h t List.mem_cons_self, ih fun x hx => h x (List.mem_cons_of_mem _ hx)⟩

/-- A value is small, unknown tags too. -/
def GV.sm (g : GV) : Prop := g.told.small ∧ ∀ m, g = .tag m → m.length ≤ 2147483647 ∧ ∀ p ∈ m, p.2.length ≤ 2147483647

def Dec.Small (D : Dec) : Prop := ∀ (p : PK) (x : Bool) (s : RS), s.src.length ≤ 2147483647 → (D.prim p x s).1.sm

def Df.smallB : Df → Bool
  | .str l => decide (l.length ≤ 1000)
  | _ => true

theorem Df.small {d : Df} (h : d.smallB = true) : d.gv.sm := by
  refine ⟨?_, fun m e => by cases d <;> simp [Df.gv] at e⟩
  cases d with
  | str l =>
    simp only [Df.smallB, decide_eq_true_eq] at h
    simp only [Df.gv, Msk.str, GV.told, TR.small, TR.smallL]
    simp; omega
  | _ => simp [Df.gv, GV.told, TR.small, TR.smallL, TR.zero]

/-- How many fields. -/
def Sc.len : Sc → Nat
  | .nil => 0
  | .prm _ _ _ _ _ rest => rest.len + 1
  | .enm _ _ _ _ _ rest => rest.len + 1
  | .lsp _ _ _ _ _ _ _ rest => rest.len + 1
  | .lss _ _ _ _ _ _ rest => rest.len + 1
  | .sub _ _ _ rest => rest.len + 1
  | .tags _ => 1

def Sc.smallB : Sc → Bool
  | .nil => true
  | .prm _ _ _ _ d rest => d.smallB && rest.smallB
  | .enm _ _ _ _ d rest => d.smallB && rest.smallB
  | .lsp _ _ _ _ _ _ _ rest => rest.smallB
  | .lss _ _ _ _ _ body rest => decide (body.len ≤ 1000) && body.smallB && rest.smallB
  | .sub _ _ body rest => decide (body.len ≤ 1000) && body.smallB && rest.smallB
  | .tags _ => true

theorem Sc.dgv_len : ∀ sc : Sc, sc.dgv.length = sc.len := by
  intro sc
  induction sc with
  | nil => rfl
  | _ => simp [Sc.dgv, Sc.len, *]

theorem toldF_len (gs : List GV) : (GV.toldF gs).length ≤ gs.length := by
  induction gs with
  | nil => simp [GV.toldF]
  | cons g gs ih => cases g <;> simp only [GV.toldF, List.length_cons] <;> omega

theorem toldF_small {gs : List GV} (h : ∀ g ∈ gs, g.sm) : TR.smallL (GV.toldF gs) := by
  induction gs with
  | nil => simp [GV.toldF, TR.smallL]
  | cons g gs ih =>
    have h1 := (h g List.mem_cons_self).1
    have h2 := ih fun x hx => h x (List.mem_cons_of_mem _ hx)
    cases g with
    | tag m => simpa only [GV.toldF] using h2
    | _ => simp only [GV.toldF]; exact ⟨h1, h2⟩

theorem tagsF_small {gs : List GV} (h : ∀ g ∈ gs, g.sm) : (GV.tagsF gs).length ≤ 2147483647 ∧ ∀ p ∈ GV.tagsF gs, p.2.length ≤ 2147483647 := by
  induction gs with
  | nil => simp [GV.tagsF]
  | cons g gs ih =>
    have h2 := ih fun x hx => h x (List.mem_cons_of_mem _ hx)
    cases g with
    | tag m =>
      obtain ⟨k1, k2⟩ := (h _ List.mem_cons_self).2 m rfl
      have hp := sortT_perm m
      exact ⟨by rw [GV.tagsF, hp.length_eq]; exact k1, fun p hx => k2 p (hp.mem_iff.1 hx)⟩
    | _ => exact h2

theorem rcd_small {gs : List GV} (h1 : gs.length ≤ 1000) (h2 : ∀ g ∈ gs, g.sm) : (GV.rcd gs).sm := by
  refine ⟨?_, fun m e => by simp at e⟩
  simp only [GV.told, TR.small]
  have := toldF_len gs
  have k := tagsF_small h2
  exact ⟨by simp, by omega, k.1, k.2, toldF_small h2⟩

theorem Sc.dgv_small : ∀ sc : Sc, sc.smallB = true → ∀ g ∈ sc.dgv, g.sm := by
  intro sc
  have l0 : (GV.lst true 0 []).sm := ⟨by simp [GV.told, GV.toldL, TR.small, TR.smallL], fun m e => by simp at e⟩
  induction sc with
  | nil => intro _ g hg; simp [Sc.dgv] at hg
  | prm vc i r p d rest ih =>
    intro h g hg
    simp only [Sc.smallB, Bool.and_eq_true] at h
    rcases List.mem_cons.1 hg with rfl | hg
    · exact Df.small h.1
    · exact ih h.2 g hg
  | enm vc i r p d rest ih =>
    intro h g hg
    simp only [Sc.smallB, Bool.and_eq_true] at h
    rcases List.mem_cons.1 hg with rfl | hg
    · exact Df.small h.1
    · exact ih h.2 g hg
  | lsp vc l b d i r p rest ih =>
    intro h g hg
    rcases List.mem_cons.1 hg with rfl | hg
    · exact l0
    · exact ih h g hg
  | lss vc l b z d body rest ihb ih =>
    intro h g hg
    simp only [Sc.smallB, Bool.and_eq_true] at h
    rcases List.mem_cons.1 hg with rfl | hg
    · exact l0
    · exact ih h.2 g hg
  | sub vc d body rest ihb ih =>
    intro h g hg
    simp only [Sc.smallB, Bool.and_eq_true, decide_eq_true_eq] at h
    rcases List.mem_cons.1 hg with rfl | hg
    · exact rcd_small (by rw [Sc.dgv_len]; exact h.1.1) (ihb h.1.2)
    · exact ih h.2 g hg
  | tags f =>
    intro h g hg
    simp only [Sc.dgv, List.mem_singleton] at hg
    subst hg
    exact ⟨by simp [GV.told, TR.small, TR.smallL, TR.zero], fun m e => by simp only [GV.tag.injEq] at e; subst e; simp⟩

theorem lst_small {b : Bool} {z : Nat} {l : List GV} (h1 : l.length ≤ 2147483647) (h2 : ∀ g ∈ l, g.sm) : (GV.lst b z l).sm := by
  refine ⟨?_, fun m e => by simp at e⟩
  simp only [GV.told, TR.small]
  refine ⟨by simp, by rw [GV.toldL_map]; simp; omega, by simp, by simp, TR.smallL_of fun t ht => ?_⟩
  rw [GV.toldL_map] at ht
  obtain ⟨g, hg, rfl⟩ := List.mem_map.1 ht
  exact (h2 g hg).1

theorem dec_small {D : Dec} (hD : D.Ok) (hS : D.Small) {ver : Int} {x : Bool} : ∀ (sc : Sc) (s s' : RS) (gs : List GV), sc.smallB = true → s.src.length ≤ 2147483647 → sc.dec D ver x s = some (gs, s') →
    gs.length = sc.len ∧ (∀ g ∈ gs, g.sm) ∧ s'.src.length ≤ s.src.length := by
  intro sc
  have l0 : (GV.lst true 0 []).sm := ⟨by simp [GV.told, GV.toldL, TR.small, TR.smallL], fun m e => by simp at e⟩
  have prim : ∀ (vc : VC) (p : PK) (d : Df) (s s1 : RS) (g : GV), d.smallB = true → s.src.length ≤ 2147483647 → (if vc.holds ver then some (D.prim p x s) else some (d.gv, s)) = some (g, s1) → g.sm ∧ s1.src.length ≤ s.src.length := by
    intro vc p d s s1 g hd hs h
    split at h
    · simp only [Option.some.injEq] at h
      have e1 := hS p x s hs
      have e2 := hD.prle p x s
      rw [h] at e1 e2
      exact ⟨e1, e2⟩
    · simp only [Option.some.injEq, Prod.mk.injEq] at h
      obtain ⟨rfl, rfl⟩ := h
      exact ⟨Df.small hd, Nat.le_refl _⟩
  have cons : ∀ {g : GV} {l : List GV}, g.sm → (∀ y ∈ l, y.sm) → ∀ y ∈ g :: l, y.sm := fun h1 h2 y hy => by
    rcases List.mem_cons.1 hy with rfl | hy
    · exact h1
    · exact h2 y hy
  induction sc with
  | nil =>
    intro s s' gs _ hs h
    simp only [Sc.dec, Option.some.injEq, Prod.mk.injEq] at h
    obtain ⟨rfl, rfl⟩ := h
    exact ⟨rfl, by simp, Nat.le_refl _⟩
  | prm vc i r p d rest ih =>
    intro s s' gs hb hs h
    simp only [Sc.smallB, Bool.and_eq_true] at hb
    obtain ⟨g, s1, l, h1, h2, rfl⟩ := consD_some h
    obtain ⟨k1, k2⟩ := prim vc p d s s1 g hb.1 hs h1
    obtain ⟨k3, k4, k5⟩ := ih s1 s' l hb.2 (by omega) h2
    exact ⟨by simp [Sc.len, k3], cons k1 k4, by omega⟩
  | enm vc i r p d rest ih =>
    intro s s' gs hb hs h
    simp only [Sc.smallB, Bool.and_eq_true] at hb
    obtain ⟨g, s1, l, h1, h2, rfl⟩ := consD_some h
    obtain ⟨k1, k2⟩ := prim vc p d s s1 g hb.1 hs h1
    obtain ⟨k3, k4, k5⟩ := ih s1 s' l hb.2 (by omega) h2
    exact ⟨by simp [Sc.len, k3], cons k1 k4, by omega⟩
  | lsp vc len b d i r p rest ih =>
    intro s s' gs hb hs h
    simp only [Sc.smallB] at hb
    obtain ⟨g, s1, l, h1, h2, rfl⟩ := consD_some h
    have : g.sm ∧ s1.src.length ≤ s.src.length := by
      split at h1
      · obtain ⟨⟨b, z, y, rfl, q1, q2, -⟩, q3⟩ := decLst_ty hD (T := fun g => g.sm) (fun s g s' hs h => by
          simp only [Option.some.injEq] at h
          have e1 := hS p x s hs
          have e2 := hD.prle p x s
          rw [h] at e1 e2
          exact ⟨e1, e2⟩) hs h1
        exact ⟨lst_small q2 q1, q3⟩
      · simp only [Option.some.injEq, Prod.mk.injEq] at h1
        obtain ⟨rfl, rfl⟩ := h1
        exact ⟨l0, Nat.le_refl _⟩
    obtain ⟨k3, k4, k5⟩ := ih s1 s' l hb (by omega) h2
    exact ⟨by simp [Sc.len, k3], cons this.1 k4, by omega⟩
  | lss vc len b z dfl body rest ihb ih =>
    intro s s' gs hb hs h
    simp only [Sc.smallB, Bool.and_eq_true, decide_eq_true_eq] at hb
    obtain ⟨g, s1, l, h1, h2, rfl⟩ := consD_some h
    have : g.sm ∧ s1.src.length ≤ s.src.length := by
      split at h1
      · obtain ⟨⟨b, z, y, rfl, q1, q2, -⟩, q3⟩ := decLst_ty hD (T := fun g => g.sm) (fun s g s' hs h => by
          unfold rcdD at h
          cases hd : body.dec D ver x s with
          | none => rw [hd] at h; simp at h
          | some q =>
            obtain ⟨gl, s2⟩ := q
            rw [hd] at h
            simp only [Option.some.injEq, Prod.mk.injEq] at h
            obtain ⟨rfl, rfl⟩ := h
            obtain ⟨k1, k2, k3⟩ := ihb s s2 gl hb.1.2 hs hd
            exact ⟨rcd_small (by omega) k2, k3⟩) hs h1
        exact ⟨lst_small q2 q1, q3⟩
      · simp only [Option.some.injEq, Prod.mk.injEq] at h1
        obtain ⟨rfl, rfl⟩ := h1
        exact ⟨l0, Nat.le_refl _⟩
    obtain ⟨k3, k4, k5⟩ := ih s1 s' l hb.2 (by omega) h2
    exact ⟨by simp [Sc.len, k3], cons this.1 k4, by omega⟩
  | sub vc dfl body rest ihb ih =>
    intro s s' gs hb hs h
    simp only [Sc.smallB, Bool.and_eq_true, decide_eq_true_eq] at hb
    obtain ⟨g, s1, l, h1, h2, rfl⟩ := consD_some h
    have : g.sm ∧ s1.src.length ≤ s.src.length := by
      split at h1
      · unfold rcdD at h1
        cases hd : body.dec D ver x s with
        | none => rw [hd] at h1; simp at h1
        | some q =>
          obtain ⟨gl, s2⟩ := q
          rw [hd] at h1
          simp only [Option.some.injEq, Prod.mk.injEq] at h1
          obtain ⟨rfl, rfl⟩ := h1
          obtain ⟨k1, k2, k3⟩ := ihb s s2 gl hb.1.2 hs hd
          exact ⟨rcd_small (by omega) k2, k3⟩
      · simp only [Option.some.injEq, Prod.mk.injEq] at h1
        obtain ⟨rfl, rfl⟩ := h1
        exact ⟨rcd_small (by rw [Sc.dgv_len]; exact hb.1.1) (Sc.dgv_small body hb.1.2), Nat.le_refl _⟩
    obtain ⟨k3, k4, k5⟩ := ih s1 s' l hb.2 (by omega) h2
    exact ⟨by simp [Sc.len, k3], cons this.1 k4, by omega⟩

  | tags f =>
    intro s s' gs hb hs h
    simp only [Sc.dec] at h
    split at h
    · simp only [Option.some.injEq, Prod.mk.injEq] at h
      obtain ⟨rfl, rfl⟩ := h
      have k := hD.tagty s hs
      refine ⟨rfl, fun g hg => ?_, hD.tagle s⟩
      simp only [List.mem_singleton] at hg
      subst hg
      exact ⟨by simp [GV.told, TR.small, TR.smallL, TR.zero], fun m e => by simp only [GV.tag.injEq] at e; subst e; exact k⟩
    · simp only [Option.some.injEq, Prod.mk.injEq] at h
      obtain ⟨rfl, rfl⟩ := h
      refine ⟨rfl, fun g hg => ?_, Nat.le_refl _⟩
      simp only [List.mem_singleton] at hg
      subst hg
      exact ⟨by simp [GV.told, TR.small, TR.smallL, TR.zero], fun m e => by simp only [GV.tag.injEq] at e; subst e; simp⟩

/-! The standard readers. -/
theorem rdN_le (k : Nat) (s : RS) : (rdN k s).2.src.length ≤ s.src.length := by
  unfold rdN; split <;> simp [RS.fail]
theorem rdSpan_le (l : Int) (s : RS) : (rdSpan l s).2.src.length ≤ s.src.length := by
  unfold rdSpan; split <;> simp [RS.fail]
theorem rdSpan_len {l : Int} {s : RS} {o : List UInt8} (h : (rdSpan l s).1 = some o) : o.length ≤ s.src.length := by
  unfold rdSpan at h
  split at h
  · simp at h
  · simp only at h
    split at h
    · simp at h
    · simp only [Option.some.injEq] at h; subst h; simp; omega
theorem rdSpan_getD (l : Int) (s : RS) : ((rdSpan l s).1.getD []).length ≤ s.src.length := by
  cases h : (rdSpan l s).1 with
  | none => simp
  | some o => exact rdSpan_len h
theorem rdCl_le (s : RS) : (rdCl s).2.src.length ≤ s.src.length := rdUv_le s

/-! What is read is no longer than what there is. -/
theorem rdString_b (s : RS) : (rdString s).1.length ≤ s.src.length ∧ (rdString s).2.src.length ≤ s.src.length := by
  have h := rdN_le 2 s
  simp only [rdString]
  exact ⟨Nat.le_trans (rdSpan_getD _ _) h, Nat.le_trans (rdSpan_le _ _) h⟩
theorem rdCString_b (s : RS) : (rdCString s).1.length ≤ s.src.length ∧ (rdCString s).2.src.length ≤ s.src.length := by
  have h := rdCl_le s
  simp only [rdCString]
  exact ⟨Nat.le_trans (rdSpan_getD _ _) h, Nat.le_trans (rdSpan_le _ _) h⟩
theorem rdNullableString_b (s : RS) : (∀ l, (rdNullableString s).1 = some l → l.length ≤ s.src.length) ∧ (rdNullableString s).2.src.length ≤ s.src.length := by
  have h := rdN_le 2 s
  simp only [rdNullableString]
  split
  · exact ⟨by simp, h⟩
  · exact ⟨fun l e => by simp only [Option.some.injEq] at e; subst e; exact Nat.le_trans (rdSpan_getD _ _) h, Nat.le_trans (rdSpan_le _ _) h⟩
theorem rdCNullableString_b (s : RS) : (∀ l, (rdCNullableString s).1 = some l → l.length ≤ s.src.length) ∧ (rdCNullableString s).2.src.length ≤ s.src.length := by
  have h := rdCl_le s
  simp only [rdCNullableString]
  split
  · exact ⟨by simp, h⟩
  · exact ⟨fun l e => by simp only [Option.some.injEq] at e; subst e; exact Nat.le_trans (rdSpan_getD _ _) h, Nat.le_trans (rdSpan_le _ _) h⟩
theorem rdBytes_b (s : RS) : (∀ l, (rdBytes s).1 = some l → l.length ≤ s.src.length) ∧ (rdBytes s).2.src.length ≤ s.src.length := by
  have h := rdN_le 4 s
  simp only [rdBytes]
  split
  · exact ⟨fun l e => by simp only [Option.some.injEq] at e; subst e; simp, h⟩
  · exact ⟨fun l e => Nat.le_trans (rdSpan_len e) h, Nat.le_trans (rdSpan_le _ _) h⟩
theorem rdCBytes_b (s : RS) : (∀ l, (rdCBytes s).1 = some l → l.length ≤ s.src.length) ∧ (rdCBytes s).2.src.length ≤ s.src.length := by
  have h := rdCl_le s
  simp only [rdCBytes]
  split
  · exact ⟨fun l e => by simp only [Option.some.injEq] at e; subst e; simp, h⟩
  · exact ⟨fun l e => Nat.le_trans (rdSpan_len e) h, Nat.le_trans (rdSpan_le _ _) h⟩
theorem rdNullableBytes_b (s : RS) : (∀ l, (rdNullableBytes s).1 = some l → l.length ≤ s.src.length) ∧ (rdNullableBytes s).2.src.length ≤ s.src.length := by
  have h := rdN_le 4 s
  simp only [rdNullableBytes]
  split
  · exact ⟨by simp, h⟩
  · exact ⟨fun l e => Nat.le_trans (rdSpan_len e) h, Nat.le_trans (rdSpan_le _ _) h⟩
theorem rdCNullableBytes_b (s : RS) : (∀ l, (rdCNullableBytes s).1 = some l → l.length ≤ s.src.length) ∧ (rdCNullableBytes s).2.src.length ≤ s.src.length := by
  have h := rdCl_le s
  simp only [rdCNullableBytes]
  split
  · exact ⟨by simp, h⟩
  · exact ⟨fun l e => Nat.le_trans (rdSpan_len e) h, Nat.le_trans (rdSpan_le _ _) h⟩
theorem rdUuid_b (s : RS) : (rdUuid s).1.length = 16 ∧ (rdUuid s).2.src.length ≤ s.src.length := ⟨rdUuid_len s, rdSpan_le _ _⟩

/-! Unknown tags. -/
theorem uvR_pos : ∀ (n : Nat) (l : List UInt8) (v k : Nat), uvR n l = some (v, k) → 1 ≤ k ∧ l ≠ []
  | 0, l, v, k, h => by simp [uvR] at h
  | n + 1, [], v, k, h => by simp [uvR] at h
  | n + 1, b :: r, v, k, h => by
    refine ⟨?_, by simp⟩
    simp only [uvR] at h
    split at h
    · split at h
      · simp at h
      · simp only [Option.some.injEq, Prod.mk.injEq] at h; omega
    · split at h
      · simp only [Option.some.injEq, Prod.mk.injEq] at h; omega
      · simp at h

/-- A number takes an octet at least; without one it is 0. -/
theorem rdUv_step (s : RS) : (rdUv s).2.src.length + 1 ≤ s.src.length ∨ (rdUv s).1 = 0 := by
  unfold rdUv
  split
  · rename_i v k h
    obtain ⟨h1, h2⟩ := uvR_pos _ _ _ _ h
    left
    have : 0 < s.src.length := List.length_pos_iff.2 h2
    simp; omega
  · exact .inr rfl

theorem putTag_len (m : List (Nat × List UInt8)) (k : Nat) (l : List UInt8) : (putTag m k l).length = if k ∈ m.map (·.1) then m.length else m.length + 1 := by
  have := congrArg List.length (putTag_keys m k l)
  rw [List.length_map] at this
  rw [this]
  split <;> simp

theorem putTag_mem {m : List (Nat × List UInt8)} {k : Nat} {l : List UInt8} {p : Nat × List UInt8} (h : p ∈ putTag m k l) : p ∈ m ∨ p.2 = l := by
  induction m with
  | nil => simp only [putTag, List.mem_singleton] at h; subst h; exact .inr rfl
  | cons q m ih =>
    obtain ⟨k', l'⟩ := q
    simp only [putTag] at h
    split at h
    · rcases List.mem_cons.1 h with rfl | h
      · exact .inr rfl
      · exact .inl (List.mem_cons_of_mem _ h)
    · rcases List.mem_cons.1 h with rfl | h
      · exact .inl List.mem_cons_self
      · exact (ih h).imp (List.mem_cons_of_mem _) id

theorem rdTagsN_b : ∀ (n : Nat) (m : List (Nat × List UInt8)) (s : RS) (N : Nat), s.src.length ≤ N → (∀ p ∈ m, p.2.length ≤ N) →
    (rdTagsN n m s).1.length ≤ m.length + s.src.length + (if 0 ∈ m.map (·.1) then 0 else 1) ∧ (∀ p ∈ (rdTagsN n m s).1, p.2.length ≤ N) ∧ (rdTagsN n m s).2.src.length ≤ s.src.length
  | 0, m, s, N, hs, hm => by simp only [rdTagsN]; exact ⟨by omega, hm, Nat.le_refl _⟩
  | n + 1, m, s, N, hs, hm => by
    simp only [rdTagsN]
    have a1 := rdUv_le s
    have a2 := rdUv_le (rdUv s).2
    have a3 := rdSpan_le (rdUv (rdUv s).2).1 (rdUv (rdUv s).2).2
    have a4 := rdSpan_getD (rdUv (rdUv s).2).1 (rdUv (rdUv s).2).2
    have st := rdUv_step s
    generalize (rdSpan (rdUv (rdUv s).2).1 (rdUv (rdUv s).2).2).1.getD [] = o at *
    generalize (rdSpan (rdUv (rdUv s).2).1 (rdUv (rdUv s).2).2).2 = s3 at *
    obtain ⟨h1, h2, h3⟩ := rdTagsN_b n (putTag m (rdUv s).1 o) s3 N (by omega) (fun p hp => by
      rcases putTag_mem hp with hp | hp
      · exact hm p hp
      · rw [hp]; omega)
    generalize rdTagsN n (putTag m (rdUv s).1 o) s3 = r at h1 h2 h3 ⊢
    refine ⟨?_, h2, by omega⟩
    have hk := putTag_keys m (rdUv s).1 o
    rw [putTag_len] at h1
    rw [hk] at h1
    by_cases hin : (rdUv s).1 ∈ m.map (·.1)
    · simp only [if_pos hin] at h1
      split at h1 <;> rename_i h0
      · rw [if_pos h0]; omega
      · rw [if_neg h0]; omega
    · simp only [if_neg hin] at h1
      by_cases hz : (rdUv s).1 = 0
      · rw [hz] at hin h1
        rw [if_neg hin]
        rw [if_pos (by simp)] at h1
        omega
      · have hst := st.resolve_right hz
        have e0 : (0 ∈ m.map (·.1) ++ [(rdUv s).1]) ↔ 0 ∈ m.map (·.1) := by
          simp only [List.mem_append, List.mem_singleton]
          exact ⟨fun h => h.resolve_right fun h => hz h.symm, .inl⟩
        simp only [e0] at h1
        omega

theorem rdTags_b (s : RS) : (rdTags s).1.length ≤ s.src.length ∧ (∀ p ∈ (rdTags s).1, p.2.length ≤ s.src.length) ∧ (rdTags s).2.src.length ≤ s.src.length := by
  unfold rdTags
  have a1 := rdUv_le s
  obtain ⟨h1, h2, h3⟩ := rdTagsN_b (rdUv s).1 [] (rdUv s).2 s.src.length a1 (by simp)
  refine ⟨?_, h2, by omega⟩
  rcases rdUv_step s with h | h
  · simp at h1; omega
  · rw [h]; simp [rdTagsN]

theorem i64_wrap_wrap (n : Int) : IntKind.i64.wrap (IntKind.i64.wrap n) = IntKind.i64.wrap n := by
  simp only [IntKind.wrap, IntKind.bits, IntKind.signed]
  simp
  omega

theorem decStd_ok : decStd.Ok where
  short := decStd_short
  lenle := fun x s => by
    have h := rdN_le 4 s
    have h2 := rdUv_le s
    simp only [decStd]
    split
    · simp only [rdCArrayLen]; split
      · simp [RS.fail]
      · exact h2
    · simp only [rdArrayLen]; split
      · simp [RS.fail]
      · exact h
  prle := fun p x s => by
    cases p <;> simp only [decStd]
    · exact rdN_le _ _
    · exact rdN_le _ _
    · exact rdN_le _ _
    · exact rdN_le _ _
    · exact rdN_le _ _
    · exact rdN_le _ _
    · exact rdN_le _ _
    · exact (rdUuid_b s).2
    · split
      · exact (rdCString_b s).2
      · exact (rdString_b s).2
    · split
      · exact (rdCNullableString_b s).2
      · exact (rdNullableString_b s).2
    · split
      · exact (rdCBytes_b s).2
      · exact (rdBytes_b s).2
    · split
      · exact (rdCNullableBytes_b s).2
      · exact (rdNullableBytes_b s).2
  ty := fun p x s hs => by
    cases p <;> simp only [decStd, PK.ty]
    · exact ⟨_, rfl⟩
    · exact ⟨_, _, rfl⟩
    · exact ⟨_, _, rfl⟩
    · exact ⟨_, _, rfl⟩
    · exact ⟨_, _, rfl⟩
    · exact ⟨_, rfl, i64_wrap_wrap _⟩
    · exact ⟨_, _, rfl⟩
    · exact ⟨_, rfl, (rdUuid_b s).1⟩
    · split
      · exact ⟨_, rfl⟩
      · exact ⟨_, rfl⟩
    · split
      · exact ⟨_, rfl⟩
      · exact ⟨_, rfl⟩
    · split
      · exact ⟨_, rfl, fun l h => Nat.le_trans ((rdCBytes_b s).1 l h) hs⟩
      · exact ⟨_, rfl, fun l h => Nat.le_trans ((rdBytes_b s).1 l h) hs⟩
    · split
      · exact ⟨_, rfl, fun l h => Nat.le_trans ((rdCNullableBytes_b s).1 l h) hs⟩
      · exact ⟨_, rfl, fun l h => Nat.le_trans ((rdNullableBytes_b s).1 l h) hs⟩
  tagle := fun s => (rdTags_b s).2.2
  tagty := fun s hs => ⟨Nat.le_trans (rdTags_b s).1 hs, fun p hp => Nat.le_trans ((rdTags_b s).2.1 p hp) hs⟩

theorem num_sm {v : Value} (h : ∀ s, v ≠ .string s) : (GV.num v).sm := by
  refine ⟨?_, fun m e => by simp at e⟩
  cases v <;> first | exact absurd rfl (h _) | simp [GV.told, TR.small, TR.smallL, TR.zero]

theorem str_sm {l : List UInt8} (h : l.length ≤ 2147483647) : (GV.num (Msk.str l)).sm := by
  refine ⟨?_, fun m e => by simp at e⟩
  simp only [Msk.str, GV.told, TR.small, TR.smallL]
  simpa using h

theorem decStd_small : decStd.Small := fun p x s hs => by
  have nb : ∀ {o : Option (List UInt8)}, (∀ l, o = some l → l.length ≤ s.src.length) → (GV.nstr o).sm := fun {o} h => by
    refine ⟨?_, fun m e => by simp at e⟩
    cases o with
    | none => simp [GV.told, TR.small, TR.smallL]
    | some l => have := h l rfl; simp only [GV.told, TR.small, TR.smallL]; simp; omega
  have yb : ∀ {o : Option (List UInt8)}, (∀ l, o = some l → l.length ≤ s.src.length) → (GV.byt o).sm := fun {o} h => by
    refine ⟨?_, fun m e => by simp at e⟩
    cases o with
    | none => simp [GV.told, TR.small, TR.smallL]
    | some l => have := h l rfl; simp only [GV.told, TR.small, TR.smallL]; simp; omega
  cases p <;> simp only [decStd]
  · exact num_sm (by simp)
  · exact num_sm (by simp)
  · exact num_sm (by simp)
  · exact num_sm (by simp)
  · exact num_sm (by simp)
  · exact num_sm (by simp)
  · exact num_sm (by simp)
  · refine ⟨?_, fun m e => by simp at e⟩
    have := (rdUuid_b s).1
    simp only [GV.told, TR.small, TR.smallL]; simp; omega
  · split
    · exact str_sm (Nat.le_trans (rdCString_b s).1 hs)
    · exact str_sm (Nat.le_trans (rdString_b s).1 hs)
  · split
    · exact nb (rdCNullableString_b s).1
    · exact nb (rdNullableString_b s).1
  · split
    · exact yb (rdCBytes_b s).1
    · exact yb (rdBytes_b s).1
  · split
    · exact yb (rdCNullableBytes_b s).1
    · exact yb (rdNullableBytes_b s).1

end Go.Msk

/-! The law that both ways of reading tell the same: for any message, off its scheme. -/
namespace Go.Msk
open Go.RowKit
set_option maxRecDepth 100000

/-- The reading calls the right functions (u: unsafe, x: flexible). -/
def Sc.okB (F : Nat → Nat) (has : Nat → Bool) (u x : Bool) : Sc → Bool
  | .nil => true
  | .prm _ _ r p d rest => selOk F has p u x (r.sel u x) && decide (p.size = d.size) && rest.okB F has u x
  | .enm _ _ r p d rest => selOk F has p u x (r.sel u x) && decide (p.size = d.size) && rest.okB F has u x
  | .lsp _ len bytes d _ r p rest => lenOk F has x (len.sel u x) && decide (bytes ≤ 32768) && selOk F has p u x (r.sel u x) && decide (p.size = d.size) && rest.okB F has u x
  | .lss _ len bytes z _ body rest => lenOk F has x (len.sel u x) && decide (bytes ≤ 32768) && decide (z.length = body.size) && body.okB F has u x && rest.okB F has u x
  | .sub _ _ body rest => body.okB F has u x && rest.okB F has u x
  | .tags f => !x || (f == F tRead && hasAll has [tRead, rUvarint, kUvarint, rSpan, tSet])

/-- The defaults that it sets. -/
def Sc.dfs : Sc → List (FuncId × List Value × List Value)
  | .nil => []
  | .prm _ _ _ _ _ rest => rest.dfs
  | .enm _ _ _ _ _ rest => rest.dfs
  | .lsp _ _ _ _ _ _ _ rest => rest.dfs
  | .lss _ _ _ z dfl body rest => (dfl, z, body.dcs.flatten) :: (body.dfs ++ rest.dfs)
  | .sub _ dfl body rest => (dfl, body.dcs.flatten, body.dcs.flatten) :: (body.dfs ++ rest.dfs)
  | .tags _ => []

/-- What is asked of these. -/
def DfsOk (P : Program) : List (FuncId × List Value × List Value) → Prop
  | [] => True
  | p :: l => DfC P p.1 p.2.1 p.2.2 ∧ DfsOk P l

theorem DfsOk.append {P : Program} {l l' : List (FuncId × List Value × List Value)} (h : DfsOk P (l ++ l')) : DfsOk P l ∧ DfsOk P l' := by
  induction l with
  | nil => exact ⟨trivial, h⟩
  | cons p l ih => exact ⟨⟨h.1, (ih h.2).1⟩, (ih h.2).2⟩

theorem Sc.ok_of {P : Program} {F : Nat → Nat} {has : Nat → Bool} (L : Lib P F has) {u x : Bool} : ∀ sc : Sc, sc.okB F has u x = true → DfsOk P sc.dfs → sc.Ok P decStd u x := by
  intro sc
  induction sc with
  | nil => intro _ _; trivial
  | prm vc i r p d rest ih =>
    intro h hd
    simp only [Sc.okB, Bool.and_eq_true, decide_eq_true_eq] at h
    exact ⟨sel_std L h.1.1, h.1.2, ih h.2 hd⟩
  | enm vc i r p d rest ih =>
    intro h hd
    simp only [Sc.okB, Bool.and_eq_true, decide_eq_true_eq] at h
    exact ⟨sel_std L h.1.1, h.1.2, ih h.2 hd⟩
  | lsp vc len b d i r p rest ih =>
    intro h hd
    simp only [Sc.okB, Bool.and_eq_true, decide_eq_true_eq] at h
    exact ⟨len_std L h.1.1.1.1, h.1.1.1.2, sel_std L h.1.1.2, h.1.2, ih h.2 hd⟩
  | lss vc len b z dfl body rest ihb ih =>
    intro h hd
    simp only [Sc.okB, Bool.and_eq_true, decide_eq_true_eq] at h
    obtain ⟨k1, k2⟩ := DfsOk.append hd.2
    exact ⟨len_std L h.1.1.1.1, h.1.1.1.2, h.1.1.2, hd.1, ihb h.1.2 k1, ih h.2 k2⟩
  | sub vc dfl body rest ihb ih =>
    intro h hd
    simp only [Sc.okB, Bool.and_eq_true] at h
    obtain ⟨k1, k2⟩ := DfsOk.append hd.2
    exact ⟨hd.1, ihb h.1 k1, ih h.2 k2⟩
  | tags f =>
    intro h _ hx
    simp only [Sc.okB, hx, Bool.not_true, Bool.false_or, Bool.and_eq_true, beq_iff_eq] at h
    obtain ⟨rfl, h⟩ := h
    exact tags_std L h

def Top.okB (F : Nat → Nat) (has : Nat → Bool) (T : Top) : Bool :=
  (match T.rv with | none => true | some f => f == F rInt16 && hasAll has [rInt16, beUint16]) && (T.ok == F rOk && has rOk) && (T.cpl == F rComplete && has rComplete) &&
  T.sc.okB F has true false && T.sc.okB F has false false && (T.flex.isNone || (T.sc.okB F has true true && T.sc.okB F has false true))

theorem Top.ok_of {P : Program} {F : Nat → Nat} {has : Nat → Bool} (L : Lib P F has) {T : Top} (h : T.okB F has = true) (hd : DfsOk P T.sc.dfs) {l : List (Nat × Value)} (hf : liftF P T.dfl = some (dfGen l)) (hl : dfOk l (T.sc.dcs.flatten.length + 1))
    (hr : ∀ ver, dfRes l (.int .i16 ver :: T.sc.dcs.flatten) = .int .i16 ver :: T.sc.dcs.flatten) (u : Bool) : T.Ok P decStd (F gErr) u := by
  unfold Top.okB at h
  simp only [Bool.and_eq_true, beq_iff_eq, Bool.or_eq_true] at h
  obtain ⟨⟨⟨⟨⟨h1, h2⟩, h3⟩, h4⟩, h5⟩, h6⟩ := h
  refine ⟨fun f hf => ?_, ?_, ?_, decStd_short, fun ver => df_call L.mixed hf (by simpa using hl) (hr ver), fun x hx => ?_⟩
  · rw [hf] at h1
    simp only [Bool.and_eq_true, beq_iff_eq] at h1
    obtain ⟨rfl, h1⟩ := h1
    have h1 := hasAll_mem h1
    exact rInt16_call L.mixed (L.rInt16 (h1 _ (by simp))) (L.beUint16 (h1 _ (by simp)))
  · rw [h2.1]; exact ok_std L h2.2
  · rw [h3.1]; exact cpl_std L h3.2
  · refine Sc.ok_of L _ ?_ hd
    cases x with
    | false => cases u <;> assumption
    | true =>
      have : T.flex.isNone = false := by
        cases hfl : T.flex with
        | none => exact absurd (hx hfl) (by simp)
        | some n => rfl
      rw [this] at h6
      have h6 := h6.resolve_left (by simp)
      cases u
      · exact h6.2
      · exact h6.1

/-- The functions that tell. -/
structure LibI (P : Program) (F : Nat → Nat) (has : Nat → Bool) : Prop where
  iBoolTree : has Msk.iBoolTree = true → liftF P (F Msk.iBoolTree) = some (ir_iBoolTree F)
  iTextTree : has Msk.iTextTree = true → liftF P (F Msk.iTextTree) = some (ir_iTextTree F)
  iOctetsTree : has Msk.iOctetsTree = true → liftF P (F Msk.iOctetsTree) = some (ir_iOctetsTree F)
  tEach : has Msk.tEach = true → liftF P (F Msk.tEach) = some (ir_tEach F)
  iSorted : has Msk.iSorted = true → liftF P (F Msk.iSorted) = some (ir_iSorted F)
  sort : has Msk.tEach = true → SortC P (F sortSlice) (F tEach1) (F tyU32s)

section
variable {P : Program} {F : Nat → Nat}

theorem boolTree_ok (hm : P.follows .mixedOrders = true) (h : liftF P (F iBoolTree) = some (ir_iBoolTree F)) : (TK.boo (F iBoolTree)).Ok P := by
  intro O w g v hg hr
  obtain ⟨b, rfl⟩ := hg
  have hv : v = .bool b := by cases hr; rfl
  subst hv
  refine call_of h hm (by simp) ?_
  rw [wpC_seq, wpC_blk]
  refine wpR_run ?_
  intro T
  have hb2 : Blk (w.alloc (.cells tzero.toArray T)) w.heap.size tzero := Blk.new w tzero T
  have hm1 : Mod [] w (w.alloc (.cells tzero.toArray T)) := Mod.alloc _ _ _
  have hz : ([Value.int .i64 0, .slice none 0 0, .bool false, .slice none 0 0, .slice none 0 0] : List Value) = tzero := rfl
  rw [hz]
  have hsz : (w.alloc (.cells tzero.toArray T)).heap.size = w.heap.size + 1 := by simp
  generalize w.alloc (.cells tzero.toArray T) = w1 at hb2 hm1 hsz ⊢
  have a0 : args0 [Value.bool b] 0 = .bool b := rfl
  generalize args0 [Value.bool b] = σ0 at a0 ⊢
  show wpC P (.seq (.seq _ _) _) _ _ _
  rw [wpC_seq, wpC_seq, wpC_blk]
  refine wpR_step (v := .bool b) (by simp [RK.val?, ev, updo, upd, a0]) ?_
  refine wpR_done ?_
  cases b with
  | true =>
    rw [wpC_cond_t rfl, wpC_seq, wpC_blk]
    refine wpR_step (v := .agg [.int .i64 1, .slice none 0 0, .bool false, .slice none 0 0, .slice none 0 0].toArray) (by simp [RK.val?, ev, fillL, tzero, splice, Value.cells]) ?_
    exact treeRet (by simp [updo, upd]) hb2 (by simp [updo, upd]) (RepT.num 1 false) hm1.nil (Nat.le_refl _)
  | false =>
    rw [wpC_cond_f rfl, wpC_skip]
    simp only [thenC]
    rw [wpC_seq, wpC_blk]
    refine wpR_step (v := .agg [.int .i64 0, .slice none 0 0, .bool false, .slice none 0 0, .slice none 0 0].toArray) (by simp [RK.val?, ev, fillL, tzero, splice, Value.cells]) ?_
    exact treeRet (by simp [updo, upd]) hb2 (by simp [updo, upd]) (RepT.num 0 false) hm1.nil (Nat.le_refl _)

def TK.okB (F : Nat → Nat) (has : Nat → Bool) : TK → Bool
  | .num _ => true
  | .str => true
  | .boo f => f == F iBoolTree && has iBoolTree
  | .txt f => f == F iTextTree && has iTextTree
  | .oct f => f == F iOctetsTree && has iOctetsTree

theorem TK.ok_of {has : Nat → Bool} (hm : P.follows .mixedOrders = true) (L : LibI P F has) {k : TK} (h : k.okB F has = true) : k.Ok P := by
  cases k with
  | num c => trivial
  | str => trivial
  | boo f => simp only [TK.okB, Bool.and_eq_true, beq_iff_eq] at h; rw [h.1]; exact boolTree_ok hm (L.iBoolTree h.2)
  | txt f => simp only [TK.okB, Bool.and_eq_true, beq_iff_eq] at h; rw [h.1]; exact textTree_ok hm (L.iTextTree h.2)
  | oct f => simp only [TK.okB, Bool.and_eq_true, beq_iff_eq] at h; rw [h.1]; exact octetsTree_ok hm (L.iOctetsTree h.2)

/-- How many cells. -/
def Tl.cells : Tl → Nat
  | .nil => 0
  | .fld _ rest => 1 + rest.cells
  | .lst _ _ _ rest => 1 + rest.cells
  | .uid rest => 16 + rest.cells
  | .sub _ n _ rest => n + rest.cells
  | .tags .. => 1

/-- The functions that it calls, apart from those for nested structs. -/
def Tl.okB (F : Nat → Nat) (has : Nat → Bool) : Tl → Bool
  | .nil => true
  | .fld k rest => k.okB F has && rest.okB F has
  | .lst k _ body rest => (match k with | .tell _ => decide (0 < body.cells) && decide (body.len ≤ 1000) | _ => true) && body.okB F has && rest.okB F has
  | .uid rest => rest.okB F has
  | .sub _ n body rest => decide (0 < body.cells) && decide (body.len ≤ 1000) && decide (body.cells = n) && body.okB F has && rest.okB F has
  | .tags _ b c => b == F tEach && c == F iSorted && has tEach && has iSorted

/-- The functions for nested structs; those that are called for each tag. -/
def Tl.subs : Tl → List (FuncId × Tl)
  | .nil => []
  | .fld _ rest => rest.subs
  | .lst k _ body rest => (match k with | .tell f => [(f, body)] | _ => []) ++ (body.subs ++ rest.subs)
  | .uid rest => rest.subs
  | .sub f _ body rest => (f, body) :: (body.subs ++ rest.subs)
  | .tags .. => []
def Tl.cbs : Tl → List FuncId
  | .nil => []
  | .fld _ rest => rest.cbs
  | .lst _ _ body rest => body.cbs ++ rest.cbs
  | .uid rest => rest.cbs
  | .sub _ _ body rest => body.cbs ++ rest.cbs
  | .tags a _ _ => [a]

/-- What is asked of these. -/
def SubsOk (P : Program) : List (FuncId × Tl) → Prop
  | [] => True
  | p :: l => liftF P p.1 = some (p.2.code 0) ∧ SubsOk P l
def CbsOk (P : Program) : List FuncId → Prop
  | [] => True
  | a :: l => (liftF P a = some cbCode ∧ hasBody P a = true) ∧ CbsOk P l

theorem SubsOk.append {l l' : List (FuncId × Tl)} (h : SubsOk P (l ++ l')) : SubsOk P l ∧ SubsOk P l' := by
  induction l with
  | nil => exact ⟨trivial, h⟩
  | cons p l ih => exact ⟨⟨h.1, (ih h.2).1⟩, (ih h.2).2⟩
theorem CbsOk.append {l l' : List FuncId} (h : CbsOk P (l ++ l')) : CbsOk P l ∧ CbsOk P l' := by
  induction l with
  | nil => exact ⟨trivial, h⟩
  | cons p l ih => exact ⟨⟨h.1, (ih h.2).1⟩, (ih h.2).2⟩

theorem Tl.cells_len {has : Nat → Bool} : ∀ (tl : Tl) (O : List Nat) (w : World) (gs : List GV) (css : List (List Value)), tl.okB F has = true → tl.ty gs → RepL O w gs css → css.flatten.length = tl.cells := by
  intro tl
  induction tl with
  | nil => intro O w gs css _ hT hr; simp only [Tl.ty] at hT; subst hT; cases hr; rfl
  | fld k rest ih =>
    intro O w gs css h hT hr
    simp only [Tl.okB, Bool.and_eq_true] at h
    obtain ⟨g, l, rfl, hg, hT⟩ := hT
    cases hr with
    | cons h1 h2 => simp only [List.flatten_cons, List.length_append, Tl.cells, TK.one hg h1, ih _ _ _ _ h.2 hT h2]
  | lst k esz body rest _ ih =>
    intro O w gs css h hT hr
    simp only [Tl.okB, Bool.and_eq_true] at h
    obtain ⟨isnil, sz, x, l, rfl, -, -, -, hT⟩ := hT
    cases hr with
    | @cons _ _ cs css h1 h2 =>
      have : cs.length = 1 := by cases h1 <;> rfl
      simp only [List.flatten_cons, List.length_append, Tl.cells, this, ih _ _ _ _ h.2 hT h2]
  | uid rest ih =>
    intro O w gs css h hT hr
    obtain ⟨x, l, rfl, hx, hT⟩ := hT
    cases hr with
    | @cons _ _ cs css h1 h2 =>
      have : cs.length = 16 := by cases h1; rw [u8s_length, hx]
      simp only [List.flatten_cons, List.length_append, Tl.cells, this, ih _ _ _ _ h hT h2]
  | sub f n body rest ihb ih =>
    intro O w gs css h hT hr
    simp only [Tl.okB, Bool.and_eq_true, decide_eq_true_eq] at h
    obtain ⟨x, l, rfl, hx, hT, -⟩ := hT
    cases hr with
    | @cons _ _ cs css h1 h2 =>
      have : cs.length = n := by cases h1 with | rcd h1 => rw [← h.1.1.2]; exact ihb _ _ _ _ h.1.2 hx h1
      simp only [List.flatten_cons, List.length_append, Tl.cells, this, ih _ _ _ _ h.2 hT h2]
  | tags a b c =>
    intro O w gs css h hT hr
    obtain ⟨m, rfl, -⟩ := hT
    cases hr with
    | @cons _ _ cs css h1 h2 =>
      cases h2
      have : cs.length = 1 := by cases h1 <;> rfl
      simp [this, Tl.cells]

theorem Tl.tellS {has : Nat → Bool} (hm : P.follows .mixedOrders = true) {tl : Tl} {f : FuncId} (hb : tl.okB F has = true) (hO : tl.Ok P) (hpos : 0 < tl.cells) (hlen : tl.len ≤ 1000) (h : liftF P f = some (tl.code 0)) : TellS P f tl.ty := by
  intro O w B base gs css hT hr hc
  have hl := Tl.cells_len tl O w gs css hb hT hr
  have hcell : ∃ v, css.flatten[0]? = some v := ⟨css.flatten[0], List.getElem?_eq_getElem (by omega)⟩
  obtain ⟨v, hv⟩ := hcell
  have := hc.2 0 v hv
  have hlt := World.block_lt_of_cell? w _ this
  exact Tl.call hm h hO hlen O w B base gs css hT hr hlt hc

theorem Tl.ok_of {has : Nat → Bool} (hm : P.follows .mixedOrders = true) (L : LibI P F has) : ∀ tl : Tl, tl.okB F has = true → SubsOk P tl.subs → CbsOk P tl.cbs → tl.Ok P := by
  intro tl
  induction tl with
  | nil => intro _ _ _; trivial
  | fld k rest ih =>
    intro h hs hc
    simp only [Tl.okB, Bool.and_eq_true] at h
    exact ⟨TK.ok_of hm L h.1, ih h.2 hs hc⟩
  | lst k esz body rest ihb ih =>
    intro h hs hc
    simp only [Tl.okB, Bool.and_eq_true] at h
    obtain ⟨s1, s2⟩ := SubsOk.append hs
    obtain ⟨s3, s4⟩ := SubsOk.append s2
    obtain ⟨c1, c2⟩ := CbsOk.append hc
    refine ⟨?_, ih h.2 s4 c2⟩
    cases k with
    | num c => trivial
    | str => trivial
    | tell f =>
      simp only [Bool.and_eq_true, decide_eq_true_eq] at h
      exact Tl.tellS hm h.1.2 (ihb h.1.2 s3 c1) h.1.1.1 h.1.1.2 s1.1
  | uid rest ih => intro h hs hc; exact ih h hs hc
  | sub f n body rest ihb ih =>
    intro h hs hc
    simp only [Tl.okB, Bool.and_eq_true, decide_eq_true_eq] at h
    obtain ⟨s3, s4⟩ := SubsOk.append hs.2
    obtain ⟨c1, c2⟩ := CbsOk.append hc
    exact ⟨Tl.tellS hm h.1.2 (ihb h.1.2 s3 c1) h.1.1.1.1 h.1.1.1.2 hs.1, ih h.2 s4 c2, fun O w gs css hT hr => by rw [← h.1.1.2]; exact Tl.cells_len body O w gs css h.1.2 hT hr⟩
  | tags a b c =>
    intro h _ hc
    simp only [Tl.okB, Bool.and_eq_true, beq_iff_eq] at h
    obtain ⟨⟨⟨rfl, rfl⟩, h3⟩, h4⟩ := h
    exact ⟨hm, hc.1.1, hc.1.2, fun hcb hb _ _ _ _ hce hM h1 h2 h5 h6 h7 h8 h9 => tEach_call hm (L.tEach h3) (L.sort h3) hcb hb hce hM h1 h2 h5 h6 h7 h8 h9, fun hp hs hl => iSorted_call hm (L.iSorted h4) hp hs hl⟩

/-- The functions of a message: telling by either way, all the rest. -/
structure MsgFs where
  tellD : FuncId
  unsD : FuncId
  mx : FuncId
  newp : FuncId
  maxv : FuncId
  setv : FuncId
  rf : FuncId
  urf : FuncId
  rd : FuncId
  tell : FuncId

/-- What a message's functions are. -/
structure MsgOk (P : Program) (F : Nat → Nat) (has : Nat → Bool) (M : MsgFs) (T : Top) (tl : Tl) (z : List Value) (most : Int) : Prop where
  mx : liftF P M.mx = some (impMaxCode M.newp M.maxv)
  maxv : liftF P M.maxv = some (maxCode most)
  newp : liftF P M.newp = some (newCode z T.dfl)
  setv : liftF P M.setv = some setCode
  rf : liftF P M.rf = some (rfCode M.rd false)
  urf : liftF P M.urf = some (rfCode M.rd true)
  tellD : liftF P M.tellD = some (tellCode M.newp M.setv M.rf M.tell)
  unsD : liftF P M.unsD = some (tellCode M.newp M.setv M.urf M.tell)
  rd : liftF P M.rd = some T.gen
  tell : liftF P M.tell = some (tl.code 1)
  dfl : ∃ l, liftF P T.dfl = some (dfGen l) ∧ dfOk l (T.sc.dcs.flatten.length + 1) ∧ z.length = T.sc.dcs.flatten.length + 1 ∧ dfRes l z = .int .i16 0 :: T.sc.dcs.flatten ∧ ∀ ver, dfRes l (.int .i16 ver :: T.sc.dcs.flatten) = .int .i16 ver :: T.sc.dcs.flatten
  dfs : DfsOk P T.sc.dfs
  okT : T.okB F has = true
  okL : tl.okB F has = true
  subs : SubsOk P tl.subs
  cbs : CbsOk P tl.cbs
  fits : fit T.sc tl = true
  small : T.sc.smallB = true
  len : T.sc.len ≤ 1000
  tlen : tl.len ≤ 1000
  most : 0 ≤ most ∧ most < 32768

variable {has : Nat → Bool} {M : MsgFs} {T : Top} {tl : Tl} {z : List Value} {most : Int}

theorem Top.dec_src {T : Top} {ver v : Int} {src : List UInt8} {n : Bool} {gs : List GV} {s' : RS} (h : T.dec decStd ver ⟨src, false, n⟩ = some ((v, gs), s')) : ∃ s1 : RS, s1.src.length ≤ src.length ∧ T.sc.dec decStd v (T.x v) s1 = some (gs, s') := by
  unfold Top.dec at h
  split at h
  rename_i v1 s1 he
  split at h
  · simp at h
  · rename_i l s2 hd
    simp only [Option.some.injEq, Prod.mk.injEq] at h
    obtain ⟨⟨rfl, rfl⟩, rfl⟩ := h
    refine ⟨s1, ?_, hd⟩
    split at he
    · simp only [Prod.mk.injEq] at he
      rw [← he.2]; exact rdN_le 2 ⟨src, false, n⟩
    · simp only [Prod.mk.injEq] at he
      rw [← he.2]; exact Nat.le_refl _

theorem MsgOk.tells_small (h : MsgOk P F has M T tl z most) {ver : Int} {src : List UInt8} {t : TR} (hl : src.length ≤ 2147483647) (ht : T.tells decStd ver src = some t) : t.small := by
  unfold Top.tells at ht
  cases hd : T.dec decStd ver ⟨src, false, src.isEmpty⟩ with
  | none => rw [hd] at ht; simp at ht
  | some q =>
    obtain ⟨⟨v, gs⟩, s⟩ := q
    rw [hd] at ht
    simp only at ht
    split at ht
    · simp at ht
    · simp only [Option.some.injEq] at ht
      subst ht
      obtain ⟨s1, h1, h2⟩ := Top.dec_src hd
      obtain ⟨k1, k2, -⟩ := dec_small decStd_ok decStd_small T.sc s1 s gs h.small (by omega) h2
      exact (rcd_small (by have := h.len; omega) k2).1

theorem MsgOk.ty (h : MsgOk P F has M T tl z most) {ver vr : Int} {src : List UInt8} {gs : List GV} {s : RS} (hl : src.length ≤ 2147483647) (hd : T.dec decStd ver ⟨src, false, src.isEmpty⟩ = some ((vr, gs), s)) : tl.ty gs := by
  obtain ⟨s1, h1, h2⟩ := Top.dec_src hd
  exact (fit_ty decStd_ok T.sc tl s1 s gs h.fits (by omega) h2).1

/-- The doors that tell. -/
theorem MsgOk.tellOf (L : Lib P F has) (LI : LibI P F has) (h : MsgOk P F has M T tl z most) {Te : TypeId} {ve : Value} :
    TellOf P M.tellD (F gErr) Te ve (fun ver src => T.tells decStd ver src) most ∧ TellOf P M.unsD (F gErr) Te ve (fun ver src => T.tells decStd ver src) most := by
  obtain ⟨l, e1, e2, e3, e4, e5⟩ := h.dfl
  have hz : DfC P T.dfl z (.int .i16 0 :: T.sc.dcs.flatten) := df_call L.mixed e1 (by rw [e3]; exact e2) e4
  have hT : ∀ u, T.Ok P decStd (F gErr) u := Top.ok_of L h.okT h.dfs e1 e2 e5
  have htl : TellAt P M.tell 1 tl.ty := Tl.call L.mixed h.tell (Tl.ok_of L.mixed LI tl h.okL h.subs h.cbs) h.tlen
  have hw : ∀ ver : Int, 0 ≤ ver → ver ≤ most → IntKind.i16.wrap ver = ver := fun ver h1 h2 => by
    have := h.most
    simp only [IntKind.wrap, IntKind.bits, IntKind.signed]; simp; omega
  refine ⟨fun w ver v src h1 h2 h3 h4 h5 => ?_, fun w ver v src h1 h2 h3 h4 h5 => ?_⟩
  · exact tell_call L.mixed h.tellD h.newp hz h.setv h.rf h.rd (hT false) htl (fun vr gs s hd => h.ty (by omega) hd) h4 (by omega) (hw ver h1 h2) h5
  · exact tell_call L.mixed h.unsD h.newp hz h.setv h.urf h.rd (hT true) htl (fun vr gs s hd => h.ty (by omega) hd) h4 (by omega) (hw ver h1 h2) h5

theorem uns_msg (L : Lib P F has) (LI : LibI P F has) (h : MsgOk P F has M T tl z most) {f : FuncId} (hf : liftF P f = some (unsCode M.mx (F lVersion) M.tellD M.unsD (F lGot) (F sSameTree))) (hv : liftF P (F lVersion) = some (ir_lVersion F))
    (hg : liftF P (F lGot) = some (ir_lGot F)) (hst : liftF P (F sSameTree) = some (ir_sSameTree F)) (hs : liftF P (F sSame) = some (ir_sSame F)) {Te : TypeId} {ve : Value} {w : World} {n : Int} (hn : 0 ≤ n ∧ n < 256) {v : Value} {src : List UInt8}
    (hsl : SlC (fun _ => True) w v src.length (u8s src)) (hge : GErr (F gErr) w Te ve) : Calls P f [.int .u8 n, v].toArray w fun e w' => e = .returned (.bool true) ∧ Mod [] w w' := by
  obtain ⟨l, e1, e2, e3, e4, e5⟩ := h.dfl
  have hz : DfC P T.dfl z (.int .i16 0 :: T.sc.dcs.flatten) := df_call L.mixed e1 (by rw [e3]; exact e2) e4
  obtain ⟨t1, t2⟩ := h.tellOf L LI (Te := Te) (ve := ve)
  exact uns_call L.mixed hf h.most (fun w => impMax_call L.mixed h.mx h.newp hz h.maxv h.most) (fun w n hn => version_call L.mixed hv hn h.most) t1 t2 (fun ver src t hl ht => h.tells_small (by omega) ht) (got_call L.mixed hg) (sameTree_call L.mixed hst hs) hn hsl hge

end
end Go.Msk

/-! From the rows: octets are opened and shut again; the listed variable is read. -/
namespace Go.Msk
open Go.RowKit Go.ChangeShapes Go.WideShapes Go.ChangeAt
set_option maxRecDepth 100000

theorem Mod.keptBut {W W' : World} (h : Mod [] W W') (may : MemPlace → Prop) : W.keptBut W' may := by
  refine ⟨h.os, h.output, fun i hi => ?_⟩
  rw [h.block i hi (by simp)]
  cases W.heap[i]? with
  | none => rfl
  | some o => cases o <;> simp

/-- The row's end, where nothing is written. -/
theorem post_of_mod {H : Type} {enc : TypeId × Value → H} {P : Program} {f : Func} {s : ChangeSpec} {apart fresh handsOn : Bool} {W W' : World} {args : Array Value} {v : Value} {ds gs : List (DataW H)} {before pa pv : List MemPlace}
    (hW : DataW.Whole enc P f.params.toList s.vars apart W args.toList ds gs before)
    (hres : ∀ b : Nat, DataW.TrodAll enc P W' b (fun _ => false) handsOn f.resultTypes.toList (v.resultList f.resultTypes.size) (s.fn H (ds ++ gs)).results [])
    (hargs : DataW.TrodAll enc P W' 0 (fun b => decide (b < W.heap.size)) true f.params.toList args.toList (s.fn H (ds ++ gs)).args pa)
    (hvars : DataW.TrodVars enc P W' (fun b => decide (b < W.heap.size)) s.vars (s.fn H (ds ++ gs)).vars pv) (hm : Mod [] W W') : s.post enc P f apart fresh handsOn false W args v W' :=
  ⟨ds, gs, before, [], pa, pv, hW, hres _, hargs, hvars, hm.keptBut _, fun h => by simp at h⟩

theorem u8_of {n : Int} (h : (Lit.int .u8 n).wf = true) : 0 ≤ n ∧ n < 256 := by
  simp only [Lit.wf, Bool.and_eq_true, decide_eq_true_eq] at h
  have h1 : IntKind.u8.min = 0 := by rfl
  have h2 : IntKind.u8.max = 255 := by rfl
  omega

section
variable {H : Type} {enc : TypeId × Value → H} {P : Program} {W : World}

/-- Octets, opened; and that they read so in any world in which nothing of this one has turned. -/
theorem open_octets {base : Nat} {t e : TypeId} {v : Value} {d : DataW H} {p : List MemPlace} (ht : P.underlying t = some (.slice e)) (he : P.underlying e = some (.int .u8)) (hc : P.cellsOf e = 1) (hv : Value.okWide P W .any base t v)
    (h : DataW.Trod enc P W 0 (fun _ => true) true t v d p) :
    ∃ src : List UInt8, SlC (fun _ => True) W v src.length (u8s src) ∧ ∀ W', Mod [] W W' → DataW.Trod enc P W' 0 (fun b => decide (b < W.heap.size)) true t v d p := by
  have hv' := hv
  simp only [Value.okWide, ht, Cell.okWide, Cell.ok] at hv'
  obtain ⟨a0, len, cap, rfl⟩ := okWide_slice ht hv
  obtain ⟨fuel, hf⟩ := h
  rcases open_ints ht he hc hf with ⟨hcs, hx⟩ | ⟨a, len', cap', zs, hcs, _, hl, hm, hz, hx, hcell, hwz⟩
  · have e0 : Value.slice a0 len cap = .slice none 0 0 := by simpa [Value.cells] using hcs
    simp only [Value.slice.injEq] at e0
    obtain ⟨rfl, rfl, rfl⟩ := e0
    refine ⟨[], SlC.nil, fun W' _ => ⟨1, ?_⟩⟩
    simp only [Prod.mk.injEq] at hx
    obtain ⟨rfl, rfl⟩ := hx
    simp [DataW.trod, ht, Value.cells]
  · have e0 : Value.slice a0 len cap = .slice (some a) len' cap' := by simpa [Value.cells] using hcs
    simp only [Value.slice.injEq] at e0
    obtain ⟨rfl, rfl, rfl⟩ := e0
    simp only at hv'
    obtain ⟨-, -, -, hsp, row, cells, hsh, -⟩ := hv'
    have hlt : a.block < W.heap.size := by
      unfold World.shape? at hsh
      rcases Nat.lt_or_ge a.block W.heap.size with h | h
      · exact h
      · rw [Array.getElem?_eq_none h] at hsh; simp at hsh
    simp only [if_true] at hz
    have hadd : ∀ i, a.add i = ⟨a.block, a.off + i, none⟩ := Addr.add_of hsp
    have hb : ∀ n ∈ zs, 0 ≤ n ∧ n < 256 := fun n hn => u8_of (hwz n hn)
    have hlen : ((zs.take len).map fun n => UInt8.ofNat n.toNat).length = len := by simp; omega
    refine ⟨(zs.take len).map fun n => UInt8.ofNat n.toNat, ⟨some a, cap, by rw [hlen], by rw [hlen]; exact hl, fun h => by simp at h, fun a' ha => ?_⟩, fun W' hmod => ⟨2, ?_⟩⟩
    · simp only [Option.some.injEq] at ha; subst ha
      refine ⟨trivial, hlt, hsp, fun i v hi => ?_⟩
      have hi' : i < len := by
        have := (List.getElem?_eq_some_iff.1 hi).1
        rw [u8s_length, hlen] at this
        exact this
      have := hcell i (by omega)
      rw [hadd] at this
      rw [this]
      have hzi : zs[i]? = some zs[i] := List.getElem?_eq_getElem (by omega)
      have e1 : zs.getD i 0 = zs[i] := by rw [List.getD, hzi]; rfl
      rw [e1]
      have hn := hb zs[i] (List.getElem_mem (by omega))
      simp only [u8s, List.map_map, List.getElem?_map, List.getElem?_take, hi', if_true, hzi, Option.map_some, Function.comp, Option.some.injEq] at hi
      rw [← hi]
      congr 1
      generalize zs[i] = n at hn
      have : (UInt8.ofNat n.toNat).toNat = n.toNat := by simp; omega
      rw [Value.int.injEq]
      exact ⟨rfl, by rw [this]; omega⟩
    · simp only [Prod.mk.injEq] at hx
      obtain ⟨rfl, rfl⟩ := hx
      exact shut_ints 0 ht he hc (Nat.zero_le _) hl hm (by simp [hlt, hz]) (fun i hi => by
        have := hcell i hi
        exact cell_mod this hmod (by simp)) hwz

/-- The listed variable holds an error. -/
theorem gerr_of_laid {n : String} {g : Nat} {t : TypeId} {ms : Array (String × TypeId)} {tn : String} {d : DataW Unit} (hg : P.globalNamed n = some g) (ht : (P.globals[g]?).map (·.type) = some t) (hi : P.underlying t = some (.interface ms))
    (hl : laidMetH P [(n, .iface tn d)] W) (hh : ([(n, DataW.iface (H := Unit) tn d)].all fun x => x.2.handleName?.isNone) = true) : ∃ T v, GErr g W T v := by
  rw [MakeChecks.laidMetH_plain _ _ _ hh] at hl
  obtain ⟨ps, ⟨g0, t0, cs0, f0, p0, q0, hg0, ht0, hv0, hd0, -⟩, -, -⟩ := hl
  obtain rfl := Option.some.inj (hg.symm.trans hg0)
  obtain rfl := Option.some.inj (ht.symm.trans ht0)
  obtain ⟨_, u, v, hcs, -, -⟩ := iface_of_trod hi hd0
  refine ⟨u, v, ?_⟩
  have := World.var?_cell hg hv0 0
  rw [Array.eq_one_of_toList hcs] at this
  simpa [GErr] using this

end
end Go.Msk
