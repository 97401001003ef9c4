/- A small language of resolved operations, and what the generic and the generated functions do in it (part 8). -/
import Derived.Test.YtopfpehiaddeaaaGreatDoorFg

namespace Go.Msk
open Go.RowKit
set_option maxRecDepth 100000
theorem and127_u32 {n : Nat} (h : n < 4294967296) : intBin .and .u32 (n : Int) 127 = some (.int .u32 ((n % 128 : Nat) : Int)) := by
  simp only [intBin]
  congr 2
  have e1 : (BitVec.ofInt IntKind.u32.bits (n : Int) &&& BitVec.ofInt IntKind.u32.bits 127).toNat = n % 128 := by
    show (BitVec.ofInt 32 (n : Int) &&& BitVec.ofInt 32 127).toNat = n % 128
    rw [BitVec.toNat_and]
    have a : (BitVec.ofInt 32 (n : Int)).toNat = n := by simp []; omega
    have b : (BitVec.ofInt 32 127).toNat = 2 ^ 7 - 1 := by decide
    rw [a, b, Nat.and_two_pow_sub_one_eq_mod]
  rw [e1, u32_nat (by omega)]
theorem or128_u32 {x : Nat} (h : x < 128) : intBin .or .u32 (x : Int) 128 = some (.int .u32 ((x + 128 : Nat) : Int)) := by
  have := or_u32 (x := x) (y := 1) (s := 7) (by omega) (by omega) (by omega)
  simpa using this
theorem shr_u32 (n k : Nat) (hk : k < 32) : intBin .shr .u32 (n : Int) (k : Nat) = some (.int .u32 ((n / 2 ^ k : Nat) : Int)) := by
  simp only [intBin]
  rw [if_neg (by omega)]
  have : min (k : Int).toNat IntKind.u32.bits = k := by show min (k : Int).toNat 32 = k; omega
  rw [this, Int.fdiv_eq_ediv_of_nonneg _ (by exact Int.le_of_lt (Int.pow_pos (by omega)))]
  congr 2
def uvE (n : Nat) : List UInt8 := if n < 128 then [UInt8.ofNat n] else UInt8.ofNat (n % 128 + 128) :: uvE (n / 128)
termination_by n
decreasing_by omega
theorem uvE_small {n : Nat} (h : n < 128) : uvE n = [UInt8.ofNat n] := by rw [uvE, if_pos h]
theorem uvE_big {n : Nat} (h : 128 ≤ n) : uvE n = UInt8.ofNat (n % 128 + 128) :: uvE (n / 128) := by rw [uvE, if_neg (by omega)]
theorem uvE_length {n : Nat} (h : n < 4294967296) : (uvE n).length = lenU n := by
  have go : ∀ n, n < 128 → (uvE n).length = 1 := fun n h => by rw [uvE_small h]; rfl
  unfold lenU
  split
  · exact go n (by omega)
  · rw [uvE_big (by omega)]
    split
    · simp [go (n / 128) (by omega)]
    · rw [uvE_big (by omega)]
      split
      · simp [go (n / 128 / 128) (by omega)]
      · rw [uvE_big (by omega)]
        split
        · simp [go (n / 128 / 128 / 128) (by omega)]
        · rw [uvE_big (by omega)]
          simp [go (n / 128 / 128 / 128 / 128) (by omega)]
theorem u8_conv {x : Nat} (h : x < 256) : Value.int .u8 (IntKind.u8.wrap (x : Int)) = .int .u8 ((UInt8.ofNat x).toNat : Int) := by
  rw [u8vz]
  have : ((x : Int) % 256).toNat = x := by omega
  rw [this]
section
variable {P : Program} {F : Nat → Nat}
theorem grpS {t k n : Nat} {σ : Sl} {w : World} {rest : List RI} {Q : Sl → World → Prop} (h1 : σ 1 = .int .u32 (n : Nat)) (hn : n < 4294967296) (hk : k < 32) (_ht : 4 < t)
    (hQ : ∀ σ', Ag t σ σ' → σ' (t + 4) = .int .u8 ((UInt8.ofNat (n / 2 ^ k % 128 + 128)).toNat : Int) → wpR P rest σ' w Q) :
    wpR P (⟨some t, .mv (.tmp 1), none⟩ :: ⟨some (t + 1), .bin .shr (.tmp t) (.const (.int .u64 (k : Nat))), none⟩ :: ⟨some (t + 2), .bin .and (.tmp (t + 1)) (.const (.int .u32 127)), none⟩ :: ⟨some (t + 3), .bin .or (.tmp (t + 2)) (.const (.int .u32 128)), none⟩ ::
      ⟨some (t + 4), .conv .u8 (.tmp (t + 3)), none⟩ :: rest) σ w Q := by
  have hd : n / 2 ^ k < 4294967296 := Nat.lt_of_le_of_lt (Nat.div_le_self _ _) hn
  refine wpR_step (v := .int .u32 (n : Nat)) (congrArg some h1) ?_
  refine wpR_step (v := .int .u32 ((n / 2 ^ k : Nat) : Int)) (by simp only [RK.val?, ev, updo, upd, if_true, isShift, Bool.true_or, shr_u32 n k hk]) ?_
  refine wpR_step (v := .int .u32 ((n / 2 ^ k % 128 : Nat) : Int)) (by simp only [RK.val?, ev, updo, upd, if_true, isShift, decide_true, Bool.or_true, and127_u32 hd]) ?_
  refine wpR_step (v := .int .u32 ((n / 2 ^ k % 128 + 128 : Nat) : Int)) (by simp only [RK.val?, ev, updo, upd, if_true, isShift, decide_true, Bool.or_true, or128_u32 (Nat.mod_lt _ (by omega))]) ?_
  refine wpR_step (v := .int .u8 (IntKind.u8.wrap ((n / 2 ^ k % 128 + 128 : Nat) : Int))) (by simp only [RK.val?, ev, updo, upd, if_true]) ?_
  refine hQ _ (fun j hj => ?_) ?_
  · simp only [updo, upd, show j ≠ t by omega, show j ≠ t + 1 by omega, show j ≠ t + 2 by omega, show j ≠ t + 3 by omega, show j ≠ t + 4 by omega, if_false]
  · simp only [updo, upd, if_true]
    exact u8_conv (by omega)
theorem grpF {t n : Nat} {σ : Sl} {w : World} {rest : List RI} {Q : Sl → World → Prop} (h1 : σ 1 = .int .u32 (n : Nat)) (hn : n < 4294967296) (_ht : 4 < t)
    (hQ : ∀ σ', Ag t σ σ' → σ' (t + 3) = .int .u8 ((UInt8.ofNat (n % 128 + 128)).toNat : Int) → wpR P rest σ' w Q) :
    wpR P (⟨some t, .mv (.tmp 1), none⟩ :: ⟨some (t + 1), .bin .and (.tmp t) (.const (.int .u32 127)), none⟩ :: ⟨some (t + 2), .bin .or (.tmp (t + 1)) (.const (.int .u32 128)), none⟩ ::
      ⟨some (t + 3), .conv .u8 (.tmp (t + 2)), none⟩ :: rest) σ w Q := by
  refine wpR_step (v := .int .u32 (n : Nat)) (congrArg some h1) ?_
  refine wpR_step (v := .int .u32 ((n % 128 : Nat) : Int)) (by simp only [RK.val?, ev, updo, upd, if_true, isShift, decide_true, Bool.or_true, and127_u32 hn]) ?_
  refine wpR_step (v := .int .u32 ((n % 128 + 128 : Nat) : Int)) (by simp only [RK.val?, ev, updo, upd, if_true, isShift, decide_true, Bool.or_true, or128_u32 (Nat.mod_lt _ (by omega))]) ?_
  refine wpR_step (v := .int .u8 (IntKind.u8.wrap ((n % 128 + 128 : Nat) : Int))) (by simp only [RK.val?, ev, updo, upd, if_true]) ?_
  refine hQ _ (fun j hj => ?_) ?_
  · simp only [updo, upd, show j ≠ t by omega, show j ≠ t + 1 by omega, show j ≠ t + 2 by omega, show j ≠ t + 3 by omega, if_false]
  · simp only [updo, upd, if_true]
    exact u8_conv (by omega)
theorem grpL {t k n : Nat} {σ : Sl} {w : World} {rest : List RI} {Q : Sl → World → Prop} (h1 : σ 1 = .int .u32 (n : Nat)) (hk : k < 32) (hs : n / 2 ^ k < 256) (_ht : 4 < t)
    (hQ : ∀ σ', Ag t σ σ' → σ' (t + 2) = .int .u8 ((UInt8.ofNat (n / 2 ^ k)).toNat : Int) → wpR P rest σ' w Q) :
    wpR P (⟨some t, .mv (.tmp 1), none⟩ :: ⟨some (t + 1), .bin .shr (.tmp t) (.const (.int .u64 (k : Nat))), none⟩ :: ⟨some (t + 2), .conv .u8 (.tmp (t + 1)), none⟩ :: rest) σ w Q := by
  refine wpR_step (v := .int .u32 (n : Nat)) (congrArg some h1) ?_
  refine wpR_step (v := .int .u32 ((n / 2 ^ k : Nat) : Int)) (by simp only [RK.val?, ev, updo, upd, if_true, isShift, Bool.true_or, shr_u32 n k hk]) ?_
  refine wpR_step (v := .int .u8 (IntKind.u8.wrap ((n / 2 ^ k : Nat) : Int))) (by simp only [RK.val?, ev, updo, upd, if_true]) ?_
  refine hQ _ (fun j hj => ?_) ?_
  · simp only [updo, upd, show j ≠ t by omega, show j ≠ t + 1 by omega, show j ≠ t + 2 by omega, if_false]
  · simp only [updo, upd, if_true]
    exact u8_conv hs
end
end Go.Msk

namespace Go.Msk
open Go.RowKit
set_option maxRecDepth 100000
section
variable {P : Program}
theorem go1 {k : RK} {d : Option Nat} {g : Option (Nat × Bool)} {r : List RI} {σ : Sl} {w : World} {v : Value} {Q : Sl → World → Prop} (hg : gOk g σ = true) (hv : k.val? σ w = some v) (h : wpR P r (updo σ d v) w Q) : wpR P (⟨d, k, g⟩ :: r) σ w Q := by
  simp only [wpR, RI.wp, hg, if_true]
  exact run_of_val hv h
theorem go0 {k : RK} {d : Option Nat} {g : Nat × Bool} {r : List RI} {σ : Sl} {w : World} {Q : Sl → World → Prop} (hg : gOk (some g) σ = false) (h : wpR P r (updo σ d undef) w Q) : wpR P (⟨d, k, some g⟩ :: r) σ w Q := by
  simp only [wpR, RI.wp, hg]; exact h
theorem goC {k : RK} {d : Option Nat} {g : Option (Nat × Bool)} {r : List RI} {σ : Sl} {w : World} {Q : Sl → World → Prop} (hg : gOk g σ = true) (h : k.run P σ w fun v w' => wpR P r (updo σ d v) w' Q) : wpR P (⟨d, k, g⟩ :: r) σ w Q := by
  simp only [wpR, RI.wp, hg, if_true]; exact h
theorem goBox {x : Operand} {d : Option Nat} {r : List RI} {σ : Sl} {w : World} {v : Value} {Q : Sl → World → Prop} (hx : ev σ x = v)
    (h : ∀ w', Blk w' w.heap.size v.cells.toList → Mod [] w w' → wpR P r (updo σ d (.pointer (some ⟨w.heap.size, 0, none⟩))) w' Q) : wpR P (⟨d, .box x, none⟩ :: r) σ w Q := by
  subst hx
  refine wpR_run ?_
  intro T
  exact h _ (Blk.new w _ T) (Mod.alloc _ _ _)
theorem goAlloc {z : List Value} {d : Option Nat} {r : List RI} {σ : Sl} {w : World} {Q : Sl → World → Prop}
    (h : ∀ w', Blk w' w.heap.size z → Mod [] w w' → wpR P r (updo σ d (.pointer (some ⟨w.heap.size, 0, none⟩))) w' Q) : wpR P (⟨d, .alloc z, none⟩ :: r) σ w Q := by
  refine wpR_run ?_
  intro T
  exact h _ (Blk.new w _ T) (Mod.alloc _ _ _)
theorem goOne {x : Operand} {n : Nat} {z cs : List Value} {d : Option Nat} {r : List RI} {σ : Sl} {w : World} {Q : Sl → World → Prop} (hx : (ev σ x).cells.toList = cs) (hn : cs.length = n) (hz : z.length = n)
    (h : ∀ w', Blk w' w.heap.size cs → Mod [] w w' → wpR P r (updo σ d (.slice (some ⟨w.heap.size, 0, none⟩) 1 1)) w' Q) : wpR P (⟨d, .bslice 1 z [(0, n, x)], none⟩ :: r) σ w Q := by
  refine wpR_run ?_
  have hl : (ev σ x).cells.size = n := by rw [← hn, ← hx]; simp
  have e1 : fillL (zrep 1 z) [(0, n, ev σ x)] = some cs := by
    simp only [fillL, zrep, List.replicate, List.flatten_cons, List.flatten_nil, List.append_nil]
    rw [if_pos ⟨hl, by omega⟩, hx]
    simp [splice, hn, hz]
  simp only [RK.run, List.map_cons, List.map_nil, e1]
  intro T
  exact h _ (Blk.new w _ T) (Mod.alloc _ _ _)
theorem goSt {a x : Operand} {n b : Nat} {r : List RI} {σ : Sl} {w : World} {v : Value} {cs : List Value} {Q : Sl → World → Prop} (ha : ev σ a = .pointer (some ⟨b, 0, none⟩)) (hx : ev σ x = v) (hb : Blk w b cs) (hn : v.cells.size = n) (hl : cs.length = n)
    (h1 : ∀ y ∈ v.cells.toList, y.oneCell' = true) (h : ∀ w', Blk w' b v.cells.toList → Mod [b] w w' → wpR P r σ w' Q) : wpR P (⟨none, .st a n x, none⟩ :: r) σ w Q := by
  subst hx
  refine wpR_run ?_
  have hl' : (ev σ x).cells.toList.length = n := by simpa using hn
  simp only [RK.run, ha]
  refine ⟨hn, stOk_many hb (by omega) h1, h _ ?_ (Mod.put (by simp))⟩
  have := hb.put (o := 0) (vs := (ev σ x).cells.toList) (by omega)
  have e : splice cs 0 (ev σ x).cells.toList = (ev σ x).cells.toList := by simp [splice, hl, hl']
  rwa [e] at this
theorem goCall {f : FuncId} {args : List Operand} {d : Option Nat} {g : Option (Nat × Bool)} {r : List RI} {σ : Sl} {w : World} {Q : Sl → World → Prop} {R : Ending → World → Prop} {vs : List Value} (hg : gOk g σ = true) (ha : args.map (ev σ) = vs) (hc : Calls P f vs.toArray w R)
    (hk : ∀ e w', R e w' → ∃ v, e = .returned v ∧ wpR P r (updo σ d v) w' Q) : wpR P (⟨d, .call f args, g⟩ :: r) σ w Q := by
  subst ha
  refine goC hg ?_
  exact hc.mono fun e w' he => hk e w' he
theorem goEnd {Q : Sl → World → Prop} {σ : Sl} {w : World} (h : Q σ w) : wpR P [] σ w Q := h
theorem bo1 {l : List DI} {Φ : Nat → Value → World → Prop} {w0 : World} {E : Sl → Prop} {n : Nat} {k : RK} {d : Option Nat} {g : Option (Nat × Bool)} {ds : List Nat} {r : List DI} {σ : Sl} {v : Value} (hg : gOk g σ = true) (hv : k.val? σ w0 = some v)
    (h : walkB P l Φ w0 E (n + 1) r (updo σ d v)) : walkB P l Φ w0 E n (⟨⟨d, k, g⟩, false, ds⟩ :: r) σ := by
  simp only [walkB, hg, if_true, hv, Bool.false_eq_true, if_false]
  exact h
theorem boN {l : List DI} {Φ : Nat → Value → World → Prop} {w0 : World} {E : Sl → Prop} {n : Nat} {k : RK} {d : Option Nat} {g : Option (Nat × Bool)} {ds : List Nat} {r : List DI} {σ : Sl} (hg : gOk g σ = true)
    (hn : ∀ w, Mod [] w0 w → known l Φ ds σ w → k.run P σ w fun v w' => Mod [] w w' ∧ Φ n v w') (h : ∀ v, (∃ w, Φ n v w) → walkB P l Φ w0 E (n + 1) r (updo σ d v)) : walkB P l Φ w0 E n (⟨⟨d, k, g⟩, true, ds⟩ :: r) σ := by
  simp only [walkB, hg, if_true]
  exact ⟨hn, h⟩
theorem boCall {l : List DI} {Φ : Nat → Value → World → Prop} {w0 : World} {E : Sl → Prop} {n : Nat} {f : FuncId} {args : List Operand} {d : Option Nat} {g : Option (Nat × Bool)} {ds : List Nat} {r : List DI} {σ : Sl} {vs : List Value} (hg : gOk g σ = true) (ha : args.map (ev σ) = vs)
    (hn : ∀ w, Mod [] w0 w → known l Φ ds σ w → Calls P f vs.toArray w fun e w' => ∃ v, e = .returned v ∧ Mod [] w w' ∧ Φ n v w') (h : ∀ v, (∃ w, Φ n v w) → walkB P l Φ w0 E (n + 1) r (updo σ d v)) :
    walkB P l Φ w0 E n (⟨⟨d, .call f args, g⟩, true, ds⟩ :: r) σ := by
  subst ha
  exact boN hg (fun w hm hk => hn w hm hk) h
theorem known_get {l : List DI} {Φ : Nat → Value → World → Prop} {js : List Nat} {σ : Sl} {w : World} {j t : Nat} {d : DI} (h : known l Φ js σ w) (hj : j ∈ js) (hd : l[j]? = some d) (hn : d.node = true) (hg : gOk d.ri.guard σ = true) (ht : d.ri.dst = some t) : Φ j (σ t) w :=
  h j hj d hd hn hg t ht
theorem ret1 {t : Nat} {R : Ending → World → Prop} {σ : Sl} {w : World} {v : Value} (hv : σ t = v) (h : R (.returned v) w) : wpC P .ret (postC [.tmp t] R) σ w := by
  subst hv
  simp only [wpC, postC, rvals, List.mapM_cons, List.mapM_nil, RV.val, Option.bind_eq_bind, Option.bind_some, Option.pure_def, tup_one]
  exact h
theorem post1 {t : Nat} {R : Ending → World → Prop} {σ : Sl} {w : World} {v : Value} (hv : σ t = v) (h : R (.returned v) w) : postC [.tmp t] R .ret σ w := by
  subst hv
  simp only [postC, rvals, List.mapM_cons, List.mapM_nil, RV.val, Option.bind_eq_bind, Option.bind_some, Option.pure_def, tup_one]
  exact h
theorem retN {t n b : Nat} {R : Ending → World → Prop} {σ : Sl} {w : World} {cs : List Value} (ht : σ t = .pointer (some ⟨b, 0, none⟩)) (hb : Blk w b cs) (hn : cs.length = n) (h : R (.returned (.agg cs.toArray)) w) : wpC P .ret (postC [.cells t n] R) σ w := by
  have hc := cellsAt_of' hb.cells hn
  simp only [wpC, postC, rvals, List.mapM_cons, List.mapM_nil, RV.val, ht, hc, Option.map_some, Option.bind_eq_bind, Option.bind_some, Option.pure_def, tup_one]
  exact h
theorem wpR_mono {Q Q' : Sl → World → Prop} (hQ : ∀ σ w, Q σ w → Q' σ w) : ∀ (l : List RI) (σ : Sl) (w : World), wpR P l σ w Q → wpR P l σ w Q'
  | [], σ, w, h => hQ σ w h
  | i :: r, σ, w, h => by
    simp only [wpR, RI.wp] at h ⊢
    split at h
    · rename_i hg; rw [if_pos hg]; exact run_mono h fun v w' hk => wpR_mono hQ r _ _ hk
    · rename_i hg; rw [if_neg hg]; exact wpR_mono hQ r _ _ h
theorem walk_mono {l : List DI} {R : World → World → Prop} {Φ : Nat → Value → World → Prop} {N : Nat → World → Prop} {w0 : World} {E E' : Sl → Prop} (hE : ∀ σ, E σ → E' σ) : ∀ (r : List DI) (k : Nat) (σ : Sl),
    walk P l R Φ N w0 E k r σ → walk P l R Φ N w0 E' k r σ
  | [], _, σ, h => hE σ h
  | d :: r, k, σ, h => by
    simp only [walk] at h ⊢
    split at h
    · rename_i hg; rw [if_pos hg]
      split at h
      · rename_i hn; rw [if_pos hn]; exact ⟨h.1, fun v hv => walk_mono hE r _ _ (h.2 v hv)⟩
      · rename_i hn; rw [if_neg hn]; obtain ⟨v, h1, h2⟩ := h; exact ⟨v, h1, walk_mono hE r _ _ h2⟩
    · rename_i hg; rw [if_neg hg]; exact walk_mono hE r _ _ h
theorem wpD_mono {l : List DI} {s : List RI} {σ : Sl} {w : World} {Q Q' : Sl → World → Prop} (hQ : ∀ σ w, Q σ w → Q' σ w) (h : wpD P l s σ w Q) : wpD P l s σ w Q' := by
  obtain ⟨R, Φ, N, h1, h2, h3, h4, h5⟩ := h
  exact ⟨R, Φ, N, h1, h2, h3, h4, walk_mono (fun σ h w hr hk => wpR_mono hQ s σ w (h w hr hk)) _ _ _ h5⟩
theorem thenC_mono {N N' : Sl → World → Prop} {Q Q' : Exit → Sl → World → Prop} (hN : ∀ σ w, N σ w → N' σ w) (hQ : ∀ e σ w, Q e σ w → Q' e σ w) : ∀ e σ w, thenC N Q e σ w → thenC N' Q' e σ w := by
  intro e σ w h
  cases e with
  | normal => exact hN σ w h
  | _ => exact hQ _ σ w h
theorem wpC_mono {Q Q' : Exit → Sl → World → Prop} (hQ : ∀ e σ w, Q e σ w → Q' e σ w) {c : IC} {σ : Sl} {w : World} (h : wpC P c Q σ w) : wpC P c Q' σ w := by
  induction c generalizing Q Q' σ w with
  | skip => exact hQ _ _ _ h
  | ret => exact hQ _ _ _ h
  | blk l => exact wpR_mono (hQ .normal) l σ w h
  | drw l s => exact wpD_mono (hQ .normal) h
  | seq a b iha ihb => exact iha (thenC_mono (fun σ w h => ihb hQ h) hQ) h
  | cond c a b iha ihb =>
    simp only [wpC] at h ⊢
    split at h
    · exact iha hQ h
    · exact ihb hQ h
    · exact h.elim
  | block id a ih =>
    refine ih (fun e σ w h => ?_) h
    cases e with
    | exit i => simp only [inBlockC] at h ⊢; split at h <;> rename_i hi <;> simp only [hi, if_true, if_false] <;> exact hQ _ _ _ h
    | _ => exact hQ _ _ _ h
  | loop a ih =>
    obtain ⟨I, μ, h0, h1⟩ := h
    exact ⟨I, μ, h0, fun σ w hi => ih (thenC_mono (fun _ _ h => h) hQ) (h1 σ w hi)⟩
  | exit id => exact hQ _ _ _ h
  | goto l => exact hQ _ _ _ h
  | scope a ih =>
    refine ih (fun e σ w h => ?_) h
    cases e with
    | goto l => exact h.elim
    | _ => exact hQ _ _ _ h
  | scopeTo a l r iha ihr =>
    refine iha (fun e σ w h => ?_) h
    cases e with
    | goto l' => exact ⟨h.1, ihr (fun e σ w h => by cases e with | goto l => exact h.elim | _ => exact hQ _ _ _ h) h.2⟩
    | _ => exact hQ _ _ _ h
  | rnd d1 d2 => exact fun c T => hQ _ _ _ (h c T)
  | bad => exact h
theorem retThen {N : Sl → World → Prop} {Q : Exit → Sl → World → Prop} {σ : Sl} {w : World} (h : wpC P .ret Q σ w) : wpC P .ret (thenC N Q) σ w := h
theorem retBlk {id : Nat} {Q : Exit → Sl → World → Prop} {σ : Sl} {w : World} (h : wpC P .ret Q σ w) : wpC P .ret (inBlockC id Q) σ w := h
def rngP (bid bid1 c nx j : Nat) (I : Nat → Sl → World → Prop) (Q : Exit → Sl → World → Prop) : Exit → Sl → World → Prop
  | .normal, σ, w => σ c = .int .i64 (j : Nat) ∧ I (j + 1) (upd (upd σ nx (.int .i64 ((j + 1 : Nat) : Int))) c (.int .i64 ((j + 1 : Nat) : Int))) w
  | .exit i, σ, w => if i = bid1 then σ c = .int .i64 (j : Nat) ∧ I (j + 1) (upd (upd σ nx (.int .i64 ((j + 1 : Nat) : Int))) c (.int .i64 ((j + 1 : Nat) : Int))) w else if i = bid then Q .normal σ w else Q (.exit i) σ w
  | e, σ, w => Q e σ w
theorem i64_nat {n : Nat} (h : n < 9223372036854775808) : IntKind.i64.wrap (n : Int) = n := by
  simp only [IntKind.wrap, IntKind.bits, IntKind.signed]
  simp
  omega
theorem retRng {bid bid1 c nx j : Nat} {I : Nat → Sl → World → Prop} {Q : Exit → Sl → World → Prop} {σ : Sl} {w : World} (h : wpC P .ret Q σ w) : wpC P .ret (rngP bid bid1 c nx j I Q) σ w := h
theorem rangeLoop {c nl nx b bid bid1 n : Nat} {body : IC} {Q : Exit → Sl → World → Prop} {σ : Sl} {w : World} (I : Nat → Sl → World → Prop) (hn : n < 9223372036854775807) (_hne : bid ≠ bid1)
    (hI : ∀ j σ w, I j σ w → σ c = .int .i64 (j : Nat) ∧ σ nl = .int .i64 (n : Nat)) (h0 : I 0 σ w)
    (hstep : ∀ j σ w, j < n → I j σ w → wpC P body (rngP bid bid1 c nx j I Q) (upd σ b (.bool true)) w)
    (hend : ∀ σ w, I n σ w → Q .normal (upd σ b (.bool false)) w) :
    wpC P (.block bid (.loop (.seq (.blk [⟨some b, .bin .lss (.tmp c) (.tmp nl), none⟩]) (.seq (.cond (.tmp b) .skip (.exit bid)) (.seq (.block bid1 body) (.blk [⟨some nx, .bin .add (.tmp c) (.const (.int .i64 1)), none⟩, ⟨some c, .mv (.tmp nx), none⟩])))))) Q σ w := by
  rw [wpC_block, wpC_loop]
  refine ⟨fun σ w => ∃ j, j ≤ n ∧ I j σ w, fun σ _ => n - (match σ c with | .int _ j => j.toNat | _ => 0), ⟨0, Nat.zero_le _, h0⟩, ?_⟩
  rintro σ w ⟨j, hj, hi⟩
  obtain ⟨ec, el⟩ := hI j σ w hi
  rw [wpC_seq, wpC_blk]
  refine go1 (v := .bool (decide ((j : Int) < n))) rfl (by simp [RK.val?, ev, ec, el, intBin]) ?_
  refine goEnd ?_
  simp only [thenC, updo]
  rw [wpC_seq]
  by_cases hlt : j < n
  · have e1 : decide ((j : Int) < n) = true := by simp [hlt]
    rw [e1, wpC_cond_t (by simp [ev, upd]), wpC_skip]
    simp only [thenC]
    rw [wpC_seq, wpC_block]
    refine wpC_mono ?_ (hstep j σ w hlt hi)
    have key : ∀ σ' w', (σ' c = .int .i64 (j : Nat) ∧ I (j + 1) (upd (upd σ' nx (.int .i64 ((j + 1 : Nat) : Int))) c (.int .i64 ((j + 1 : Nat) : Int))) w') →
        wpC P (.blk [⟨some nx, .bin .add (.tmp c) (.const (.int .i64 1)), none⟩, ⟨some c, .mv (.tmp nx), none⟩])
          (thenC (fun σ' w' => (∃ j, j ≤ n ∧ I j σ' w') ∧ (n - (match σ' c with | .int _ j => j.toNat | _ => 0)) < (n - (match σ c with | .int _ j => j.toNat | _ => 0))) (inBlockC bid Q)) σ' w' := by
      rintro σ' w' ⟨k1, k2⟩
      rw [wpC_blk]
      refine go1 (v := .int .i64 ((j + 1 : Nat) : Int)) rfl (by
        simp only [RK.val?, ev, k1, isShift, decide_true, Bool.or_true, if_true, intBin]
        rw [show (j : Int) + 1 = ((j + 1 : Nat) : Int) by omega, i64_nat (by omega)]) ?_
      refine go1 (v := .int .i64 ((j + 1 : Nat) : Int)) rfl (by simp [RK.val?, ev, updo, upd]) ?_
      refine goEnd ?_
      simp only [thenC, updo]
      refine ⟨⟨j + 1, by omega, k2⟩, ?_⟩
      simp only [upd_same, ec, Int.toNat_natCast]
      have : n - (j + 1) < n - j := by omega
      exact this
    intro e σ' w' he
    cases e with
    | normal => exact key σ' w' he
    | exit i =>
      simp only [rngP] at he
      simp only [inBlockC]
      split at he
      · rename_i e1; rw [if_pos e1]; exact key σ' w' he
      · rename_i e1
        rw [if_neg e1]
        simp only [thenC, inBlockC]
        exact he
    | _ => exact he
  · have e1 : decide ((j : Int) < n) = false := by simp; omega
    have : j = n := by omega
    subst this
    rw [e1, wpC_cond_f (by simp [ev, upd])]
    simp only [wpC, thenC, inBlockC, if_true]
    exact hend σ w hi
end
end Go.Msk

namespace Go.Msk
open Go.RowKit
set_option maxRecDepth 100000
theorem tab8_get {m : Nat} (h : m < 256) : ∃ b : UInt8, tab8.data.toList[m]? = some b ∧ b.toNat = t8 m := by
  have hl : tab8.data.toList.length = 256 := by decide +kernel
  refine ⟨tab8.data.toList[m]'(by omega), List.getElem?_eq_getElem _, ?_⟩
  unfold t8
  rw [List.getD_eq_getElem?_getD, List.getElem?_eq_getElem (by omega)]; rfl
theorem tabU_get {m : Nat} (h : m < 256) : ∃ b : UInt8, tabU.data.toList[m]? = some b ∧ b.toNat = tU m := by
  have hl : tabU.data.toList.length = 256 := by decide +kernel
  refine ⟨tabU.data.toList[m]'(by omega), List.getElem?_eq_getElem _, ?_⟩
  unfold tU
  rw [List.getD_eq_getElem?_getD, List.getElem?_eq_getElem (by omega)]; rfl
theorem t8_le {m : Nat} (h : m < 256) : t8 m ≤ 8 := by
  have key : ((List.range 256).all fun m => decide (t8 m ≤ 8)) = true := by decide +kernel
  rw [List.all_eq_true] at key
  simpa using key m (List.mem_range.2 h)
theorem bl_le {n : Nat} (h : n < 4294967296) : bl n ≤ 32 := by
  unfold bl
  repeat' split
  · have := t8_le (m := n / 16777216) (by omega); omega
  · have := t8_le (m := n / 65536) (by omega); omega
  · have := t8_le (m := n / 256) (by omega); omega
  · have := t8_le (m := n) (by omega); omega
theorem uvE_5 {n : Nat} (h : 268435456 ≤ n) (h2 : n < 34359738368) : uvE n = [UInt8.ofNat (n % 128 + 128), UInt8.ofNat (n / 2 ^ 7 % 128 + 128), UInt8.ofNat (n / 2 ^ 14 % 128 + 128), UInt8.ofNat (n / 2 ^ 21 % 128 + 128), UInt8.ofNat (n / 2 ^ 28)] := by
  have e1 : n / 128 / 128 = n / 2 ^ 14 := by rw [Nat.div_div_eq_div_mul]
  have e2 : n / 128 / 128 / 128 = n / 2 ^ 21 := by rw [Nat.div_div_eq_div_mul, Nat.div_div_eq_div_mul]
  have e3 : n / 128 / 128 / 128 / 128 = n / 2 ^ 28 := by rw [Nat.div_div_eq_div_mul, Nat.div_div_eq_div_mul, Nat.div_div_eq_div_mul]
  rw [uvE_big (by omega), uvE_big (by omega), uvE_big (by omega), uvE_big (by omega), uvE_small (by omega), e3, e2, e1]
theorem uvE_4 {n : Nat} (h : 2097152 ≤ n) (h2 : n < 268435456) : uvE n = [UInt8.ofNat (n % 128 + 128), UInt8.ofNat (n / 2 ^ 7 % 128 + 128), UInt8.ofNat (n / 2 ^ 14 % 128 + 128), UInt8.ofNat (n / 2 ^ 21)] := by
  have e1 : n / 128 / 128 = n / 2 ^ 14 := by rw [Nat.div_div_eq_div_mul]
  have e2 : n / 128 / 128 / 128 = n / 2 ^ 21 := by rw [Nat.div_div_eq_div_mul, Nat.div_div_eq_div_mul]
  rw [uvE_big (by omega), uvE_big (by omega), uvE_big (by omega), uvE_small (by omega), e2, e1]
theorem uvE_3 {n : Nat} (h : 16384 ≤ n) (h2 : n < 2097152) : uvE n = [UInt8.ofNat (n % 128 + 128), UInt8.ofNat (n / 2 ^ 7 % 128 + 128), UInt8.ofNat (n / 2 ^ 14)] := by
  have e1 : n / 128 / 128 = n / 2 ^ 14 := by rw [Nat.div_div_eq_div_mul]
  rw [uvE_big (by omega), uvE_big (by omega), uvE_small (by omega), e1]
theorem uvE_2 {n : Nat} (h : 128 ≤ n) (h2 : n < 16384) : uvE n = [UInt8.ofNat (n % 128 + 128), UInt8.ofNat (n / 2 ^ 7)] := by
  rw [uvE_big (by omega), uvE_small (by omega)]
section
variable {P : Program} {F : Nat → Nat}
attribute [local simp] gOk updo upd ev RK.val? isShift intBin Addr.add_mk args0 Value.cells undef
theorem appN {x d1 d2 n n0 : Nat} {l : List (Nat × Nat × Operand)} {bs k : List UInt8} {w : World} {σ : Sl} {v : Value} {r : List RI} {Q : Sl → World → Prop} (hx : σ x = v) (hne : x ≠ d1) (hd : DRaw w n0 v k) (hn0 : n0 ≤ w.heap.size)
    (hf : fillL (zrep n [.int .u8 0]) (l.map fun (o, k, x) => (o, k, ev σ x)) = some (u8s bs)) (hn : bs.length = n) (hl : k.length + bs.length ≤ lim) (hQ : ∀ u w' v', AppD n0 w v w' v' (k ++ bs) → wpR P r (upd (upd σ d1 u) d2 v') w' Q) :
    wpR P (⟨some d1, .bslice n [.int .u8 0] l, none⟩ :: ⟨some d2, .append (.tmp x) (.tmp d1) 1 1, none⟩ :: r) σ w Q := by
  refine goC rfl ?_
  refine bsliceB_run hf hn fun u w1 hs hm1 => ?_
  refine goC rfl ?_
  refine append_run (n0 := n0) (v := v) (by simp only [ev, updo, upd, hne, if_false, hx]) (hd.mod hm1 (by simp)) (Nat.le_trans hn0 hm1.size) (k := bs) (by simpa using hs) hl fun v' w2 ha => ?_
  exact hQ u w2 v' (ha.pre hm1)
theorem len32_call (hm : P.follows .mixedOrders = true) (h : liftF P (F bLen32) = some (ir_bLen32 F)) {w : World} {n : Nat} (hn : n < 4294967296) :
    Calls P (F bLen32) [.int .u32 (n : Nat)].toArray w fun e w' => e = .returned (.int .i64 (bl n : Nat)) ∧ w' = w := by
  unfold ir_bLen32 at h
  refine call_of h hm (by simp) ?_
  clear h
  rw [wpC_seq, wpC_blk]
  refine go1 rfl rfl (wpR_done ?_)
  have fin : ∀ (σ : Sl) (b m : Nat), m < 256 → b ≤ 24 → σ 2 = .int .i64 (b : Nat) → σ 0 = .int .u32 (m : Nat) → b + t8 m = bl n →
      wpC P (.seq (.blk [⟨(some (13)), .mv (.tmp 2), none⟩, ⟨(some (14)), .mv (.tmp 0), none⟩, ⟨(some (15)), .conv .u8 (.tmp 14), none⟩, ⟨(some (16)), .idx (.const (.string tab8)) (.tmp 15), none⟩,
      ⟨(some (17)), .conv .i64 (.tmp 16), none⟩, ⟨(some (18)), .bin .add (.tmp 13) (.tmp 17), none⟩, ⟨(some (2)), .mv (.tmp 18), none⟩]) (.ret)) (postC [.tmp 2] fun e w' => e = .returned (.int .i64 (bl n : Nat)) ∧ w' = w) σ w := by
    intro σ b m hm1 hb h2 h0 he
    obtain ⟨t, ht1, ht2⟩ := tab8_get hm1
    have hle := t8_le hm1
    rw [wpC_seq, wpC_blk]
    refine go1 (v := .int .i64 (b : Nat)) rfl (by simp [h2]) ?_
    refine go1 (v := .int .u32 (m : Nat)) rfl (by simp [h0]) ?_
    refine go1 (v := .int .u8 (m : Nat)) rfl (by simp; rw [wrap_nat .u8 rfl m (by show m < 2 ^ 8; omega)]) ?_
    refine go1 (v := .int .u8 (t8 m : Nat)) rfl (by simp [ht1, ht2]) ?_
    refine go1 (v := .int .i64 (t8 m : Nat)) rfl (by simp [i64_nat (n := t8 m) (by omega)]) ?_
    refine go1 (v := .int .i64 (bl n : Nat)) rfl (by
      simp only [RK.val?, ev, updo, upd, if_true, if_false, show (13 : Nat) ≠ 17 by decide, show (13 : Nat) ≠ 16 by decide, show (13 : Nat) ≠ 15 by decide, show (13 : Nat) ≠ 14 by decide, isShift, decide_true, Bool.or_true, intBin]
      rw [show (b : Int) + (t8 m : Nat) = ((b + t8 m : Nat) : Int) by omega, i64_nat (by omega), he]) ?_
    exact go1 (v := .int .i64 (bl n : Nat)) rfl (by simp) (wpR_done (ret1 (by simp) ⟨rfl, rfl⟩))
  have mid : ∀ (σ : Sl) (b m : Nat), m < 65536 → b ≤ 16 → σ 2 = .int .i64 (b : Nat) → σ 0 = .int .u32 (m : Nat) → (if 256 ≤ m then b + 8 + t8 (m / 256) else b + t8 m) = bl n →
      wpC P (.seq (.seq (.blk [⟨(some (7)), .mv (.tmp 0), none⟩, ⟨(some (8)), .bin .geq (.tmp 7) (.const (.int .u32 256)), none⟩])
    (.cond (.tmp 8) (.seq (.blk [⟨(some (9)), .mv (.tmp 0), none⟩, ⟨(some (10)), .bin .shr (.tmp 9) (.const (.int .u64 8)), none⟩, ⟨(some (0)), .mv (.tmp 10), none⟩])
      (.blk [⟨(some (11)), .mv (.tmp 2), none⟩, ⟨(some (12)), .bin .add (.tmp 11) (.const (.int .i64 8)), none⟩, ⟨(some (2)), .mv (.tmp 12), none⟩])) (.skip)))
    (.seq (.blk [⟨(some (13)), .mv (.tmp 2), none⟩, ⟨(some (14)), .mv (.tmp 0), none⟩, ⟨(some (15)), .conv .u8 (.tmp 14), none⟩, ⟨(some (16)), .idx (.const (.string tab8)) (.tmp 15), none⟩,
      ⟨(some (17)), .conv .i64 (.tmp 16), none⟩, ⟨(some (18)), .bin .add (.tmp 13) (.tmp 17), none⟩, ⟨(some (2)), .mv (.tmp 18), none⟩]) (.ret))) (postC [.tmp 2] fun e w' => e = .returned (.int .i64 (bl n : Nat)) ∧ w' = w) σ w := by
    intro σ b m hm1 hb h2 h0 he
    rw [wpC_seq, wpC_seq, wpC_blk]
    refine go1 (v := .int .u32 (m : Nat)) rfl (by simp [h0]) ?_
    refine go1 (v := .bool (decide ((m : Int) ≥ 256))) rfl (by simp) (wpR_done ?_)
    by_cases hh : 256 ≤ m
    · rw [wpC_cond_t (by simp; omega), wpC_seq, wpC_blk]
      refine go1 (v := .int .u32 (m : Nat)) rfl (by simp [h0]) ?_
      refine go1 (v := .int .u32 ((m / 256 : Nat) : Int)) rfl (by
        have := shr_u32 m 8 (by omega)
        simp only [RK.val?, ev, updo, upd, if_true, isShift, Bool.true_or]
        simpa using this) ?_
      refine go1 (v := .int .u32 ((m / 256 : Nat) : Int)) rfl (by simp) (wpR_done ?_)
      rw [wpC_blk]
      refine go1 (v := .int .i64 (b : Nat)) rfl (by simp [h2]) ?_
      refine go1 (v := .int .i64 ((b + 8 : Nat) : Int)) rfl (by
        simp only [RK.val?, ev, updo, upd, if_true, isShift, decide_true, Bool.or_true, intBin]
        rw [show (b : Int) + 8 = ((b + 8 : Nat) : Int) by omega, i64_nat (by omega)]) ?_
      refine go1 (v := .int .i64 ((b + 8 : Nat) : Int)) rfl (by simp) (wpR_done ?_)
      rw [if_pos hh] at he
      exact fin _ (b + 8) (m / 256) (by omega) (by omega) (by simp) (by simp) he
    · rw [wpC_cond_f (by simp; omega), wpC_skip]
      simp only [thenC]
      rw [if_neg hh] at he
      exact fin _ b m (by omega) (by omega) (by simp [h2]) (by simp [h0]) he
  rw [wpC_seq, wpC_seq, wpC_blk]
  refine go1 (v := .int .u32 (n : Nat)) rfl (by simp) ?_
  refine go1 (v := .bool (decide ((n : Int) ≥ 65536))) rfl (by simp) (wpR_done ?_)
  by_cases hh : 65536 ≤ n
  · rw [wpC_cond_t (by simp; omega), wpC_seq, wpC_blk]
    refine go1 (v := .int .u32 (n : Nat)) rfl (by simp) ?_
    refine go1 (v := .int .u32 ((n / 65536 : Nat) : Int)) rfl (by
      have := shr_u32 n 16 (by omega)
      simp only [RK.val?, ev, updo, upd, if_true, isShift, Bool.true_or]
      simpa using this) ?_
    refine go1 (v := .int .u32 ((n / 65536 : Nat) : Int)) rfl (by simp) (wpR_done ?_)
    rw [wpC_blk]
    refine go1 (v := .int .i64 16) rfl (by simp) (wpR_done ?_)
    refine mid _ 16 (n / 65536) (by omega) (by omega) (by simp) (by simp) ?_
    unfold bl
    rw [if_pos hh, Nat.div_div_eq_div_mul]
  · rw [wpC_cond_f (by simp; omega), wpC_skip]
    simp only [thenC]
    refine mid _ 0 n (by omega) (by omega) (by simp) (by simp) ?_
    unfold bl
    rw [if_neg hh]; simp
theorem uvarintLen_call (hm : P.follows .mixedOrders = true) (h : liftF P (F kUvarintLen) = some (ir_kUvarintLen F)) (hb : liftF P (F bLen32) = some (ir_bLen32 F)) {w : World} {n : Nat} (hn : n < 4294967296) :
    Calls P (F kUvarintLen) [.int .u32 (n : Nat)].toArray w fun e w' => e = .returned (.int .i64 (lenU n : Nat)) ∧ w' = w := by
  unfold ir_kUvarintLen at h
  refine call_of h hm (by simp) ?_
  clear h
  have hle := bl_le hn
  obtain ⟨t, ht1, ht2⟩ := tabU_get (m := bl n) (by omega)
  rw [tU_bl hn] at ht2
  have hle5 : lenU n ≤ 5 := by unfold lenU; repeat' split
                               all_goals omega
  rw [wpC_seq, wpC_blk]
  refine go1 rfl rfl (wpR_done ?_)
  rw [wpC_seq, wpC_blk]
  refine go1 (v := .int .u32 (n : Nat)) rfl (by simp) ?_
  refine goCall rfl (vs := [.int .u32 (n : Nat)]) (by simp) (len32_call hm hb hn) ?_
  rintro e w' ⟨rfl, ew⟩
  rw [ew]
  refine ⟨_, rfl, ?_⟩
  refine go1 (v := .int .u8 (bl n : Nat)) rfl (by simp; rw [wrap_nat .u8 rfl (bl n) (by show bl n < 2 ^ 8; omega)]) ?_
  refine go1 (v := .int .u8 (lenU n : Nat)) rfl (by simp [ht1, ht2]) ?_
  refine go1 (v := .int .i64 (lenU n : Nat)) rfl (by simp [i64_nat (n := lenU n) (by omega)]) ?_
  exact go1 (v := .int .i64 (lenU n : Nat)) rfl (by simp) (wpR_done (ret1 (by simp) ⟨rfl, rfl⟩))
theorem kAppendUvarint_call (hm : P.follows .mixedOrders = true) (h : liftF P (F kAppendUvarint) = some (ir_kAppendUvarint F)) (hl : liftF P (F kUvarintLen) = some (ir_kUvarintLen F)) (hb : liftF P (F bLen32) = some (ir_bLen32 F)) {n : Nat} (hn : n < 4294967296) :
    AppC P (F kAppendUvarint) (fun _ v => v = .int .u32 (n : Nat)) (uvE n) := by
  intro n0 w dv v l hd hn0 hlen hv
  subst hv
  unfold ir_kAppendUvarint at h
  refine call_of h hm (by simp) ?_
  clear h
  have e5 := uvE_length hn
  rw [wpC_seq, wpC_blk]
  refine go1 rfl rfl (wpR_done ?_)
  rw [wpC_seq, wpC_seq, wpC_blk]
  refine go1 (v := .int .u32 (n : Nat)) rfl (by simp) ?_
  refine goCall rfl (vs := [.int .u32 (n : Nat)]) (by simp) (uvarintLen_call hm hl hb hn) ?_
  rintro e w' ⟨rfl, ew⟩
  rw [ew]
  refine ⟨_, rfl, wpR_done ?_⟩
  rw [wpC_block, wpC_seq, wpC_blk]
  refine go1 (v := .bool (decide (lenU n = 5))) rfl (by simp; by_cases e : lenU n = 5 <;> simp [e]; omega) ?_
  refine go1 (v := .bool (decide (lenU n = 5))) rfl (by simp) (wpR_done ?_)
  by_cases k5 : lenU n = 5
  · rw [wpC_cond_t (by simp [k5]), wpC_seq, wpC_blk]
    have hr : 268435456 ≤ n := by unfold lenU at k5; repeat' split at k5
                                  all_goals omega
    rw [uvE_5 hr (by omega)] at hlen ⊢
    refine go1 (v := dv) rfl (by simp) ?_
    refine grpF (n := n) (by simp) hn (by omega) fun σ1 a1 b1 => ?_
    refine grpS (n := n) (k := 7) (by rw [a1 1 (by omega)]; simp) hn (by omega) (by omega) fun σ2 a2 b2 => ?_
    refine grpS (n := n) (k := 14) (by rw [a2 1 (by omega), a1 1 (by omega)]; simp) hn (by omega) (by omega) fun σ3 a3 b3 => ?_
    refine grpS (n := n) (k := 21) (by rw [a3 1 (by omega), a2 1 (by omega), a1 1 (by omega)]; simp) hn (by omega) (by omega) fun σ4 a4 b4 => ?_
    refine grpL (n := n) (k := 28) (by rw [a4 1 (by omega), a3 1 (by omega), a2 1 (by omega), a1 1 (by omega)]; simp) (by omega) (by omega) (by omega) fun σ5 a5 b5 => ?_
    refine appN (v := dv) (bs := [UInt8.ofNat (n % 128 + 128), UInt8.ofNat (n / 2 ^ 7 % 128 + 128), UInt8.ofNat (n / 2 ^ 14 % 128 + 128), UInt8.ofNat (n / 2 ^ 21 % 128 + 128), UInt8.ofNat (n / 2 ^ 28)]) (by rw [a5 9 (by omega), a4 9 (by omega), a3 9 (by omega), a2 9 (by omega), a1 9 (by omega)]; simp) (by omega) hd hn0 (by
      have c1 : σ5 13 = .int .u8 ((UInt8.ofNat (n % 128 + 128)).toNat : Int) := by rw [a5 13 (by omega), a4 13 (by omega), a3 13 (by omega), a2 13 (by omega)]; exact b1
      have c2 : σ5 18 = .int .u8 ((UInt8.ofNat (n / 2 ^ 7 % 128 + 128)).toNat : Int) := by rw [a5 18 (by omega), a4 18 (by omega), a3 18 (by omega)]; exact b2
      have c3 : σ5 23 = .int .u8 ((UInt8.ofNat (n / 2 ^ 14 % 128 + 128)).toNat : Int) := by rw [a5 23 (by omega), a4 23 (by omega)]; exact b3
      have c4 : σ5 28 = .int .u8 ((UInt8.ofNat (n / 2 ^ 21 % 128 + 128)).toNat : Int) := by rw [a5 28 (by omega)]; exact b4
      have c5 : σ5 31 = .int .u8 ((UInt8.ofNat (n / 2 ^ 28)).toNat : Int) := b5
      simp only [List.map_cons, List.map_nil, ev, c1, c2, c3, c4, c5]; rfl) rfl (by simpa using hlen) fun u w2 v' ha => ?_
    refine go1 (v := v') rfl (by simp) (wpR_done ?_)
    repeat first | refine retThen ?_ | refine retBlk ?_
    exact ret1 (v := v') (by simp) ⟨v', rfl, ha⟩
  · rw [wpC_cond_f (by simp [k5]), wpC_seq, wpC_blk]
    refine go1 (v := .bool (decide (lenU n = 4))) rfl (by simp; by_cases e : lenU n = 4 <;> simp [e]; omega) ?_
    refine go1 (v := .bool (decide (lenU n = 4))) rfl (by simp) (wpR_done ?_)
    by_cases k4 : lenU n = 4
    · rw [wpC_cond_t (by simp [k4]), wpC_seq, wpC_blk]
      have hr : 2097152 ≤ n ∧ n < 268435456 := by unfold lenU at k4; repeat' split at k4
                                                  all_goals omega
      rw [uvE_4 hr.1 hr.2] at hlen ⊢
      refine go1 (v := dv) rfl (by simp) ?_
      refine grpF (n := n) (by simp) hn (by omega) fun σ1 a1 b1 => ?_
      refine grpS (n := n) (k := 7) (by rw [a1 1 (by omega)]; simp) hn (by omega) (by omega) fun σ2 a2 b2 => ?_
      refine grpS (n := n) (k := 14) (by rw [a2 1 (by omega), a1 1 (by omega)]; simp) hn (by omega) (by omega) fun σ3 a3 b3 => ?_
      refine grpL (n := n) (k := 21) (by rw [a3 1 (by omega), a2 1 (by omega), a1 1 (by omega)]; simp) (by omega) (by omega) (by omega) fun σ5 a5 b5 => ?_
      refine appN (v := dv) (bs := [UInt8.ofNat (n % 128 + 128), UInt8.ofNat (n / 2 ^ 7 % 128 + 128), UInt8.ofNat (n / 2 ^ 14 % 128 + 128), UInt8.ofNat (n / 2 ^ 21)]) (by rw [a5 36 (by omega), a3 36 (by omega), a2 36 (by omega), a1 36 (by omega)]; simp) (by omega) hd hn0 (by
        have c1 : σ5 40 = .int .u8 ((UInt8.ofNat (n % 128 + 128)).toNat : Int) := by rw [a5 40 (by omega), a3 40 (by omega), a2 40 (by omega)]; exact b1
        have c2 : σ5 45 = .int .u8 ((UInt8.ofNat (n / 2 ^ 7 % 128 + 128)).toNat : Int) := by rw [a5 45 (by omega), a3 45 (by omega)]; exact b2
        have c3 : σ5 50 = .int .u8 ((UInt8.ofNat (n / 2 ^ 14 % 128 + 128)).toNat : Int) := by rw [a5 50 (by omega)]; exact b3
        have c5 : σ5 53 = .int .u8 ((UInt8.ofNat (n / 2 ^ 21)).toNat : Int) := b5
        simp only [List.map_cons, List.map_nil, ev, c1, c2, c3, c5]; rfl) rfl (by simpa using hlen) fun u w2 v' ha => ?_
      refine go1 (v := v') rfl (by simp) (wpR_done ?_)
      repeat first | refine retThen ?_ | refine retBlk ?_
      exact ret1 (v := v') (by simp) ⟨v', rfl, ha⟩
    · rw [wpC_cond_f (by simp [k4]), wpC_seq, wpC_blk]
      refine go1 (v := .bool (decide (lenU n = 3))) rfl (by simp; by_cases e : lenU n = 3 <;> simp [e]; omega) ?_
      refine go1 (v := .bool (decide (lenU n = 3))) rfl (by simp) (wpR_done ?_)
      by_cases k3 : lenU n = 3
      · rw [wpC_cond_t (by simp [k3]), wpC_seq, wpC_blk]
        have hr : 16384 ≤ n ∧ n < 2097152 := by unfold lenU at k3; repeat' split at k3
                                                all_goals omega
        rw [uvE_3 hr.1 hr.2] at hlen ⊢
        refine go1 (v := dv) rfl (by simp) ?_
        refine grpF (n := n) (by simp) hn (by omega) fun σ1 a1 b1 => ?_
        refine grpS (n := n) (k := 7) (by rw [a1 1 (by omega)]; simp) hn (by omega) (by omega) fun σ2 a2 b2 => ?_
        refine grpL (n := n) (k := 14) (by rw [a2 1 (by omega), a1 1 (by omega)]; simp) (by omega) (by omega) (by omega) fun σ5 a5 b5 => ?_
        refine appN (v := dv) (bs := [UInt8.ofNat (n % 128 + 128), UInt8.ofNat (n / 2 ^ 7 % 128 + 128), UInt8.ofNat (n / 2 ^ 14)]) (by rw [a5 58 (by omega), a2 58 (by omega), a1 58 (by omega)]; simp) (by omega) hd hn0 (by
          have c1 : σ5 62 = .int .u8 ((UInt8.ofNat (n % 128 + 128)).toNat : Int) := by rw [a5 62 (by omega), a2 62 (by omega)]; exact b1
          have c2 : σ5 67 = .int .u8 ((UInt8.ofNat (n / 2 ^ 7 % 128 + 128)).toNat : Int) := by rw [a5 67 (by omega)]; exact b2
          have c5 : σ5 70 = .int .u8 ((UInt8.ofNat (n / 2 ^ 14)).toNat : Int) := b5
          simp only [List.map_cons, List.map_nil, ev, c1, c2, c5]; rfl) rfl (by simpa using hlen) fun u w2 v' ha => ?_
        refine go1 (v := v') rfl (by simp) (wpR_done ?_)
        repeat first | refine retThen ?_ | refine retBlk ?_
        exact ret1 (v := v') (by simp) ⟨v', rfl, ha⟩
      · rw [wpC_cond_f (by simp [k3]), wpC_seq, wpC_blk]
        refine go1 (v := .bool (decide (lenU n = 2))) rfl (by simp; by_cases e : lenU n = 2 <;> simp [e]; omega) ?_
        refine go1 (v := .bool (decide (lenU n = 2))) rfl (by simp) (wpR_done ?_)
        by_cases k2 : lenU n = 2
        · rw [wpC_cond_t (by simp [k2]), wpC_seq, wpC_blk]
          have hr : 128 ≤ n ∧ n < 16384 := by unfold lenU at k2; repeat' split at k2
                                              all_goals omega
          rw [uvE_2 hr.1 hr.2] at hlen ⊢
          refine go1 (v := dv) rfl (by simp) ?_
          refine grpF (n := n) (by simp) hn (by omega) fun σ1 a1 b1 => ?_
          refine grpL (n := n) (k := 7) (by rw [a1 1 (by omega)]; simp) (by omega) (by omega) (by omega) fun σ5 a5 b5 => ?_
          refine appN (v := dv) (bs := [UInt8.ofNat (n % 128 + 128), UInt8.ofNat (n / 2 ^ 7)]) (by rw [a5 75 (by omega), a1 75 (by omega)]; simp) (by omega) hd hn0 (by
            have c1 : σ5 79 = .int .u8 ((UInt8.ofNat (n % 128 + 128)).toNat : Int) := by rw [a5 79 (by omega)]; exact b1
            have c5 : σ5 82 = .int .u8 ((UInt8.ofNat (n / 2 ^ 7)).toNat : Int) := b5
            simp only [List.map_cons, List.map_nil, ev, c1, c5]; rfl) rfl (by simpa using hlen) fun u w2 v' ha => ?_
          refine go1 (v := v') rfl (by simp) (wpR_done ?_)
          repeat first | refine retThen ?_ | refine retBlk ?_
          exact ret1 (v := v') (by simp) ⟨v', rfl, ha⟩
        · have k1 : lenU n = 1 := by unfold lenU at k5 k4 k3 k2 ⊢; repeat' split at *
                                     all_goals omega
          have hr : n < 128 := by unfold lenU at k1; repeat' split at k1
                                  all_goals omega
          rw [wpC_cond_f (by simp [k2]), wpC_seq, wpC_blk]
          refine go1 (v := .bool true) rfl (by simp [k1]) ?_
          refine go1 (v := .bool true) rfl (by simp) (wpR_done ?_)
          rw [wpC_cond_t (by simp), wpC_seq, wpC_blk]
          rw [uvE_small hr] at hlen ⊢
          refine go1 (v := dv) rfl (by simp) ?_
          refine go1 (v := .int .u32 (n : Nat)) rfl (by simp) ?_
          refine go1 (v := .int .u8 ((UInt8.ofNat n).toNat : Int)) rfl (by
            simp only [RK.val?, ev, updo, upd, if_true]
            rw [u8_conv (by omega)]) ?_
          refine appN (v := dv) (bs := [UInt8.ofNat n]) (by simp) (by omega) hd hn0 (by simp only [List.map_cons, List.map_nil, ev, updo, upd, if_true]; rfl) rfl (by simpa using hlen) fun u w2 v' ha => ?_
          refine go1 (v := v') rfl (by simp) (wpR_done ?_)
          repeat first | refine retThen ?_ | refine retBlk ?_
          exact ret1 (v := v') (by simp) ⟨v', rfl, ha⟩
end
end Go.Msk

namespace Go.Msk
open Go.RowKit
set_option maxRecDepth 100000
def ir_sHas (_F : Nat → Nat) : IC × List RV × Nat := (.seq (.blk [⟨some 2, .box (.tmp 0), none⟩,
 ⟨some 4, .mv (.const (.bool false)), none⟩])
 (.seq (.blk [⟨some 5, .fad (.tmp 2) 1, none⟩,
 ⟨some 6, .ld (.tmp 5), none⟩,
 ⟨some 7, .mv (.tmp 1), none⟩,
 ⟨some 8, .bin .leq (.tmp 6) (.tmp 7), none⟩,
 ⟨some 9, .mv (.tmp 8), none⟩,
 ⟨some 10, .fad (.tmp 2) 2, some (9, true)⟩,
 ⟨some 11, .ld (.tmp 10), some (9, true)⟩,
 ⟨some 12, .bin .lss (.tmp 11) (.const (.int .i64 0)), some (9, true)⟩,
 ⟨some 13, .mv (.tmp 12), some (9, true)⟩,
 ⟨some 14, .mv (.tmp 1), some (13, false)⟩,
 ⟨some 15, .fad (.tmp 2) 2, some (13, false)⟩,
 ⟨some 16, .ld (.tmp 15), some (13, false)⟩,
 ⟨some 17, .bin .leq (.tmp 14) (.tmp 16), some (13, false)⟩,
 ⟨some 18, .pick (.tmp 13) (.const (.bool true)) (.tmp 17), some (9, true)⟩,
 ⟨some 19, .pick (.tmp 9) (.tmp 18) (.const (.bool false)), none⟩,
 ⟨some 4, .mv (.tmp 19), none⟩])
 (.ret)),
 [.tmp 4], 20)
def ir_sNull (_F : Nat → Nat) : IC × List RV × Nat := (.seq (.blk [⟨some 3, .box (.tmp 0), none⟩,
 ⟨some 5, .box (.tmp 2), none⟩,
 ⟨some 6, .mv (.const (.bool false)), none⟩])
 (.seq (.blk [⟨some 7, .fad (.tmp 5) 2, none⟩,
 ⟨some 8, .ld (.tmp 7), none⟩,
 ⟨some 9, .mv (.tmp 8), none⟩,
 ⟨some 10, .fad (.tmp 3) 3, some (9, true)⟩,
 ⟨some 11, .ld (.tmp 10), some (9, true)⟩,
 ⟨some 12, .bin .geq (.tmp 11) (.const (.int .i64 0)), some (9, true)⟩,
 ⟨some 13, .pick (.tmp 9) (.tmp 12) (.const (.bool false)), none⟩,
 ⟨some 14, .mv (.tmp 13), none⟩,
 ⟨some 15, .mv (.tmp 1), some (14, true)⟩,
 ⟨some 16, .fad (.tmp 3) 3, some (14, true)⟩,
 ⟨some 17, .ld (.tmp 16), some (14, true)⟩,
 ⟨some 18, .bin .geq (.tmp 15) (.tmp 17), some (14, true)⟩,
 ⟨some 19, .pick (.tmp 14) (.tmp 18) (.const (.bool false)), none⟩,
 ⟨some 6, .mv (.tmp 19), none⟩])
 (.ret)),
 [.tmp 6], 20)
def ir_sFlexible (_F : Nat → Nat) : IC × List RV × Nat := (.seq (.blk [⟨some 2, .box (.tmp 0), none⟩,
 ⟨some 4, .mv (.const (.bool false)), none⟩])
 (.seq (.blk [⟨some 5, .fad (.tmp 2) 1, none⟩,
 ⟨some 6, .ld (.tmp 5), none⟩,
 ⟨some 7, .bin .geq (.tmp 6) (.const (.int .i64 0)), none⟩,
 ⟨some 8, .mv (.tmp 7), none⟩,
 ⟨some 9, .mv (.tmp 1), some (8, true)⟩,
 ⟨some 10, .fad (.tmp 2) 1, some (8, true)⟩,
 ⟨some 11, .ld (.tmp 10), some (8, true)⟩,
 ⟨some 12, .bin .geq (.tmp 9) (.tmp 11), some (8, true)⟩,
 ⟨some 13, .pick (.tmp 8) (.tmp 12) (.const (.bool false)), none⟩,
 ⟨some 4, .mv (.tmp 13), none⟩])
 (.ret)),
 [.tmp 4], 14)
def ir_sWhole (_F : Nat → Nat) : IC × List RV × Nat := (.seq (.blk [⟨some 2, .mv (.const (.slice none 0 0)), none⟩])
 (.seq (.blk [⟨some 3, .mv (.tmp 0), none⟩,
 ⟨some 4, .mv (.tmp 0), none⟩,
 ⟨some 5, .len (.tmp 4), none⟩,
 ⟨some 6, .mm false (.tmp 5) (.const (.int .i64 32767)), none⟩,
 ⟨some 7, .slice (.tmp 3) none (some (.tmp 6)) none 1, none⟩,
 ⟨some 2, .mv (.tmp 7), none⟩])
 (.ret)),
 [.tmp 2], 8)
def ir_sThings (_F : Nat → Nat) : IC × List RV × Nat := (.seq (.blk [⟨some 2, .mv (.const (.slice none 0 0)), none⟩])
 (.seq (.blk [⟨some 3, .mv (.tmp 0), none⟩,
 ⟨some 4, .mv (.tmp 0), none⟩,
 ⟨some 5, .len (.tmp 4), none⟩,
 ⟨some 6, .mm false (.tmp 5) (.const (.int .i64 32767)), none⟩,
 ⟨some 7, .slice (.tmp 3) none (some (.tmp 6)) none 5, none⟩,
 ⟨some 2, .mv (.tmp 7), none⟩])
 (.ret)),
 [.tmp 2], 8)
def ir_sAt (_F : Nat → Nat) : IC × List RV × Nat := (.seq (.blk [⟨some 2, .box (.tmp 0), none⟩,
 ⟨some 4, .alloc [.int .i64 0, .slice none 0 0, .bool false, .slice none 0 0, .slice none 0 0], none⟩])
 (.seq (.seq (.blk [⟨some 5, .mv (.tmp 1), none⟩,
 ⟨some 6, .fad (.tmp 2) 3, none⟩,
 ⟨some 7, .ld (.tmp 6), none⟩,
 ⟨some 8, .len (.tmp 7), none⟩,
 ⟨some 9, .bin .lss (.tmp 5) (.tmp 8), none⟩])
 (.cond (.tmp 9)
 (.seq (.blk [⟨some 10, .fad (.tmp 2) 3, none⟩,
 ⟨some 11, .ld (.tmp 10), none⟩,
 ⟨some 12, .mv (.tmp 1), none⟩,
 ⟨some 13, .iad (.tmp 11) (.tmp 12) 5, none⟩,
 ⟨some 14, .ldn (.tmp 13) 5, none⟩,
 ⟨none, .st (.tmp 4) 5 (.tmp 14), none⟩])
 (.ret))
 (.skip)))
 (.seq (.blk [⟨some 15, .build [.int .i64 0, .slice none 0 0, .bool false, .slice none 0 0, .slice none 0 0] [], none⟩,
 ⟨none, .st (.tmp 4) 5 (.tmp 15), none⟩])
 (.ret))),
 [.cells 4 5], 16)
def ir_sUvarint (_F : Nat → Nat) : IC × List RV × Nat := (.seq (.blk [⟨some 2, .mv (.const (.slice none 0 0)), none⟩])
 (.seq (.blk [⟨some 3, .mv (.const (.slice none 0 0)), none⟩])
 (.seq (.block 0 (.loop (.seq (.seq (.blk [⟨some 4, .mv (.tmp 0), none⟩,
 ⟨some 5, .bin .gtr (.tmp 4) (.const (.int .u64 127)), none⟩])
 (.cond (.tmp 5)
 (.skip)
 (.exit 0)))
 (.block 1 (.seq (.blk [⟨some 6, .mv (.tmp 3), none⟩,
 ⟨some 7, .mv (.tmp 0), none⟩,
 ⟨some 8, .bin .and (.tmp 7) (.const (.int .u64 127)), none⟩,
 ⟨some 9, .conv .u8 (.tmp 8), none⟩,
 ⟨some 10, .bin .or (.tmp 9) (.const (.int .u8 128)), none⟩,
 ⟨some 11, .bslice 1 [.int .u8 0] [(0, 1, .tmp 10)], none⟩,
 ⟨some 12, .append (.tmp 6) (.tmp 11) 1 1, none⟩,
 ⟨some 3, .mv (.tmp 12), none⟩])
 (.blk [⟨some 13, .mv (.tmp 0), none⟩,
 ⟨some 14, .bin .shr (.tmp 13) (.const (.int .u64 7)), none⟩,
 ⟨some 0, .mv (.tmp 14), none⟩]))))))
 (.seq (.blk [⟨some 15, .mv (.tmp 3), none⟩,
 ⟨some 16, .mv (.tmp 0), none⟩,
 ⟨some 17, .conv .u8 (.tmp 16), none⟩,
 ⟨some 18, .bslice 1 [.int .u8 0] [(0, 1, .tmp 17)], none⟩,
 ⟨some 19, .append (.tmp 15) (.tmp 18) 1 1, none⟩,
 ⟨some 2, .mv (.tmp 19), none⟩])
 (.ret)))),
 [.tmp 2], 20)
def ir_sFixed (_F : Nat → Nat) : IC × List RV × Nat := (.seq (.blk [⟨some 4, .mv (.const (.slice none 0 0)), none⟩])
 (.seq (.blk [⟨some 5, .mv (.const (.slice none 0 0)), none⟩])
 (.seq (.seq (.blk [⟨some 7, .mv (.tmp 1), none⟩,
 ⟨some 8, .bin .sub (.tmp 7) (.const (.int .i64 1)), none⟩,
 ⟨some 6, .mv (.tmp 8), none⟩])
 (.block 0 (.loop (.seq (.seq (.blk [⟨some 9, .mv (.tmp 6), none⟩,
 ⟨some 10, .bin .geq (.tmp 9) (.const (.int .i64 0)), none⟩])
 (.cond (.tmp 10)
 (.skip)
 (.exit 0)))
 (.seq (.block 1 (.blk [⟨some 13, .mv (.tmp 5), none⟩,
 ⟨some 14, .mv (.tmp 0), none⟩,
 ⟨some 15, .mv (.tmp 6), none⟩,
 ⟨some 16, .bin .mul (.const (.int .i64 8)) (.tmp 15), none⟩,
 ⟨some 17, .bin .shr (.tmp 14) (.tmp 16), none⟩,
 ⟨some 18, .conv .u8 (.tmp 17), none⟩,
 ⟨some 19, .bslice 1 [.int .u8 0] [(0, 1, .tmp 18)], none⟩,
 ⟨some 20, .append (.tmp 13) (.tmp 19) 1 1, none⟩,
 ⟨some 5, .mv (.tmp 20), none⟩]))
 (.blk [⟨some 11, .mv (.tmp 6), none⟩,
 ⟨some 12, .bin .sub (.tmp 11) (.const (.int .i64 1)), none⟩,
 ⟨some 6, .mv (.tmp 12), none⟩]))))))
 (.seq (.blk [⟨some 21, .mv (.tmp 5), none⟩,
 ⟨some 4, .mv (.tmp 21), none⟩])
 (.ret)))),
 [.tmp 4], 22)
def ir_sWidth (_F : Nat → Nat) : IC × List RV × Nat := (.seq (.blk [⟨some 2, .mv (.const (.int .i64 0)), none⟩])
 (.seq (.seq (.blk [⟨some 3, .mv (.tmp 0), none⟩])
 (.block 0 (.seq (.blk [⟨some 5, .bin .eql (.tmp 3) (.const (.int .i64 1)), none⟩,
 ⟨some 4, .mv (.tmp 5), none⟩])
 (.cond (.tmp 4)
 (.seq (.blk [⟨some 2, .mv (.const (.int .i64 1)), none⟩])
 (.ret))
 (.seq (.seq (.blk [⟨some 7, .bin .eql (.tmp 3) (.const (.int .i64 2)), none⟩,
 ⟨some 6, .mv (.tmp 7), none⟩])
 (.cond (.tmp 6)
 (.skip)
 (.blk [⟨some 8, .bin .eql (.tmp 3) (.const (.int .i64 5)), none⟩,
 ⟨some 6, .mv (.tmp 8), none⟩])))
 (.cond (.tmp 6)
 (.seq (.blk [⟨some 2, .mv (.const (.int .i64 2)), none⟩])
 (.ret))
 (.seq (.blk [⟨some 10, .bin .eql (.tmp 3) (.const (.int .i64 3)), none⟩,
 ⟨some 9, .mv (.tmp 10), none⟩])
 (.cond (.tmp 9)
 (.seq (.blk [⟨some 2, .mv (.const (.int .i64 4)), none⟩])
 (.ret))
 (.skip)))))))))
 (.seq (.blk [⟨some 2, .mv (.const (.int .i64 8)), none⟩])
 (.ret))),
 [.tmp 2], 11)
def ir_sCounted (F : Nat → Nat) : IC × List RV × Nat := (.seq (.blk [⟨some 8, .mv (.const (.slice none 0 0)), none⟩])
 (.seq (.block 0 (.seq (.blk [⟨some 10, .mv (.tmp 0), none⟩,
 ⟨some 11, .mv (.tmp 10), none⟩,
 ⟨some 12, .mv (.tmp 1), some (11, true)⟩,
 ⟨some 13, .pick (.tmp 11) (.tmp 12) (.const (.bool false)), none⟩,
 ⟨some 9, .mv (.tmp 13), none⟩])
 (.cond (.tmp 9)
 (.seq (.blk [⟨some 14, .bslice 1 [.int .u8 0] [(0, 1, .const (.int .u8 0))], none⟩,
 ⟨some 8, .mv (.tmp 14), none⟩])
 (.ret))
 (.seq (.blk [⟨some 16, .mv (.tmp 0), none⟩,
 ⟨some 15, .mv (.tmp 16), none⟩])
 (.cond (.tmp 15)
 (.seq (.blk [⟨some 17, .mv (.tmp 2), none⟩,
 ⟨some 18, .conv .u64 (.tmp 17), none⟩,
 ⟨some 19, .bin .add (.tmp 18) (.const (.int .u64 1)), none⟩,
 ⟨some 20, .call (F sUvarint) [.tmp 19], none⟩,
 ⟨some 8, .mv (.tmp 20), none⟩])
 (.ret))
 (.seq (.blk [⟨some 22, .mv (.tmp 1), none⟩,
 ⟨some 21, .mv (.tmp 22), none⟩])
 (.cond (.tmp 21)
 (.seq (.blk [⟨some 23, .mv (.tmp 3), none⟩,
 ⟨some 24, .call (F sFixed) [.const (.int .i64 (-1)), .tmp 23], none⟩,
 ⟨some 8, .mv (.tmp 24), none⟩])
 (.ret))
 (.skip))))))))
 (.seq (.blk [⟨some 25, .mv (.tmp 2), none⟩,
 ⟨some 26, .mv (.tmp 3), none⟩,
 ⟨some 27, .call (F sFixed) [.tmp 25, .tmp 26], none⟩,
 ⟨some 8, .mv (.tmp 27), none⟩])
 (.ret))),
 [.tmp 8], 28)
end Go.Msk

namespace Go.Msk
open Go.RowKit
set_option maxRecDepth 100000
def TR.n : TR → Int | .mk n _ _ _ _ => n
def TR.s : TR → List UInt8 | .mk _ s _ _ _ => s
def TR.null : TR → Bool | .mk _ _ b _ _ => b
def TR.l : TR → List TR | .mk _ _ _ l _ => l
def TR.u : TR → List (Nat × List UInt8) | .mk _ _ _ _ u => u
def TR.at (t : TR) (i : Nat) : TR := (t.l[i]?).getD .zero
inductive FD where
  | mk (kind frm to null tag dfl of : Int) (sub : List FD)
  deriving Inhabited
def FD.kind : FD → Int | .mk k _ _ _ _ _ _ _ => k
def FD.frm : FD → Int | .mk _ k _ _ _ _ _ _ => k
def FD.to : FD → Int | .mk _ _ k _ _ _ _ _ => k
def FD.null : FD → Int | .mk _ _ _ k _ _ _ _ => k
def FD.tag : FD → Int | .mk _ _ _ _ k _ _ _ => k
def FD.of : FD → Int | .mk _ _ _ _ _ _ k _ => k
def FD.sub : FD → List FD | .mk _ _ _ _ _ _ _ k => k
mutual
inductive RepF (ok : Nat → Prop) (w : World) : FD → List Value → Prop
  | mk {kind frm to null tag dfl of : Int} {sub : List FD} {sv : Value} {css : List (List Value)} : SlC ok w sv sub.length css.flatten → RepFL ok w sub css →
      RepF ok w (.mk kind frm to null tag dfl of sub) [.int .i64 kind, .int .i64 frm, .int .i64 to, .int .i64 null, .int .i64 tag, .int .i64 dfl, .int .i64 of, sv]
inductive RepFL (ok : Nat → Prop) (w : World) : List FD → List (List Value) → Prop
  | nil : RepFL ok w [] []
  | cons {f : FD} {l : List FD} {cs : List Value} {css : List (List Value)} : RepF ok w f cs → RepFL ok w l css → RepFL ok w (f :: l) (cs :: css)
end
theorem RepF.mod {ok ok' : Nat → Prop} {S : List Nat} {w w' : World} (hm : Mod S w w') (hS : ∀ b ∈ S, ¬ ok b) (ho : ∀ b, b < w.heap.size → ok b → ok' b) {t : FD} {cs : List Value} (h : RepF ok w t cs) : RepF ok' w' t cs := by
  refine RepF.rec (motive_1 := fun t cs _ => RepF ok' w' t cs) (motive_2 := fun l css _ => RepFL ok' w' l css) ?_ ?_ ?_ h
  · intro kind frm to null tag dfl of sub sv css h1 _ ih
    exact .mk (h1.mod hm hS ho) ih
  · exact .nil
  · intro t l cs css _ _ ih1 ih2; exact .cons ih1 ih2
theorem RepFL.mod {ok ok' : Nat → Prop} {S : List Nat} {w w' : World} (hm : Mod S w w') (hS : ∀ b ∈ S, ¬ ok b) (ho : ∀ b, b < w.heap.size → ok b → ok' b) {l : List FD} {css : List (List Value)} (h : RepFL ok w l css) : RepFL ok' w' l css := by
  induction l generalizing css with
  | nil => cases h; exact .nil
  | cons t l ih => cases h with | cons h1 h2 => exact .cons (h1.mod hm hS ho) (ih h2)
theorem RepF.eight {ok : Nat → Prop} {w : World} {t : FD} {cs : List Value} (h : RepF ok w t cs) : cs.length = 8 := by cases h; rfl
theorem RepFL.eight {ok : Nat → Prop} {w : World} {l : List FD} {css : List (List Value)} (h : RepFL ok w l css) : ∀ cs ∈ css, cs.length = 8 := by
  induction l generalizing css with
  | nil => cases h; simp
  | cons g l ih =>
    cases h with
    | cons h1 h2 =>
      intro cs hc
      rcases List.mem_cons.1 hc with rfl | hc
      · exact h1.eight
      · exact ih h2 cs hc
theorem RepFL.length {ok : Nat → Prop} {w : World} {l : List FD} {css : List (List Value)} (h : RepFL ok w l css) : l.length = css.length := by
  induction l generalizing css with
  | nil => cases h; rfl
  | cons g l ih => cases h with | cons h1 h2 => simp [ih h2]
theorem RepF.oneCell {ok : Nat → Prop} {w : World} {t : FD} {cs : List Value} (h : RepF ok w t cs) : ∀ v ∈ cs, v.oneCell' = true := by
  cases h with
  | mk h1 h2 =>
    intro v hv
    simp only [List.mem_cons, List.not_mem_nil, or_false] at hv
    rcases hv with rfl | rfl | rfl | rfl | rfl | rfl | rfl | rfl
    all_goals first | rfl | exact h1.one
theorem RepFL.nth {ok : Nat → Prop} {w : World} {l : List FD} {css : List (List Value)} (h : RepFL ok w l css) {j : Nat} {t : FD} (ht : l[j]? = some t) : ∃ cs, css[j]? = some cs ∧ RepF ok w t cs := by
  induction l generalizing css j with
  | nil => simp at ht
  | cons a l ih =>
    cases h with
    | cons h1 h2 =>
      cases j with
      | zero => simp only [List.getElem?_cons_zero, Option.some.injEq] at ht; subst ht; exact ⟨_, rfl, h1⟩
      | succ j => simp only [List.getElem?_cons_succ] at ht ⊢; exact ih h2 ht
def fzero : List Value := [.int .i64 0, .int .i64 0, .int .i64 0, .int .i64 0, .int .i64 0, .int .i64 0, .int .i64 0, .slice none 0 0]
abbrev anyB : Nat → Prop := fun _ => True
theorem SlC.any {ok : Nat → Prop} {w : World} {v : Value} {n : Nat} {cs : List Value} (h : SlC ok w v n cs) : SlC anyB w v n cs := h.mod (Mod.refl [] w) (by simp) fun _ _ _ => trivial
theorem SlC.keep {w w' : World} {v : Value} {n : Nat} {cs : List Value} (h : SlC anyB w v n cs) (hm : Mod [] w w') : SlC anyB w' v n cs := h.mod hm (by simp) fun _ _ _ => trivial
theorem RepT.any {ok : Nat → Prop} {w : World} {t : TR} {cs : List Value} (h : RepT ok w t cs) : RepT anyB w t cs := h.mod (Mod.refl [] w) (by simp) fun _ _ _ => trivial
theorem RepT.keep {w w' : World} {t : TR} {cs : List Value} (h : RepT anyB w t cs) (hm : Mod [] w w') : RepT anyB w' t cs := h.mod hm (by simp) fun _ _ _ => trivial
theorem RepTL.keep {w w' : World} {t : List TR} {cs : List (List Value)} (h : RepTL anyB w t cs) (hm : Mod [] w w') : RepTL anyB w' t cs := h.mod hm (by simp) fun _ _ _ => trivial
theorem RepU.keep {w w' : World} {t : List (Nat × List UInt8)} {cs : List (List Value)} (h : RepU anyB w t cs) (hm : Mod [] w w') : RepU anyB w' t cs := h.mod hm (by simp) fun _ _ _ => trivial
theorem RepF.keep {w w' : World} {t : FD} {cs : List Value} (h : RepF anyB w t cs) (hm : Mod [] w w') : RepF anyB w' t cs := h.mod hm (by simp) fun _ _ _ => trivial
theorem RepFL.keep {w w' : World} {t : List FD} {cs : List (List Value)} (h : RepFL anyB w t cs) (hm : Mod [] w w') : RepFL anyB w' t cs := h.mod hm (by simp) fun _ _ _ => trivial
theorem SlC.src {ok : Nat → Prop} {w : World} {v : Value} {l : List UInt8} (h : SlC ok w v l.length (u8s l)) : srcCells w 1 v = some (l.length, u8s l) := by
  obtain ⟨base, cap, rfl, h2, h3, h4⟩ := h
  cases base with
  | none => have := h3 rfl; have : l = [] := List.length_eq_zero_iff.1 (by omega); subst this; simp [srcCells, u8s]
  | some a =>
    by_cases hc0 : 0 < cap
    · simp only [srcCells, Nat.mul_one]
      rw [cellsAt_of' (h4 a rfl hc0).2.2 (u8s_length l)]; rfl
    · have : l = [] := List.length_eq_zero_iff.1 (by omega)
      subst this; simp [srcCells, cellsAt, u8s]
theorem DRaw.src {w : World} {n0 : Nat} {v : Value} {l : List UInt8} (h : DRaw w n0 v l) : srcCells w 1 v = some (l.length, u8s l) := h.slc.src
theorem slice_head {ok : Nat → Prop} {x y : Operand} {sz n k : Nat} {σ : Sl} {w : World} {v : Value} {cells : List Value} (hx : ev σ x = v) (hy : ev σ y = .int .i64 (k : Nat)) (h : SlC ok w v n cells) (hk : k ≤ n) :
    ∃ v', (RK.slice x none (some y) none sz).val? σ w = some v' ∧ SlC ok w v' k (cells.take (k * sz)) := by
  obtain ⟨base, cap, rfl, h2, h3, h4⟩ := h
  simp only [RK.val?, hx, bnd, hy]
  rw [if_pos ⟨by omega, by omega, by omega, by omega⟩]
  simp only [Int.toNat_natCast, Int.toNat_zero, Nat.sub_zero, Nat.zero_mul]
  refine ⟨_, rfl, _, _, rfl, by omega, ?_, ?_⟩
  · intro hn
    split at hn
    · rename_i h; simpa using h
    · cases base with
      | none => exact h3 rfl
      | some a => simp at hn
  · intro a ha hc0
    split at ha
    · obtain ⟨k1, k2, k3⟩ := h4 a ha (by simpa using hc0)
      exact ⟨k1, k2, k3.take _⟩
    · cases base with
      | none => simp at ha
      | some b =>
        obtain ⟨k1, k2, k3⟩ := h4 b rfl (by simpa using hc0)
        simp only [Option.map_some, Option.some.injEq] at ha
        subst ha
        rw [Addr.add_of k3.1]
        exact ⟨k1, k2, by have := k3.take (k * sz); obtain ⟨b, o, s⟩ := b; have e := k3.1; simp only at e; subst e; exact this⟩
def BytesR (w : World) (l : List UInt8) : Ending → World → Prop := fun e w' => ∃ v, e = .returned v ∧ DRaw w' w.heap.size v l ∧ Mod [] w w'
theorem AppD.mod0 {w0 w w' : World} {v v' : Value} {l l' : List UInt8} (h : AppD w0.heap.size w v w' v' l') (hd : DRaw w w0.heap.size v l) (hm : Mod [] w0 w) : Mod [] w0 w' := by
  have := h.mod
  cases ho : ownB v with
  | none => rw [ho] at this; exact hm.trans this.nil
  | some b =>
    rw [ho] at this
    exact Mod.drop (b := b) (S := []) ((hm.mono (by simp)).trans (this.mono (by simp))) (hd.own ho).1
theorem DRaw.nil (w : World) (n : Nat) : DRaw w n (.slice none 0 0) [] := ⟨.inl ⟨rfl, rfl⟩⟩
theorem DRaw.keep {w w' : World} {n0 : Nat} {v : Value} {l : List UInt8} (h : DRaw w n0 v l) (hm : Mod [] w w') : DRaw w' n0 v l := h.mod hm (by simp)
theorem DRaw.low {w : World} {n0 n1 : Nat} {v : Value} {l : List UInt8} (h : DRaw w n0 v l) (hn : n1 ≤ n0) : DRaw w n1 v l :=
  ⟨h.sl.imp id fun ⟨B, cap, rest, h1, h2, h3, h4, h5⟩ => ⟨B, cap, rest, h1, h2, Nat.le_trans hn h3, h4, h5⟩⟩
def wholeP (l : List UInt8) : List UInt8 := l.take 32767
theorem min_nat (n : Nat) : (if (32767 : Int) < (n : Int) then (32767 : Int) else (n : Int)) = ((min n 32767 : Nat) : Int) := by
  split <;> omega
section
variable {P : Program} {F : Nat → Nat}
attribute [local simp] gOk updo upd ev RK.val? isShift intBin Addr.add_mk args0 Value.cells undef
theorem whole_call (hm : P.follows .mixedOrders = true) (h : liftF P (F sWhole) = some (ir_sWhole F)) {ok : Nat → Prop} {w : World} {v : Value} {l : List UInt8} (hv : SlC ok w v l.length (u8s l)) :
    Calls P (F sWhole) [v].toArray w fun e w' => w' = w ∧ ∃ v', e = .returned v' ∧ SlC ok w v' (wholeP l).length (u8s (wholeP l)) := by
  unfold ir_sWhole at h
  refine call_of h hm (by simp) ?_
  obtain ⟨b, c, rfl⟩ := hv.shape
  rw [wpC_seq, wpC_blk]
  refine go1 rfl rfl (wpR_done ?_)
  rw [wpC_seq, wpC_blk]
  refine go1 rfl rfl (go1 rfl rfl ?_)
  refine go1 (v := .int .i64 l.length) rfl (by simp) ?_
  refine go1 (v := .int .i64 ((min l.length 32767 : Nat) : Int)) rfl (by simp [min_nat]) ?_
  obtain ⟨v', e1, h1⟩ := slice_head (x := .tmp 3) (y := .tmp 6) (sz := 1) (σ := upd (upd (upd (upd (upd (args0 [.slice b l.length c]) 2 (.slice none 0 0)) 3 (.slice b l.length c)) 4 (.slice b l.length c)) 5 (.int .i64 l.length)) 6 (.int .i64 ((min l.length 32767 : Nat) : Int))) (k := min l.length 32767) (by simp) (by simp) hv (by omega)
  refine go1 (v := v') rfl e1 ?_
  refine go1 (v := v') rfl (by simp) (wpR_done (ret1 (v := v') (by simp) ⟨rfl, v', rfl, ?_⟩))
  have e2 : (wholeP l).length = min l.length 32767 := by simp [wholeP, Nat.min_comm]
  have e3 : u8s (wholeP l) = (u8s l).take (min l.length 32767 * 1) := by
    rw [Nat.mul_one, wholeP, u8s_take]
    by_cases hl : l.length ≤ 32767
    · rw [List.take_of_length_le (by rw [u8s_length]; omega), List.take_of_length_le (by rw [u8s_length]; omega)]
    · rw [Nat.min_eq_right (by omega)]
  rw [e2, e3]; exact h1
theorem has_call (hm : P.follows .mixedOrders = true) (h : liftF P (F sHas) = some (ir_sHas F)) {ok : Nat → Prop} {w : World} {f : FD} {cs : List Value} {ver : Int} (hf : RepF ok w f cs) :
    Calls P (F sHas) [.agg cs.toArray, .int .i64 ver].toArray w fun e w' => e = .returned (.bool (decide (f.frm ≤ ver) && (decide (f.to < 0) || decide (ver ≤ f.to)))) ∧ Mod [] w w' := by
  cases hf with
  | @mk kind frm to null tag dfl of sub sv css h1 h2 =>
  unfold ir_sHas at h
  refine call_of h hm (by simp) ?_
  rw [wpC_seq, wpC_blk]
  refine goBox rfl fun w1 hb1 hm1 => ?_
  have c1 := fun k => hb1.cell k
  refine go1 rfl rfl (wpR_done ?_)
  rw [wpC_seq, wpC_blk]
  clear h
  by_cases e1 : frm ≤ ver
  · by_cases e2 : to < 0
    · iterate 16 (first | (apply go1; (· simp []); (· simp [c1, e1, e2] <;> rfl)) | (apply go0; (· simp [])))
      exact wpR_done (ret1 rfl (by simp [FD.frm, FD.to, e1, e2, hm1] <;> rfl))
    · iterate 16 (first | (apply go1; (· simp []); (· simp [c1, e1, e2] <;> rfl)) | (apply go0; (· simp [e1, e2])))
      exact wpR_done (ret1 rfl (by simp [FD.frm, FD.to, e1, e2, hm1] <;> rfl))
  · iterate 16 (first | (apply go1; (· simp []); (· simp [c1, e1] <;> rfl)) | (apply go0; (· simp [])))
    exact wpR_done (ret1 rfl (by simp [FD.frm, e1, hm1]))
end
end Go.Msk

namespace Go.Msk
open Go.RowKit
set_option maxRecDepth 100000
def FD.hasV (f : FD) (ver : Int) : Bool := decide (f.frm ≤ ver) && (decide (f.to < 0) || decide (ver ≤ f.to))
def FD.nullV (f : FD) (ver : Int) (t : TR) : Bool := t.null && (decide (f.null ≥ 0) && decide (ver ≥ f.null))
def widthP (k : Int) : Nat := if k = 1 then 1 else if k = 2 ∨ k = 5 then 2 else if k = 3 then 4 else 8
def countedP (flex null : Bool) (n size : Nat) : List UInt8 := if flex then (if null then [0] else uvE (n + 1)) else (if null then beI size (-1) else beI size n)
theorem widthP_le (k : Int) : widthP k ≤ 8 := by unfold widthP; repeat' split
                                                 all_goals omega
theorem flatten_take {n : Nat} : ∀ (css : List (List Value)) (k : Nat), (∀ c ∈ css, c.length = n) → css.flatten.take (k * n) = (css.take k).flatten
  | [], k, _ => by simp
  | c :: css, 0, _ => by simp
  | c :: css, k + 1, h => by
    have hc := h c (by simp)
    have ih := flatten_take css k (fun x hx => h x (by simp [hx]))
    simp only [List.flatten_cons, List.take_succ_cons]
    have e : (k + 1) * n = c.length + k * n := by rw [hc, Nat.add_mul]; omega
    rw [e, List.take_length_add_append, ih]
theorem RepTL.take {ok : Nat → Prop} {w : World} : ∀ {l : List TR} {css : List (List Value)} (_ : RepTL ok w l css) (k : Nat), RepTL ok w (l.take k) (css.take k)
  | _, _, .nil, k => by simp; exact .nil
  | _, _, .cons h1 h2, 0 => by simp; exact .nil
  | _, _, .cons h1 h2, k + 1 => by simp only [List.take_succ_cons]; exact .cons h1 (h2.take k)
theorem shr_i64 (n : Int) (k : Nat) (hk : k ≤ 64) : intBin .shr .i64 n (k : Nat) = some (.int .i64 (n / 2 ^ k)) := by
  simp only [intBin]
  rw [if_neg (by omega)]
  have : min (k : Int).toNat IntKind.i64.bits = k := by show min (k : Int).toNat 64 = k; omega
  rw [this, Int.fdiv_eq_ediv_of_nonneg _ (by exact Int.le_of_lt (Int.pow_pos (by omega)))]
theorem pow_256 (m : Nat) : (2 : Int) ^ (8 * m) = 256 ^ m := by rw [Int.pow_mul]; rfl
theorem u64_natS {n : Nat} (h : n < 18446744073709551616) : IntKind.u64.wrap (n : Int) = n := by
  simp only [IntKind.wrap, IntKind.bits, IntKind.signed]; simp; omega
theorem and127_u64 {n : Nat} (h : n < 18446744073709551616) : intBin .and .u64 (n : Int) 127 = some (.int .u64 ((n % 128 : Nat) : Int)) := by
  simp only [intBin]
  congr 2
  have e1 : (BitVec.ofInt IntKind.u64.bits (n : Int) &&& BitVec.ofInt IntKind.u64.bits 127).toNat = n % 128 := by
    show (BitVec.ofInt 64 (n : Int) &&& BitVec.ofInt 64 127).toNat = n % 128
    rw [BitVec.toNat_and]
    have a : (BitVec.ofInt 64 (n : Int)).toNat = n := by simp []; omega
    have b : (BitVec.ofInt 64 127).toNat = 2 ^ 7 - 1 := by decide
    rw [a, b, Nat.and_two_pow_sub_one_eq_mod]
  rw [e1, u64_natS (by omega)]
theorem or128_u8 {x : Nat} (h : x < 128) : intBin .or .u8 (x : Int) 128 = some (.int .u8 ((x + 128 : Nat) : Int)) := by
  have e := bin_or (k := .u8) rfl (x := x) (y := 128) (by show x < 2 ^ 8; omega) (by decide)
  have e2 := or_add 1 x 7 (by omega)
  simp only [Nat.one_mul] at e2
  have e3 : x ||| 128 = x + 128 := by
    have : (2 : Nat) ^ 7 = 128 := by decide
    rw [this] at e2; omega
  rw [e3] at e
  exact e
theorem shr_u64 (n k : Nat) (hk : k < 64) : intBin .shr .u64 (n : Int) (k : Nat) = some (.int .u64 ((n / 2 ^ k : Nat) : Int)) := by
  simp only [intBin]
  rw [if_neg (by omega)]
  have : min (k : Int).toNat IntKind.u64.bits = k := by show min (k : Int).toNat 64 = k; omega
  rw [this, Int.fdiv_eq_ediv_of_nonneg _ (by exact Int.le_of_lt (Int.pow_pos (by omega)))]
  congr 2
section
variable {P : Program} {F : Nat → Nat}
attribute [local simp] gOk updo upd ev RK.val? isShift intBin Addr.add_mk args0 Value.cells undef
theorem null_call (hm : P.follows .mixedOrders = true) (h : liftF P (F sNull) = some (ir_sNull F)) {ok ok' : Nat → Prop} {w : World} {f : FD} {cs : List Value} {t : TR} {ts : List Value} {ver : Int} (hf : RepF ok w f cs) (ht : RepT ok' w t ts) :
    Calls P (F sNull) [.agg cs.toArray, .int .i64 ver, .agg ts.toArray].toArray w fun e w' => e = .returned (.bool (f.nullV ver t)) ∧ Mod [] w w' := by
  cases hf with
  | @mk kind frm to null tag dfl of sub sv css h1 h2 =>
  cases ht with
  | @mk n s tnull l u sv lv uv css uss g1 g2 g3 g4 g5 =>
  unfold ir_sNull at h
  refine call_of h hm (by simp) ?_
  clear h
  rw [wpC_seq, wpC_blk]
  refine goBox rfl fun w1 hb1 hm1 => ?_
  refine goBox (v := .agg [.int .i64 n, sv, .bool tnull, lv, uv].toArray) (by simp) fun w2 hb2 hm2 => ?_
  have c1 := fun k => (hb1.mod hm2 (by simp)).cell k
  have c2 := fun k => hb2.cell k
  refine go1 rfl rfl (wpR_done ?_)
  rw [wpC_seq, wpC_blk]
  cases tnull
  · iterate 14 (first | (apply go1; (· simp); (· simp [c2] <;> rfl)) | (apply go0; (· simp)))
    exact wpR_done (ret1 rfl (by simp [FD.nullV, TR.null, hm1.trans hm2]))
  · by_cases e1 : null ≥ 0
    · iterate 14 (first | (apply go1; (· simp []); (· simp [c1, c2, e1] <;> rfl)) | (apply go0; (· simp [e1])))
      exact wpR_done (ret1 rfl (by simp [FD.nullV, FD.null, TR.null, e1, hm1.trans hm2] <;> rfl))
    · iterate 14 (first | (apply go1; (· simp []); (· simp [c1, c2, e1] <;> rfl)) | (apply go0; (· simp [])))
      exact wpR_done (ret1 rfl (by simp [FD.nullV, FD.null, TR.null, e1, hm1.trans hm2] <;> rfl))
theorem things_call (hm : P.follows .mixedOrders = true) (h : liftF P (F sThings) = some (ir_sThings F)) {ok : Nat → Prop} {w : World} {v : Value} {l : List TR} {css : List (List Value)} (hv : SlC ok w v l.length css.flatten) (hr : RepTL ok w l css) :
    Calls P (F sThings) [v].toArray w fun e w' => w' = w ∧ ∃ v', e = .returned v' ∧ SlC ok w v' (l.take 32767).length (css.take 32767).flatten ∧ RepTL ok w (l.take 32767) (css.take 32767) := by
  unfold ir_sThings at h
  refine call_of h hm (by simp) ?_
  clear h
  obtain ⟨b, c, rfl⟩ := hv.shape
  rw [wpC_seq, wpC_blk]
  refine go1 rfl rfl (wpR_done ?_)
  rw [wpC_seq, wpC_blk]
  refine go1 rfl rfl (go1 rfl rfl ?_)
  refine go1 (v := .int .i64 l.length) rfl (by simp) ?_
  refine go1 (v := .int .i64 ((min l.length 32767 : Nat) : Int)) rfl (by simp [min_nat]) ?_
  obtain ⟨v', e1, h1⟩ := slice_head (x := .tmp 3) (y := .tmp 6) (sz := 5) (σ := upd (upd (upd (upd (upd (args0 [.slice b l.length c]) 2 (.slice none 0 0)) 3 (.slice b l.length c)) 4 (.slice b l.length c)) 5 (.int .i64 l.length)) 6 (.int .i64 ((min l.length 32767 : Nat) : Int))) (k := min l.length 32767) (by simp) (by simp) hv (by omega)
  refine go1 (v := v') rfl e1 ?_
  refine go1 (v := v') rfl (by simp) (wpR_done (ret1 (v := v') (by simp) ⟨rfl, v', rfl, ?_, hr.take _⟩))
  rw [flatten_take _ _ hr.five] at h1
  have e2 : (l.take 32767).length = min l.length 32767 := by simp [Nat.min_comm]
  have e3 : css.take (min l.length 32767) = css.take 32767 := by
    by_cases hl : l.length ≤ 32767
    · have := hr.length
      rw [Nat.min_eq_left hl, List.take_of_length_le (by omega), List.take_of_length_le (by omega)]
    · rw [Nat.min_eq_right (by omega)]
  rw [e2, ← e3]; exact h1
theorem at_call (hm : P.follows .mixedOrders = true) (h : liftF P (F sAt) = some (ir_sAt F)) {ok : Nat → Prop} {w : World} {t : TR} {ts : List Value} {i : Nat} (ht : RepT ok w t ts) :
    Calls P (F sAt) [.agg ts.toArray, .int .i64 (i : Nat)].toArray w fun e w' => ∃ cs, e = .returned (.agg cs.toArray) ∧ RepT anyB w' (t.at i) cs ∧ Mod [] w w' := by
  replace ht := ht.any
  cases ht with
  | @mk n s tnull l u sv lv uv css uss g1 g2 g3 g4 g5 =>
  unfold ir_sAt at h
  refine call_of h hm (by simp) ?_
  clear h
  rw [wpC_seq, wpC_blk]
  refine goBox rfl fun w1 hb1 hm1 => ?_
  refine goAlloc fun w2 hb2 hm2 => ?_
  have hm12 := hm1.trans hm2
  have c1 := fun k => (hb1.mod hm2 (by simp)).cell k
  refine wpR_done ?_
  obtain ⟨lb, lc, elv⟩ := g2.shape
  rw [wpC_seq, wpC_seq, wpC_blk]
  have key : ∀ σ : Sl, σ 4 = .pointer (some ⟨w1.heap.size, 0, none⟩) → l[i]? = none → wpC P (.seq (.blk [⟨(some (15)), .build [.int .i64 0, .slice none 0 0, .bool false, .slice none 0 0, .slice none 0 0] [], none⟩,
      ⟨none, .st (.tmp 4) 5 (.tmp 15), none⟩]) .ret) (postC [.cells 4 5] fun e w' => ∃ cs, e = .returned (.agg cs.toArray) ∧ RepT anyB w' ((TR.mk n s tnull l u).at i) cs ∧ Mod [] w w') σ w2 := by
    intro σ h4 hn
    rw [wpC_seq, wpC_blk]
    refine go1 (v := .agg tzero.toArray) rfl rfl ?_
    refine goSt (b := w1.heap.size) (v := .agg tzero.toArray) (by simp [h4]) (by simp) hb2 rfl rfl (by simp [tzero, Value.oneCell']) fun w3 hb3 hm3 => ?_
    refine wpR_done (retN (by simpa using h4) hb3 rfl ⟨_, rfl, ?_, ?_⟩)
    · have : (TR.mk n s tnull l u).at i = TR.zero := by simp [TR.at, TR.l, hn]
      rw [this]; exact RepT.zero
    · exact Mod.drop (b := w1.heap.size) (S := []) (hm12.nil.trans hm3) hm1.size
  iterate 4 (apply go1 rfl; (· simp [c1, elv] <;> rfl))
  refine go1 (v := .bool (decide ((i : Int) < l.length))) rfl (by simp) ?_
  refine wpR_done ?_
  by_cases hi : i < l.length
  · rw [wpC_cond_t (by simp [hi]), wpC_seq, wpC_blk]
    obtain ⟨t', ht'⟩ : ∃ t', l[i]? = some t' := ⟨l[i], by simp [hi]⟩
    obtain ⟨cs, hcs, hrep⟩ := g3.nth ht'
    obtain ⟨a, c, ea, hj, hcell⟩ := g2.flat (g3.length) (g3.five) hcs
    have hcell2 : cellsAt w2 (a.add (i * 5)) 0 5 = some cs := cellsAt_below hm12.below _ _ _ hcell
    rw [elv] at ea
    simp only [Value.slice.injEq, true_and] at ea
    obtain ⟨ea, ec⟩ := ea
    subst ea
    iterate 3 (apply go1 rfl; (· simp [c1, elv] <;> rfl))
    refine go1 (v := .pointer (some (a.add (i * 5)))) rfl (by simp [hi]) ?_
    refine go1 (v := .agg cs.toArray) rfl (by simp [hcell2]) ?_
    refine goSt (b := w1.heap.size) (v := .agg cs.toArray) (by simp) (by simp) hb2 (by simp [hrep.five]) rfl (by simpa using hrep.oneCell) fun w3 hb3 hm3 => ?_
    have hm123 : Mod [] w w3 := Mod.drop (b := w1.heap.size) (S := []) (hm12.nil.trans hm3) hm1.size
    refine wpR_done (retThen (retN (cs := cs) (b := w1.heap.size) (by simp) (by simpa using hb3) hrep.five ⟨cs, rfl, ?_, hm123⟩))
    have : (TR.mk n s tnull l u).at i = t' := by simp [TR.at, TR.l, ht']
    rw [this]
    exact hrep.keep hm123
  · rw [wpC_cond_f (by simp; omega), wpC_skip]
    exact key _ (by simp) (by simp; omega)
end
end Go.Msk
