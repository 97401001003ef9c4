/- A small language of resolved operations, and what the generic and the generated functions do in it (part 6). -/
import Derived.Test.YtkgihecaappglaaGreatDoorFe

namespace Go.Msk
open Go.RowKit
set_option maxRecDepth 100000
theorem uvR_bound : ∀ (n : Nat) (l : List UInt8) (v k : Nat), uvR n l = some (v, k) → 0 < k ∧ k ≤ l.length ∧ v < 128 ^ n
  | 0, l, v, k, h => by simp [uvR] at h
  | n + 1, [], v, k, h => by simp [uvR] at h
  | n + 1, b :: r, v, k, h => by
    simp only [uvR] at h
    split at h
    · rename_i hb
      split at h
      · simp at h
      · simp only [Option.some.injEq, Prod.mk.injEq] at h
        obtain ⟨rfl, rfl⟩ := h
        refine ⟨by omega, by simp, ?_⟩
        rw [Nat.pow_succ]
        have : 0 < 128 ^ n := Nat.pow_pos (by omega)
        omega
    · cases hr : uvR n r with
      | none => simp [hr] at h
      | some q =>
        obtain ⟨v', k'⟩ := q
        simp only [hr, Option.some.injEq, Prod.mk.injEq] at h
        obtain ⟨rfl, rfl⟩ := h
        obtain ⟨h1, h2, h3⟩ := uvR_bound n r v' k' hr
        refine ⟨by omega, by simp; omega, ?_⟩
        rw [Nat.pow_succ]
        omega
theorem uvR_small {n : Nat} : ∀ (l : List UInt8) (v k : Nat), uvR (n + 1) l = some (v, k) → v < 16 * 128 ^ n := by
  induction n with
  | zero =>
    intro l v k h
    cases l with
    | nil => simp [uvR] at h
    | cons b r =>
      simp only [uvR] at h
      split at h
      · split at h
        · simp at h
        · simp only [Option.some.injEq, Prod.mk.injEq] at h; obtain ⟨rfl, rfl⟩ := h; simp at *; omega
      · simp at h
  | succ n ih =>
    intro l v k h
    cases l with
    | nil => simp [uvR] at h
    | cons b r =>
      rw [uvR] at h
      have hp : 0 < 128 ^ n := Nat.pow_pos (by omega)
      split at h
      · split at h
        · simp at h
        · simp only [Option.some.injEq, Prod.mk.injEq] at h
          obtain ⟨rfl, rfl⟩ := h
          rw [Nat.pow_succ]; omega
      · cases hr : uvR (n + 1) r with
        | none => simp [hr] at h
        | some q =>
          obtain ⟨v', k'⟩ := q
          simp only [hr, Option.some.injEq, Prod.mk.injEq] at h
          obtain ⟨rfl, rfl⟩ := h
          have := ih r v' k' hr
          rw [Nat.pow_succ]; omega
def rdUv (s : RS) : Nat × RS :=
  match uvR 5 s.src with
  | some (v, k) => (v, { s with src := s.src.drop k })
  | none => (0, RS.fail)
theorem rdUv_lt (s : RS) : (rdUv s).1 < 4294967296 := by
  unfold rdUv
  split
  · rename_i v k h; exact uvR_small (n := 4) _ _ _ h
  · show 0 < _; omega
theorem rdUv_le (s : RS) : (rdUv s).2.src.length ≤ s.src.length := by
  unfold rdUv; split <;> simp [RS.fail]
section
variable {P : Program} {F : Nat → Nat}
theorem fail_wp {t rb : Nat} {S : List Nat} {c : Value} {u v : Value} {σ : Sl} {w : World} {Q : Exit → Sl → World → Prop} (ht : 3 ≤ t) (h0 : σ 0 = .pointer (some ⟨rb, 0, none⟩)) (hb : Blk w rb [u, v])
    (hQ : ∀ σ' w', σ' 2 = c → IsRd S w' rb RS.fail → Mod [rb] w w' → Q .ret σ' w') :
    wpC P (.seq (.blk [⟨some t, .mv (.tmp 0), none⟩, ⟨some (t + 1), .nilc (.tmp t), none⟩, ⟨some (t + 2), .fad (.tmp (t + 1)) 1, none⟩, ⟨none, .st (.tmp (t + 2)) 1 (.const (.bool true)), none⟩])
      (.seq (.blk [⟨some (t + 3), .mv (.tmp 0), none⟩, ⟨some (t + 4), .nilc (.tmp (t + 3)), none⟩, ⟨some (t + 5), .fad (.tmp (t + 4)) 0, none⟩, ⟨none, .st (.tmp (t + 5)) 1 (.const (.slice none 0 0)), none⟩])
        (.seq (.blk [⟨some 2, .mv (.const c), none⟩]) .ret))) Q σ w := by
  obtain ⟨f1, f2, f3, f4⟩ := rd_fail (S := S) hb
  rw [wpC_seq, wpC_blk]
  refine wpR_step (v := .pointer (some ⟨rb, 0, none⟩)) (congrArg some h0) ?_
  refine wpR_step (v := .pointer (some ⟨rb, 0, none⟩)) (by simp only [RK.val?, ev, updo, upd, if_true]) ?_
  refine wpR_step (v := .pointer (some ⟨rb, 1, none⟩)) (by simp only [RK.val?, ev, updo, upd, if_true, Addr.add_mk]) ?_
  refine wpR_run ?_
  simp only [RK.run, ev, updo, upd, if_true]
  refine ⟨rfl, f1, ?_⟩
  refine wpR_done ?_
  rw [wpC_seq, wpC_blk]
  refine wpR_step (v := .pointer (some ⟨rb, 0, none⟩)) (by simp only [RK.val?, ev, upd, show (0 : Nat) ≠ t by omega, show (0 : Nat) ≠ t + 1 by omega, show (0 : Nat) ≠ t + 2 by omega, if_false, h0]) ?_
  refine wpR_step (v := .pointer (some ⟨rb, 0, none⟩)) (by simp only [RK.val?, ev, updo, upd, if_true]) ?_
  refine wpR_step (v := .pointer (some ⟨rb, 0, none⟩)) (by simp only [RK.val?, ev, updo, upd, if_true, Addr.add_mk]) ?_
  refine wpR_run ?_
  simp only [RK.run, ev, updo, upd, if_true]
  refine ⟨rfl, f2, ?_⟩
  refine wpR_done ?_
  rw [wpC_seq, wpC_blk]
  refine wpR_step (v := c) rfl ?_
  refine wpR_done ?_
  exact hQ _ _ (by simp only [updo, upd, if_true]) f3 f4
theorem rUvarint_call (hm : P.follows .mixedOrders = true) (h : liftF P (F rUvarint) = some (ir_rUvarint F)) (hk : liftF P (F kUvarint) = some (ir_kUvarint F)) :
    RdC P (F rUvarint) fun s => (.int .u32 (rdUv s).1, (rdUv s).2) := by
  intro S w rb s hr hS
  obtain ⟨base, len, cap, h1, h2, h3, h4⟩ := hr.ex
  unfold ir_rUvarint at h
  refine call_of h hm (by simp) ?_
  have hlen := h2.hlen
  have hcap := h2.hcap
  have c0 : w.cell? ⟨rb, 0, none⟩ = some (.slice base len cap) := h1.cell 0
  have a0 : args0 [.pointer (some ⟨rb, 0, none⟩)] 0 = .pointer (some ⟨rb, 0, none⟩) := rfl
  generalize args0 [.pointer (some ⟨rb, 0, none⟩)] = σ0 at a0 ⊢
  rw [wpC_seq, wpC_blk]
  refine wpR_step (v := .int .u32 0) rfl ?_
  refine wpR_done ?_
  rw [wpC_seq, wpC_blk]
  refine wpR_step (v := .pointer (some ⟨rb, 0, none⟩)) (by simp only [RK.val?, ev, updo, upd]; simp [a0]) ?_
  refine wpR_step (v := .pointer (some ⟨rb, 0, none⟩)) (by simp only [RK.val?, ev, updo, upd, if_true]) ?_
  refine wpR_step (v := .pointer (some ⟨rb, 0, none⟩)) (by simp only [RK.val?, ev, updo, upd, if_true, Addr.add_mk]) ?_
  refine wpR_step (v := .slice base len cap) (by simp only [RK.val?, ev, updo, upd, if_true, c0]) ?_
  refine wpR_call (vs := [.slice base len cap]) (by simp only [List.map_cons, List.map_nil, ev, updo, upd, if_true]) (kUvarint_call hm hk h2) ?_
  rintro e w1 ⟨hres, rfl⟩
  -- in either case a pair of a number and how many octets
  obtain ⟨v, n, rfl, hvn⟩ : ∃ (v n : Int), e = .returned (.tuple #[.int .u32 v, .int .i64 n]) ∧ ((n ≤ 0 ∧ v = 0 ∧ rdUv s = (0, RS.fail)) ∨ ∃ k : Nat, n = k ∧ 0 < k ∧ k ≤ len ∧ rdUv s = (v.toNat, { s with src := s.src.drop k }) ∧ 0 ≤ v) := by
    unfold UvRes at hres
    unfold rdUv
    split at hres
    · rename_i v k hu
      have hbd := uvR_bound _ _ _ _ hu
      exact ⟨v, k, hres, .inr ⟨k, rfl, hbd.1, by omega, by first | (simp; done) | simp [hu], by omega⟩⟩
    · rename_i hu
      obtain ⟨n, hn, rfl⟩ := hres
      exact ⟨0, n, rfl, .inl ⟨hn, rfl, by first | (simp; done) | simp [hu]⟩⟩
  refine ⟨_, rfl, ?_⟩
  generalize hT : Value.tuple #[.int .u32 v, .int .i64 n] = T
  refine wpR_step (v := T) (by simp only [RK.val?, ev, updo, upd, if_true]) ?_
  refine wpR_step (v := .int .u32 v) (by subst hT; simp only [RK.val?, ev, updo, upd, if_true]; rfl) ?_
  refine wpR_step (v := .int .i64 n) (by subst hT; simp only [RK.val?, ev, updo, upd]; rfl) ?_
  refine wpR_step (v := .int .u32 v) (by simp only [RK.val?, ev, updo, upd]; simp) ?_
  refine wpR_step (v := .int .i64 n) (by simp only [RK.val?, ev, updo, upd]; simp) ?_
  refine wpR_done ?_
  generalize hσ : updo _ (some 4) _ = σ1
  have k0 : σ1 0 = .pointer (some ⟨rb, 0, none⟩) := by rw [← hσ]; simp [updo, upd, a0]
  have k3 : σ1 3 = .int .u32 v := by rw [← hσ]; simp [updo, upd]
  have k4 : σ1 4 = .int .i64 n := by rw [← hσ]; simp [updo, upd]
  clear hσ
  rw [wpC_seq, wpC_seq, wpC_blk]
  refine wpR_step (v := .int .i64 n) (congrArg some k4) ?_
  refine wpR_step (v := .bool (decide (n ≤ 0))) (by simp only [RK.val?, ev, updo, upd, if_true, isShift, decide_true, Bool.or_true, intBin]) ?_
  refine wpR_done ?_
  rcases hvn with ⟨hn, rfl, hrd⟩ | ⟨k, rfl, hk0, hkl, hrd, hv0⟩
  · rw [wpC_cond_t (by simp only [ev, updo, upd, if_true, hn, decide_true])]
    refine fail_wp (t := 15) (rb := rb) (S := S) (c := .int .u32 0) (by omega) (by simp only [updo, upd]; simp [k0]) h1 fun σ' w' e2 hr' hm' => ?_
    simp only [thenC, postC, rvals, List.mapM_cons, List.mapM_nil, RV.val, e2, Option.bind_eq_bind, Option.bind_some, Option.pure_def, tup_one]
    rw [hrd]; exact ⟨rfl, hr', hm'⟩
  · have hn : ¬ (k : Int) ≤ 0 := by omega
    rw [wpC_cond_f (by simp only [ev, updo, upd, if_true, hn, decide_false]), wpC_skip]
    simp only [thenC]
    obtain ⟨g1, g2, g3⟩ := rd_cut (S := S) h1 h2 h3 h4 hr.short (k := k) hkl
    rw [wpC_seq, wpC_blk]
    refine wpR_step (v := .pointer (some ⟨rb, 0, none⟩)) (by simp only [RK.val?, ev, updo, upd]; simp [k0]) ?_
    refine wpR_step (v := .pointer (some ⟨rb, 0, none⟩)) (by simp only [RK.val?, ev, updo, upd]; simp [k0]) ?_
    refine wpR_step (v := .pointer (some ⟨rb, 0, none⟩)) (by simp only [RK.val?, ev, updo, upd, if_true]) ?_
    refine wpR_step (v := .pointer (some ⟨rb, 0, none⟩)) (by simp only [RK.val?, ev, updo, upd, if_true, Addr.add_mk]) ?_
    refine wpR_step (v := .slice base len cap) (by simp only [RK.val?, ev, updo, upd, if_true, c0]) ?_
    refine wpR_step (v := .int .i64 k) (by simp only [RK.val?, ev, updo, upd]; simp [k4]) ?_
    refine wpR_step (v := .slice (if cap = k then base else base.map (·.add (k * 1))) (len - k) (cap - k)) (by
      simp only [RK.val?, ev, updo, upd, bnd, show (25 : Nat) ≠ 26 by decide, if_false, if_true]
      rw [if_pos (by omega)]
      simp) ?_
    refine wpR_step (v := .pointer (some ⟨rb, 0, none⟩)) (by simp only [RK.val?, ev, updo, upd]; simp) ?_
    refine wpR_step (v := .pointer (some ⟨rb, 0, none⟩)) (by simp only [RK.val?, ev, updo, upd, if_true, Addr.add_mk]) ?_
    refine wpR_run ?_
    simp only [RK.run, ev, updo, upd, if_true, show (27 : Nat) ≠ 29 by decide, show (27 : Nat) ≠ 28 by decide, if_false]
    refine ⟨rfl, g1, ?_⟩
    refine wpR_done ?_
    rw [wpC_seq, wpC_blk]
    refine wpR_step (v := .int .u32 v) (by simp only [RK.val?, ev, upd]; simp [k3]) ?_
    refine wpR_step (v := .int .u32 v) (by simp only [RK.val?, ev, updo, upd, if_true]) ?_
    refine wpR_done ?_
    simp only [wpC, postC, rvals, List.mapM_cons, List.mapM_nil, RV.val, updo, upd, if_true, Option.bind_eq_bind, Option.bind_some, Option.pure_def, tup_one]
    rw [hrd]
    refine ⟨?_, g2, g3⟩
    rw [Int.toNat_of_nonneg hv0]
attribute [local simp] bnd wpC wpR RI.wp gOk RK.run thenC inBlockC updo upd ev args0 postC rvals RV.val tup_one isShift
theorem rBool_call (hm : P.follows .mixedOrders = true) (h : liftF P (F rBool) = some (ir_rBool F)) :
    RdC P (F rBool) fun s => (.bool (decide ((rdN 1 s).1 ≠ 0)), (rdN 1 s).2) := by
  intro S w rb s hr hS
  obtain ⟨base, len, cap, h1, h2, h3, h4⟩ := hr.ex
  refine call_of h hm (by simp) ?_
  have hlen := h2.hlen
  have c0 : w.cell? ⟨rb, 0, none⟩ = some (.slice base len cap) := h1.cell 0
  by_cases hlt : len < 1
  · have hlt' : (len : Int) < 1 := by omega
    obtain ⟨f1, f2, f3, f4⟩ := rd_fail (S := S) h1
    have hv : rdN 1 s = (0, RS.fail) := by unfold rdN; rw [if_neg (by omega)]
    simp [Addr.add_mk, c0, hlt', Value.cells, f1, f2, f3, f4, hv]
  · have hlt' : ¬ (len : Int) < 1 := by omega
    have hv : rdN 1 s = (beNat (s.src.take 1), { s with src := s.src.drop 1 }) := by unfold rdN; rw [if_pos (by omega)]
    obtain ⟨a, rfl⟩ : ∃ a, base = some a := by
      cases base with
      | some a => exact ⟨a, rfl⟩
      | none => have := h2.hnone rfl; have := h2.hcap; omega
    obtain ⟨b0, r0, hs⟩ : ∃ b r, s.src = b :: r := by cases hl : s.src with | nil => rw [hl] at hlen; simp at hlen; omega | cons b r => exact ⟨b, r, rfl⟩
    have g0 := h2.get (i := 0) (b := b0) (by rw [hs]; rfl)
    obtain ⟨g1, g2, g3⟩ := rd_cut (S := S) h1 h2 h3 h4 hr.short (k := 1) (by omega)
    have hcap := h2.hcap
    have hp : (0 : Nat) < len := by omega
    have hbe : beNat (s.src.take 1) = b0.toNat := by rw [hs]; simp [beNat]
    simp [Addr.add_mk, c0, hlt', hp, g0, Value.cells, hv, hbe]
    simp at g1 g2 g3
    refine ⟨by omega, by omega, g1, ?_, g2, g3⟩
    rcases Nat.eq_zero_or_pos b0.toNat with h0 | h0
    · simp [h0]
    · have : ¬ b0.toNat = 0 := by omega
      simp [this]
theorem rInt8_call (hm : P.follows .mixedOrders = true) (h : liftF P (F rInt8) = some (ir_rInt8 F)) :
    RdC P (F rInt8) fun s => (.int .i8 (IntKind.i8.wrap (rdN 1 s).1), (rdN 1 s).2) := by
  intro S w rb s hr hS
  obtain ⟨base, len, cap, h1, h2, h3, h4⟩ := hr.ex
  refine call_of h hm (by simp) ?_
  have hlen := h2.hlen
  have c0 : w.cell? ⟨rb, 0, none⟩ = some (.slice base len cap) := h1.cell 0
  by_cases hlt : len < 1
  · have hlt' : (len : Int) < 1 := by omega
    obtain ⟨f1, f2, f3, f4⟩ := rd_fail (S := S) h1
    have hv : rdN 1 s = (0, RS.fail) := by unfold rdN; rw [if_neg (by omega)]
    simp [Addr.add_mk, c0, hlt', Value.cells, f1, f2, f3, f4, hv]
    simp [wrap_zero]
  · have hlt' : ¬ (len : Int) < 1 := by omega
    have hv : rdN 1 s = (beNat (s.src.take 1), { s with src := s.src.drop 1 }) := by unfold rdN; rw [if_pos (by omega)]
    obtain ⟨a, rfl⟩ : ∃ a, base = some a := by
      cases base with
      | some a => exact ⟨a, rfl⟩
      | none => have := h2.hnone rfl; have := h2.hcap; omega
    obtain ⟨b0, r0, hs⟩ : ∃ b r, s.src = b :: r := by cases hl : s.src with | nil => rw [hl] at hlen; simp at hlen; omega | cons b r => exact ⟨b, r, rfl⟩
    have g0 := h2.get (i := 0) (b := b0) (by rw [hs]; rfl)
    obtain ⟨g1, g2, g3⟩ := rd_cut (S := S) h1 h2 h3 h4 hr.short (k := 1) (by omega)
    have hcap := h2.hcap
    have hp : (0 : Nat) < len := by omega
    have hbe : beNat (s.src.take 1) = b0.toNat := by rw [hs]; simp [beNat]
    simp [Addr.add_mk, c0, hlt', hp, g0, Value.cells, hv, hbe]
    simp at g1 g2 g3
    exact ⟨by omega, by omega, g1, g2, g3⟩
theorem rUint16_call (hm : P.follows .mixedOrders = true) (h : liftF P (F rUint16) = some (ir_rUint16 F)) (hbe : liftF P (F beUint16) = some (ir_beUint16 F)) :
    RdC P (F rUint16) fun s => (.int .u16 (rdN 2 s).1, (rdN 2 s).2) := by
  intro S w rb s hr hS
  obtain ⟨base, len, cap, h1, h2, h3, h4⟩ := hr.ex
  refine call_of h hm (by simp) ?_
  have hlen := h2.hlen
  have c0 : w.cell? ⟨rb, 0, none⟩ = some (.slice base len cap) := h1.cell 0
  by_cases hlt : len < 2
  · have hlt' : (len : Int) < 2 := by omega
    obtain ⟨f1, f2, f3, f4⟩ := rd_fail (S := S) h1
    have hv : rdN 2 s = (0, RS.fail) := by unfold rdN; rw [if_neg (by omega)]
    simp [Addr.add_mk, c0, hlt', Value.cells, f1, f2, f3, f4, hv]
  · have hlt' : ¬ (len : Int) < 2 := by omega
    have hv : rdN 2 s = (beNat (s.src.take 2), { s with src := s.src.drop 2 }) := by unfold rdN; rw [if_pos (by omega)]
    simp [Addr.add_mk, c0, hlt']
    obtain ⟨a, rfl⟩ : ∃ a, base = some a := by
      cases base with
      | some a => exact ⟨a, rfl⟩
      | none => have := h2.hnone rfl; have := h2.hcap; omega
    refine wpD_one (.int .u16 (beNat (s.src.take 2) : Nat)) ?_
    have c0' : w.drew.cell? ⟨rb, 0, none⟩ = some (.slice (some a) len cap) := c0
    simp [walkB, RK.val?, Addr.add_mk, c0', cellsAt]
    refine ⟨fun w1 hw => ?_, fun w1 hw => ?_⟩
    · have hw' : Mod [] w w1 := (Mod.drew _ _).trans hw
      exact (beUint16_call (w := w1) hm hbe (h2.mod hw' (by simp)) (by omega)).mono fun e w' h => h
    · have hw' : Mod [] w w1 := (Mod.drew _ _).trans hw
      have c1 : w1.cell? ⟨rb, 0, none⟩ = some (.slice (some a) len cap) := (h1.mod hw' (by simp)).cell 0
      obtain ⟨g1, g2, g3⟩ := rd_cut (S := S) (h1.mod hw' (by simp)) (h2.mod hw' (by simp)) h3 (fun a h => ⟨(h4 a h).1, (h4 a h).2.1, Nat.lt_of_lt_of_le (h4 a h).2.2 hw'.size⟩) hr.short (k := 2) (by omega)
      have hcap := h2.hcap
      simp [c1, Value.cells, hv]
      simp at g1 g2 g3
      exact ⟨by omega, by omega, g1, g2, hw'.nil.trans g3⟩
theorem u64_nat {n : Nat} (h : n < 18446744073709551616) : IntKind.u64.wrap (n : Int) = n := by
  simp [IntKind.wrap, IntKind.bits, IntKind.signed]; omega
theorem be_chunk {t i s X len cap : Nat} {ii ss : Int} {a : Addr} {l : List UInt8} {b : UInt8} {σ : Sl} {w : World} {rest : List RI} {Q : Sl → World → Prop} (ht : 2 ≤ t) (hb : IsBytes w (some a) len cap l) (hi : l[i]? = some b) (hX : X < 2 ^ s) (hs : s ≤ 56)
    (eii : ii = i) (ess : ss = s) (h1 : σ 1 = .slice (some a) len cap) (hx : σ (t - 1) = .int .u64 X)
    (hQ : ∀ σ', (∀ j, j < t → σ' j = σ j) → σ' (t + 5) = .int .u64 ((X + b.toNat * 2 ^ s : Nat) : Int) → wpR P rest σ' w Q) :
    wpR P (⟨some t, .mv (.tmp 1), none⟩ :: ⟨some (t + 1), .iad (.tmp t) (.const (.int .i64 ii)) 1, none⟩ :: ⟨some (t + 2), .ld (.tmp (t + 1)), none⟩ :: ⟨some (t + 3), .conv .u64 (.tmp (t + 2)), none⟩ ::
      ⟨some (t + 4), .bin .shl (.tmp (t + 3)) (.const (.int .u64 ss)), none⟩ :: ⟨some (t + 5), .bin .or (.tmp (t - 1)) (.tmp (t + 4)), none⟩ :: rest) σ w Q := by
  subst eii ess
  have hlt := hb.lt hi
  have hg := hb.get hi
  have hbl := byte_lt b
  have hp : (2 : Nat) ^ s ≤ 2 ^ 56 := Nat.pow_le_pow_right (by omega) hs
  have hm1 : b.toNat * 2 ^ s ≤ 255 * 2 ^ 56 := Nat.mul_le_mul (by omega) hp
  have h2 : b.toNat * 2 ^ s < 18446744073709551616 := by omega
  have ew : IntKind.u64.wrap (b.toNat : Int) = b.toNat := u64_nat (by omega)
  have e1 : intBin .shl .u64 (b.toNat : Int) (s : Int) = some (.int .u64 ((b.toNat * 2 ^ s : Nat) : Int)) := bin_shl (k := .u64) rfl (by simp only [IntKind.bits]; omega) (by simpa [IntKind.bits] using h2)
  have e2 : intBin .or .u64 (X : Int) ((b.toNat * 2 ^ s : Nat) : Int) = some (.int .u64 ((X + b.toNat * 2 ^ s : Nat) : Int)) := by
    have e := bin_or (k := .u64) rfl (x := X) (y := b.toNat * 2 ^ s) (by simp only [IntKind.bits]; omega) (by simpa [IntKind.bits] using h2)
    rw [e, Nat.or_comm, Nat.or_comm, or_add b.toNat X s hX, Nat.add_comm]
  refine wpR_step (v := .slice (some a) len cap) (congrArg some h1) ?_
  refine wpR_step (v := .pointer (some (a.add i))) (by simp only [RK.val?, ev, updo, upd, if_true]; rw [if_pos (by omega)]; simp) ?_
  refine wpR_step (v := .int .u8 b.toNat) (by simp only [RK.val?, ev, updo, upd, if_true]; exact hg) ?_
  refine wpR_step (v := .int .u64 b.toNat) (by simp only [RK.val?, ev, updo, upd, if_true, ew]) ?_
  refine wpR_step (v := .int .u64 ((b.toNat * 2 ^ s : Nat) : Int)) (by simp only [RK.val?, ev, updo, upd, if_true, isShift, Bool.true_or]; exact e1) ?_
  refine wpR_step (v := .int .u64 ((X + b.toNat * 2 ^ s : Nat) : Int)) (by
    simp only [RK.val?, ev, updo, upd, show t - 1 ≠ t + 4 by omega, show t - 1 ≠ t + 3 by omega, show t - 1 ≠ t + 2 by omega, show t - 1 ≠ t + 1 by omega, show t - 1 ≠ t by omega, if_false, if_true, hx, decide_true, Bool.or_true]
    exact e2) ?_
  refine hQ _ (fun j hj => ?_) (by simp only [updo, upd, if_true])
  simp only [updo, upd, show j ≠ t by omega, show j ≠ t + 1 by omega, show j ≠ t + 2 by omega, show j ≠ t + 3 by omega, show j ≠ t + 4 by omega, show j ≠ t + 5 by omega, if_false]
theorem beNat8 (b0 b1 b2 b3 b4 b5 b6 b7 : UInt8) (r : List UInt8) : beNat ((b0 :: b1 :: b2 :: b3 :: b4 :: b5 :: b6 :: b7 :: r).take 8) =
    b7.toNat + b6.toNat * 2 ^ 8 + b5.toNat * 2 ^ 16 + b4.toNat * 2 ^ 24 + b3.toNat * 2 ^ 32 + b2.toNat * 2 ^ 40 + b1.toNat * 2 ^ 48 + b0.toNat * 2 ^ 56 := by
  simp [beNat]; omega
theorem beUint64_call {w : World} (hm : P.follows .mixedOrders = true) (h : liftF P (F beUint64) = some (ir_beUint64 F)) {a : Addr} {len cap : Nat} {l : List UInt8}
    (hb : IsBytes w (some a) len cap l) (h2 : 8 ≤ l.length) :
    Calls P (F beUint64) [.agg #[], .slice (some a) len cap].toArray w fun e w' => e = .returned (.int .u64 (beNat (l.take 8) : Nat)) ∧ Mod [] w w' := by
  obtain ⟨b0, b1, b2, b3, b4, b5, b6, b7, r, rfl⟩ : ∃ b0 b1 b2 b3 b4 b5 b6 b7 r, l = b0 :: b1 :: b2 :: b3 :: b4 :: b5 :: b6 :: b7 :: r := by
    match l, h2 with
    | b0 :: b1 :: b2 :: b3 :: b4 :: b5 :: b6 :: b7 :: r, _ => exact ⟨b0, b1, b2, b3, b4, b5, b6, b7, r, rfl⟩
  unfold ir_beUint64 at h
  refine call_of h hm (by simp) ?_
  have hl7 : 7 < len := hb.lt (i := 7) rfl
  have c0 := byte_lt b0
  have c1 := byte_lt b1
  have c2 := byte_lt b2
  have c3 := byte_lt b3
  have c4 := byte_lt b4
  have c5 := byte_lt b5
  have c6 := byte_lt b6
  have c7 := byte_lt b7
  rw [beNat8]
  have a0 : args0 [.agg #[], .slice (some a) len cap] 0 = .agg #[] := rfl
  have a1 : args0 [.agg #[], .slice (some a) len cap] 1 = .slice (some a) len cap := rfl
  generalize args0 [.agg #[], .slice (some a) len cap] = σ0 at a0 a1 ⊢
  rw [wpC_seq, wpC_blk]
  refine wpR_run ?_
  intro T
  have hm1 : Mod [] w (w.alloc (.cells (ev σ0 (.tmp 0)).cells.toList.toArray T)) := Mod.alloc _ _ _
  generalize w.alloc (.cells (ev σ0 (.tmp 0)).cells.toList.toArray T) = w1 at hm1 ⊢
  have hb1 := hb.mod hm1 (by simp)
  refine wpR_step (v := .int .u64 0) rfl ?_
  refine wpR_done ?_
  rw [wpC_seq, wpC_blk]
  refine wpR_step (v := .slice (some a) len cap) (by simp only [RK.val?, ev, updo, upd]; simp [a1]) ?_
  refine wpR_step (v := .pointer (some (a.add 7))) (by simp only [RK.val?, ev, updo, upd, if_true]; rw [if_pos (by omega)]; simp) ?_
  refine wpR_step (v := .int .u8 b7.toNat) (by simp only [RK.val?, ev, updo, upd, if_true]; exact hb1.get (i := 7) rfl) ?_
  refine wpR_done ?_
  generalize hσ : updo _ (some 7) _ = σ1
  have k1 : σ1 1 = .slice (some a) len cap := by rw [← hσ]; simp [updo, upd, a1]
  clear hσ
  rw [wpC_seq]
  refine wpD_pure rfl ?_
  have hm2 : Mod [] w w1.drew := hm1.trans (Mod.drew _ _)
  have hb2 : IsBytes w1.drew (some a) len cap (b0 :: b1 :: b2 :: b3 :: b4 :: b5 :: b6 :: b7 :: r) := hb.mod hm2 (by simp)
  generalize w1.drew = w2 at hm2 hb2 ⊢
  simp only [List.map_cons, List.map_nil, List.append_nil]
  have ew : IntKind.u64.wrap (b7.toNat : Int) = b7.toNat := u64_nat (by omega)
  refine wpR_step (v := .slice (some a) len cap) (congrArg some k1) ?_
  refine wpR_step (v := .pointer (some (a.add 7))) (by simp only [RK.val?, ev, updo, upd, if_true]; rw [if_pos (by omega)]; simp) ?_
  refine wpR_step (v := .int .u8 b7.toNat) (by simp only [RK.val?, ev, updo, upd, if_true]; exact hb2.get (i := 7) rfl) ?_
  refine wpR_step (v := .int .u64 b7.toNat) (by simp only [RK.val?, ev, updo, upd, if_true, ew]) ?_
  refine be_chunk (t := 12) (i := 6) (s := 8) (X := b7.toNat) (by omega) hb2 rfl (by omega) (by omega) rfl rfl (by simp only [updo, upd]; simp [k1]) (by simp only [updo, upd]; simp) fun σ2 q2 x2 => ?_
  refine be_chunk (t := 18) (i := 5) (s := 16) (by omega) hb2 rfl (by omega) (by omega) rfl rfl (by rw [q2 1 (by omega)]; simp only [updo, upd]; simp [k1]) x2 fun σ3 q3 x3 => ?_
  refine be_chunk (t := 24) (i := 4) (s := 24) (by omega) hb2 rfl (by omega) (by omega) rfl rfl (by rw [q3 1 (by omega), q2 1 (by omega)]; simp only [updo, upd]; simp [k1]) x3 fun σ4 q4 x4 => ?_
  refine be_chunk (t := 30) (i := 3) (s := 32) (by omega) hb2 rfl (by omega) (by omega) rfl rfl (by rw [q4 1 (by omega), q3 1 (by omega), q2 1 (by omega)]; simp only [updo, upd]; simp [k1]) x4 fun σ5 q5 x5 => ?_
  have z5 : σ5 1 = .slice (some a) len cap := by rw [q5 1 (by omega), q4 1 (by omega), q3 1 (by omega), q2 1 (by omega)]; simp only [updo, upd]; simp [k1]
  refine be_chunk (t := 36) (i := 2) (s := 40) (by omega) hb2 rfl (by omega) (by omega) rfl rfl z5 x5 fun σ6 q6 x6 => ?_
  refine be_chunk (t := 42) (i := 1) (s := 48) (by omega) hb2 rfl (by omega) (by omega) rfl rfl ((q6 1 (by omega)).trans z5) x6 fun σ7 q7 x7 => ?_
  refine be_chunk (t := 48) (i := 0) (s := 56) (by omega) hb2 rfl (by omega) (by omega) rfl rfl ((q7 1 (by omega)).trans ((q6 1 (by omega)).trans z5)) x7 fun σ8 q8 x8 => ?_
  refine wpR_step (congrArg some x8) ?_
  simp only [wpR, thenC, wpC, postC, rvals, List.mapM_cons, List.mapM_nil, RV.val, updo, upd, if_true, Option.bind_eq_bind, Option.bind_some, Option.pure_def, tup_one]
  exact ⟨trivial, hm2⟩
end
end Go.Msk

namespace Go.Msk
open Go.RowKit
set_option maxRecDepth 100000
def rdUuid (s : RS) : List UInt8 × RS := ((rdSpan 16 s).1.getD (List.replicate 16 0), (rdSpan 16 s).2)
def rdCl (s : RS) : Int × RS := (((rdUv s).1 : Int) - 1, (rdUv s).2)
def rdCString (s : RS) : List UInt8 × RS := ((rdSpan (rdCl s).1 (rdCl s).2).1.getD [], (rdSpan (rdCl s).1 (rdCl s).2).2)
def rdCNullableString (s : RS) : Option (List UInt8) × RS :=
  if (rdCl s).1 < 0 then (none, (rdCl s).2) else (some ((rdSpan (rdCl s).1 (rdCl s).2).1.getD []), (rdSpan (rdCl s).1 (rdCl s).2).2)
def rdBytes (s : RS) : Option (List UInt8) × RS :=
  let n := IntKind.i32.wrap (rdN 4 s).1
  if n = -1 then (some [], (rdN 4 s).2) else rdSpan n (rdN 4 s).2
def rdCBytes (s : RS) : Option (List UInt8) × RS := if (rdCl s).1 = -1 then (some [], (rdCl s).2) else rdSpan (rdCl s).1 (rdCl s).2
def rdCNullableBytes (s : RS) : Option (List UInt8) × RS := if (rdCl s).1 < 0 then (none, (rdCl s).2) else rdSpan (rdCl s).1 (rdCl s).2
def rdCArrayLen (s : RS) : Int × RS :=
  let n := IntKind.i32.wrap (IntKind.i32.wrap (rdUv s).1 - 1)
  if ((rdUv s).2.src.length : Int) < n then (0, RS.fail) else (n, (rdUv s).2)
theorem rdSpan_16 {s : RS} {l : List UInt8} (h : (rdSpan 16 s).1 = some l) : l.length = 16 := by
  unfold rdSpan at h
  split at h
  · simp at h
  · simp only at h
    split at h
    · simp at h
    · simp only [Option.some.injEq] at h; subst h; simp; omega
theorem rdUuid_len (s : RS) : (rdUuid s).1.length = 16 := by
  unfold rdUuid
  cases h : (rdSpan 16 s).1 with
  | none => simp
  | some l => simpa using rdSpan_16 h
theorem IsRd.freshL {S S' : List Nat} {w w' : World} {rb : Nat} {s : RS} (h : IsRd S w rb s) (hm : Mod [] w w') (hS : ∀ x ∈ S', x ∈ S ∨ w.heap.size ≤ x) : IsRd S' w' rb s := by
  obtain ⟨base, len, cap, h1, h2, h3, h4⟩ := h.ex
  refine ⟨⟨base, len, cap, h1.mod hm (by simp), h2.mod hm (by simp), h3, fun a ha => ?_⟩, h.short⟩
  obtain ⟨k1, k2, k3⟩ := h4 a ha
  refine ⟨k1, fun hx => ?_, Nat.lt_of_lt_of_le k3 hm.size⟩
  rcases hS _ hx with hx | hx
  · exact k2 hx
  · omega
theorem IsRd.weakL {S S' : List Nat} {w : World} {rb : Nat} {s : RS} (h : IsRd S w rb s) (hS : ∀ x ∈ S', x ∈ S) : IsRd S' w rb s := by
  obtain ⟨base, len, cap, h1, h2, h3, h4⟩ := h.ex
  exact ⟨⟨base, len, cap, h1, h2, h3, fun a ha => ⟨(h4 a ha).1, fun hx => (h4 a ha).2.1 (hS _ hx), (h4 a ha).2.2⟩⟩, h.short⟩
section
variable {P : Program} {F : Nat → Nat}
theorem rUuid_call (hm : P.follows .mixedOrders = true) (h : liftF P (F rUuid) = some (ir_rUuid F)) (hsp : liftF P (F rSpan) = some (ir_rSpan F)) :
    RdC P (F rUuid) fun s => (.agg (u8s (rdUuid s).1).toArray, (rdUuid s).2) := by
  intro S w rb s hr hS
  unfold ir_rUuid at h
  have hz : ([.int .u8 0, .int .u8 0, .int .u8 0, .int .u8 0, .int .u8 0, .int .u8 0, .int .u8 0, .int .u8 0, .int .u8 0, .int .u8 0, .int .u8 0, .int .u8 0, .int .u8 0, .int .u8 0, .int .u8 0, .int .u8 0] : List Value) = u8s (List.replicate 16 0) := by rfl
  rw [hz] at h
  refine call_of h hm (by simp) ?_
  have a0 : args0 [.pointer (some ⟨rb, 0, none⟩)] 0 = .pointer (some ⟨rb, 0, none⟩) := rfl
  generalize args0 [.pointer (some ⟨rb, 0, none⟩)] = σ0 at a0 ⊢
  have hrlt := hr.lt
  rw [wpC_seq, wpC_blk]
  refine wpR_run ?_
  intro T2
  have b2 := Blk.new w (u8s (List.replicate 16 0)) T2
  have m1 : Mod [] w (w.alloc (.cells (u8s (List.replicate 16 0)).toArray T2)) := Mod.alloc _ _ _
  have z1 : (w.alloc (.cells (u8s (List.replicate 16 0)).toArray T2)).heap.size = w.heap.size + 1 := by simp
  generalize w.alloc (.cells (u8s (List.replicate 16 0)).toArray T2) = w1 at b2 m1 z1 ⊢
  refine wpR_done ?_
  rw [wpC_seq, wpC_blk]
  refine wpR_run ?_
  intro T3
  have b3 := Blk.new w1 (u8s (List.replicate 16 0)) T3
  have m2 : Mod [] w1 (w1.alloc (.cells (u8s (List.replicate 16 0)).toArray T3)) := Mod.alloc _ _ _
  have z2 : (w1.alloc (.cells (u8s (List.replicate 16 0)).toArray T3)).heap.size = w1.heap.size + 1 := by simp
  generalize w1.alloc (.cells (u8s (List.replicate 16 0)).toArray T3) = w2 at b3 m2 z2 ⊢
  refine wpR_done ?_
  rw [wpC_seq]
  generalize hσ : updo _ (some 3) _ = σ1
  have k0 : σ1 0 = .pointer (some ⟨rb, 0, none⟩) := by rw [← hσ]; simp [updo, upd, a0]
  have k2 : σ1 2 = .pointer (some ⟨w.heap.size, 0, none⟩) := by rw [← hσ]; simp [updo, upd]
  have k3 : σ1 3 = .pointer (some ⟨w1.heap.size, 0, none⟩) := by rw [← hσ]; simp [updo, upd]
  clear hσ
  have md : Mod [] w2 w2.drew := Mod.drew _ _
  have m02 : Mod [] w w2.drew := (m1.trans m2).trans md
  have hrd : IsRd (w.heap.size :: w1.heap.size :: S) w2.drew rb s := hr.freshL m02 (fun x hx => by
    rcases List.mem_cons.1 hx with rfl | hx
    · exact .inr (Nat.le_refl _)
    · rcases List.mem_cons.1 hx with rfl | hx
      · exact .inr (by omega)
      · exact .inl hx)
  have b3d : Blk w2.drew w1.heap.size (u8s (List.replicate 16 0)) := b3.of_heap rfl
  have b2d : Blk w2.drew w.heap.size (u8s (List.replicate 16 0)) := (b2.mod m2 (by simp)).of_heap rfl
  show wpD P _ _ _ w2.drew _
  generalize w2.drew = wd at md m02 hrd b3d b2d ⊢
  generalize hS' : w.heap.size :: w1.heap.size :: S = S' at hrd
  refine ⟨fun u v => Mod [rb] u v ∧ (IsRd S' u rb (rdSpan 16 s).2 → IsRd S' v rb (rdSpan 16 s).2), fun _ v w' => OctX (rb :: S') w' v (rdSpan 16 s).1 ∧ IsRd S' w' rb (rdSpan 16 s).2, fun j w' => j = 2 → w' = wd,
    fun _ => ⟨Mod.refl _ _, fun h => h⟩, fun _ _ _ h1 h2 => ⟨h1.1.trans h2.1, fun h => h2.2 (h1.2 h)⟩, fun _ v w' w'' h1 h2 => ⟨OctX.mod h1.1 h2.1 (by simp), h2.2 h1.2⟩, fun _ _ => rfl, ?_⟩
  refine walkN_step (v := .slice (some ⟨w1.heap.size, 0, none⟩) 16 16) (fun _ _ => by simp only [RK.val?, ev, k3]) ?_
  refine walkN_step (v := .pointer (some ⟨rb, 0, none⟩)) (fun _ _ => by simp only [RK.val?, ev, updo, upd]; simp [k0]) ?_
  refine walkN_node (fun w3 hR hN _ => ?_) fun v hv => ?_
  · have hN := hN rfl
    subst hN
    have hc := rSpan_call hm hsp hrd 16
    simp only [RK.run]
    have ha : ([.tmp 5, .const (.int .i64 16)] : List Operand).map (ev (updo (updo σ1 (some 4) (.slice (some ⟨w1.heap.size, 0, none⟩) 16 16)) (some 5) (.pointer (some ⟨rb, 0, none⟩)))) = [.pointer (some ⟨rb, 0, none⟩), .int .i64 16] := by
      simp only [List.map_cons, List.map_nil, ev, updo, upd, if_true]
    rw [ha]
    refine hc.mono ?_
    rintro e w4 ⟨v, rfl, h1, h2, h3⟩
    exact ⟨v, rfl, ⟨h3, fun _ => h2⟩, ⟨h1, h2⟩, fun j hj _ h => absurd h hj⟩
  simp only [walk]
  intro w4 hR hk
  have hk2 := hk 2 (by simp) _ rfl rfl rfl 6 rfl
  obtain ⟨ho, hr4⟩ := hk2
  have e6 : updo (updo (updo σ1 (some 4) (.slice (some ⟨w1.heap.size, 0, none⟩) 16 16)) (some 5) (.pointer (some ⟨rb, 0, none⟩))) (some 6) v 6 = v := by simp only [updo, upd, if_true]
  rw [e6] at ho
  have nb3 : w1.heap.size ≠ rb := by omega
  have b34 : Blk w4 w1.heap.size (u8s (List.replicate 16 0)) := b3d.mod hR.1 (by simpa using nb3)
  have b24 : Blk w4 w.heap.size (u8s (List.replicate 16 0)) := b2d.mod hR.1 (by simp; omega)
  -- what is copied
  obtain ⟨n, src, hsrc, hsrc2, hn1, hn2⟩ : ∃ n src, srcCells w4 1 v = some (n, src) ∧ splice (u8s (List.replicate 16 0)) 0 (src.take (Nat.min n 16 * 1)) = u8s (rdUuid s).1 ∧ (src.take (Nat.min n 16 * 1)).length ≤ 16 ∧ ∀ y ∈ src.take (Nat.min n 16 * 1), y.oneCell' = true := by
    obtain ⟨h1, -⟩ := ho
    unfold rdUuid
    cases hd : (rdSpan 16 s).1 with
    | none =>
      rw [hd] at h1
      have : v = .slice none 0 0 := h1
      subst this
      exact ⟨0, [], rfl, by simp [splice], by simp, by simp⟩
    | some l =>
      rw [hd] at h1
      obtain ⟨a, len, cap, rfl, hb⟩ := h1
      have hl16 := rdSpan_16 hd
      have hlen := hb.hlen
      have e16 : len = 16 := by omega
      subst e16
      refine ⟨16, u8s l, ?_, ?_, ?_, ?_⟩
      · simp only [srcCells]
        rw [cellsAt_of' (hb.hcells a rfl) (by rw [u8s_length]; omega)]; rfl
      · have : (u8s l).take (Nat.min 16 16 * 1) = u8s l := List.take_of_length_le (by rw [u8s_length]; simp; omega)
        rw [this, splice_all (by simp [u8s_length]; omega)]; rfl
      · simp; omega
      · intro y hy
        have := List.mem_of_mem_take hy
        simp [u8s] at this; obtain ⟨b, -, rfl⟩ := this; rfl
  refine wpR_run ?_
  have e4 : ev (updo (updo (updo σ1 (some 4) (.slice (some ⟨w1.heap.size, 0, none⟩) 16 16)) (some 5) (.pointer (some ⟨rb, 0, none⟩))) (some 6) v) (.tmp 4) = .slice (some ⟨w1.heap.size, 0, none⟩) 16 16 := by simp [ev, updo, upd]
  have e6' : ev (updo (updo (updo σ1 (some 4) (.slice (some ⟨w1.heap.size, 0, none⟩) 16 16)) (some 5) (.pointer (some ⟨rb, 0, none⟩))) (some 6) v) (.tmp 6) = v := e6
  simp only [RK.run, e4, e6', hsrc]
  have hput : Mod [w1.heap.size] w4 (putCells w4 ⟨w1.heap.size, 0, none⟩ 0 (src.take (Nat.min n 16 * 1))) := Mod.put (by simp)
  have hp := b34.put (o := 0) (vs := src.take (Nat.min n 16 * 1)) (by rw [u8s_length, List.length_replicate]; omega)
  rw [hsrc2] at hp
  refine ⟨stOk_many b34 (by simp only [u8s_length, List.length_replicate]; omega) hn2, ?_⟩
  refine wpR_done ?_
  have hl := rdUuid_len s
  rw [wpC_seq, wpC_blk]
  refine wpR_step (v := .agg (u8s (rdUuid s).1).toArray) (by
    simp only [RK.val?, ev, updo, upd, show (3 : Nat) ≠ 7 by decide, show (3 : Nat) ≠ 6 by decide, show (3 : Nat) ≠ 5 by decide, show (3 : Nat) ≠ 4 by decide, if_false, k3]
    rw [cellsAt_of' hp.cells (n := 16) (by rw [u8s_length]; omega)]; rfl) ?_
  refine wpR_run ?_
  have ec : (Value.agg (u8s (rdUuid s).1).toArray).cells = (u8s (rdUuid s).1).toArray := rfl
  have hne2 : w.heap.size ≠ w1.heap.size := by omega
  have b25 := b24.mod hput (by simpa using hne2)
  generalize hw5 : putCells w4 ⟨w1.heap.size, 0, none⟩ 0 (src.take (Nat.min n 16 * 1)) = w5 at hput hp b25 ⊢
  have hput2 : Mod [w.heap.size] w5 (putCells w5 ⟨w.heap.size, 0, none⟩ 0 (u8s (rdUuid s).1)) := Mod.put (by simp)
  have hp2 := b25.put (o := 0) (vs := u8s (rdUuid s).1) (by simp [u8s_length]; omega)
  rw [splice_all (by simp [u8s_length]; omega)] at hp2
  simp only [RK.run, ev, updo, upd, if_true, show (2 : Nat) ≠ 8 by decide, show (2 : Nat) ≠ 7 by decide, show (2 : Nat) ≠ 6 by decide, show (2 : Nat) ≠ 5 by decide, show (2 : Nat) ≠ 4 by decide, if_false, k2, ec]
  refine ⟨by simp [u8s_length, hl], stOk_many b25 (by simp [u8s_length]; omega) (by
    intro y hy
    simp [u8s] at hy; obtain ⟨b, -, rfl⟩ := hy; rfl), ?_⟩
  refine wpR_done ?_
  simp only [wpC, postC, rvals, List.mapM_cons, List.mapM_nil, RV.val, upd, show (2 : Nat) ≠ 8 by decide, show (2 : Nat) ≠ 7 by decide, show (2 : Nat) ≠ 6 by decide, show (2 : Nat) ≠ 5 by decide, show (2 : Nat) ≠ 4 by decide, if_false, k2, cellsAt_of' hp2.cells (n := 16) (by rw [u8s_length]; omega), Option.bind_eq_bind, Option.map_some, Option.bind_some, Option.pure_def, tup_one]
  subst hS'
  refine ⟨trivial, ((hr4.mod hput (by simpa using nb3.symm) (by simp)).mod hput2 (by simp; omega) (by simp)).weakL (by simp; intro x hx; exact .inr (.inr hx)), ?_⟩
  refine Mod.drop (b := w.heap.size) (S := [rb]) ?_ (Nat.le_refl _)
  refine Mod.drop (b := w1.heap.size) (S := [w.heap.size, rb]) ?_ (by omega)
  exact ((m02.mono (by simp)).trans (hR.1.mono (by simp))).trans ((hput.mono (by simp)).trans (hput2.mono (by simp)))
theorem i64_small {n : Int} (h1 : -9223372036854775808 ≤ n) (h2 : n < 9223372036854775808) : IntKind.i64.wrap n = n := by
  simp [IntKind.wrap, IntKind.bits, IntKind.signed]; omega
attribute [local simp] bnd wpC wpR RI.wp gOk RK.run thenC inBlockC updo upd ev args0 postC rvals RV.val tup_one isShift
theorem rReadUint64_call (hm : P.follows .mixedOrders = true) (h : liftF P (F rReadUint64) = some (ir_rReadUint64 F)) (hbe : liftF P (F beUint64) = some (ir_beUint64 F)) :
    RdC P (F rReadUint64) fun s => (.int .u64 (rdN 8 s).1, (rdN 8 s).2) := by
  intro S w rb s hr hS
  obtain ⟨base, len, cap, h1, h2, h3, h4⟩ := hr.ex
  refine call_of h hm (by simp) ?_
  have hlen := h2.hlen
  have c0 : w.cell? ⟨rb, 0, none⟩ = some (.slice base len cap) := h1.cell 0
  by_cases hlt : len < 8
  · have hlt' : (len : Int) < 8 := by omega
    obtain ⟨f1, f2, f3, f4⟩ := rd_fail (S := S) h1
    have hv : rdN 8 s = (0, RS.fail) := by unfold rdN; rw [if_neg (by omega)]
    simp [Addr.add_mk, c0, hlt', Value.cells, f1, f2, f3, f4, hv]
  · have hlt' : ¬ (len : Int) < 8 := by omega
    have hv : rdN 8 s = (beNat (s.src.take 8), { s with src := s.src.drop 8 }) := by unfold rdN; rw [if_pos (by omega)]
    simp [Addr.add_mk, c0, hlt']
    obtain ⟨a, rfl⟩ : ∃ a, base = some a := by
      cases base with
      | some a => exact ⟨a, rfl⟩
      | none => have := h2.hnone rfl; have := h2.hcap; omega
    refine wpD_one (.int .u64 (beNat (s.src.take 8) : Nat)) ?_
    have c0' : w.drew.cell? ⟨rb, 0, none⟩ = some (.slice (some a) len cap) := c0
    simp [walkB, RK.val?, Addr.add_mk, c0', cellsAt]
    refine ⟨fun w1 hw => ?_, fun w1 hw => ?_⟩
    · have hw' : Mod [] w w1 := (Mod.drew _ _).trans hw
      exact (beUint64_call (w := w1) hm hbe (h2.mod hw' (by simp)) (by omega)).mono fun e w' h => h
    · have hw' : Mod [] w w1 := (Mod.drew _ _).trans hw
      have c1 : w1.cell? ⟨rb, 0, none⟩ = some (.slice (some a) len cap) := (h1.mod hw' (by simp)).cell 0
      obtain ⟨g1, g2, g3⟩ := rd_cut (S := S) (h1.mod hw' (by simp)) (h2.mod hw' (by simp)) h3 (fun a h => ⟨(h4 a h).1, (h4 a h).2.1, Nat.lt_of_lt_of_le (h4 a h).2.2 hw'.size⟩) hr.short (k := 8) (by omega)
      have hcap := h2.hcap
      simp [c1, Value.cells, hv]
      simp at g1 g2 g3
      exact ⟨by omega, by omega, g1, g2, hw'.nil.trans g3⟩
theorem rInt64_call (hm : P.follows .mixedOrders = true) (h : liftF P (F rInt64) = some (ir_rInt64 F)) (h64 : liftF P (F rReadUint64) = some (ir_rReadUint64 F)) (hbe : liftF P (F beUint64) = some (ir_beUint64 F)) :
    RdC P (F rInt64) fun s => (.int .i64 (IntKind.i64.wrap (rdN 8 s).1), (rdN 8 s).2) := by
  intro S w rb s hr hS
  refine call_of h hm (by simp) ?_
  simp []
  refine (rReadUint64_call hm h64 hbe S w rb s hr hS).mono ?_
  rintro e w1 ⟨rfl, hr1, hm1⟩
  simp [hr1, hm1]
theorem rCompactString_call (hm : P.follows .mixedOrders = true) (h : liftF P (F rCompactString) = some (ir_rCompactString F)) (huv : liftF P (F rUvarint) = some (ir_rUvarint F)) (hk : liftF P (F kUvarint) = some (ir_kUvarint F))
    (hsp : liftF P (F rSpan) = some (ir_rSpan F)) : RdC P (F rCompactString) fun s => (str (rdCString s).1, (rdCString s).2) := by
  intro S w rb s hr hS
  refine call_of h hm (by simp) ?_
  simp []
  refine (rUvarint_call hm huv hk S w rb s hr hS).mono ?_
  rintro e w1 ⟨rfl, hr1, hm1⟩
  have hlt := rdUv_lt s
  simp [i64_small (n := (rdUv s).1) (by omega) (by omega), i64_small (n := ((rdUv s).1 : Int) - 1) (by omega) (by omega)]
  refine (rSpan_call hm hsp hr1 _).mono ?_
  rintro e w2 ⟨v, rfl, ho, hr2, hm2⟩
  obtain ⟨base, n, c, rfl, hb⟩ := ho.bytes
  cases base with
  | none => simp at hb; simp [rdCString, rdCl, hb, str]; exact ⟨rfl, hr2, hm1.trans hm2⟩
  | some a => simp only at hb; simp [rdCString, rdCl, hb, str]; exact ⟨hr2, hm1.trans hm2⟩
theorem rUnsafeCompactString_call (hm : P.follows .mixedOrders = true) (h : liftF P (F rUnsafeCompactString) = some (ir_rUnsafeCompactString F)) (huv : liftF P (F rUvarint) = some (ir_rUvarint F)) (hk : liftF P (F kUvarint) = some (ir_kUvarint F))
    (hsp : liftF P (F rSpan) = some (ir_rSpan F)) (hus : liftF P (F kUnsafeString) = some (ir_kUnsafeString F)) : RdC P (F rUnsafeCompactString) fun s => (str (rdCString s).1, (rdCString s).2) := by
  intro S w rb s hr hS
  refine call_of h hm (by simp) ?_
  simp []
  refine (rUvarint_call hm huv hk S w rb s hr hS).mono ?_
  rintro e w1 ⟨rfl, hr1, hm1⟩
  have hlt := rdUv_lt s
  simp [i64_small (n := (rdUv s).1) (by omega) (by omega), i64_small (n := ((rdUv s).1 : Int) - 1) (by omega) (by omega)]
  refine (rSpan_call hm hsp hr1 _).mono ?_
  rintro e w2 ⟨v, rfl, ho, hr2, hm2⟩
  simp
  refine (kUnsafeString_call hm hus ho).mono ?_
  rintro e w3 ⟨rfl, rfl⟩
  simp [rdCString, rdCl]
  exact ⟨hr2, hm1.trans hm2⟩
theorem rCompactNullableBytes_call (hm : P.follows .mixedOrders = true) (h : liftF P (F rCompactNullableBytes) = some (ir_rCompactNullableBytes F)) (huv : liftF P (F rUvarint) = some (ir_rUvarint F)) (hk : liftF P (F kUvarint) = some (ir_kUvarint F))
    (hsp : liftF P (F rSpan) = some (ir_rSpan F)) {w : World} {S : List Nat} {rb : Nat} {s : RS} (hr : IsRd S w rb s) (hS : rb ∉ S) :
    Calls P (F rCompactNullableBytes) [.pointer (some ⟨rb, 0, none⟩)].toArray w fun e w' => ∃ v, e = .returned v ∧ OctX (rb :: S) w' v (rdCNullableBytes s).1 ∧ IsRd S w' rb (rdCNullableBytes s).2 ∧ Mod [rb] w w' := by
  refine call_of h hm (by simp) ?_
  simp []
  refine (rUvarint_call hm huv hk S w rb s hr hS).mono ?_
  rintro e w1 ⟨rfl, hr1, hm1⟩
  have hlt := rdUv_lt s
  by_cases hn : ((rdUv s).1 : Int) - 1 < 0
  · have hv : rdCNullableBytes s = (none, (rdUv s).2) := by unfold rdCNullableBytes; rw [if_pos (by simpa [rdCl] using hn)]; rfl
    simp [i64_small (n := (rdUv s).1) (by omega) (by omega), i64_small (n := ((rdUv s).1 : Int) - 1) (by omega) (by omega), hn, hv]
    exact ⟨⟨rfl, fun a n c h => by simp at h⟩, hr1, hm1⟩
  · have hv : rdCNullableBytes s = rdSpan (((rdUv s).1 : Int) - 1) (rdUv s).2 := by unfold rdCNullableBytes; rw [if_neg (by simpa [rdCl] using hn)]; rfl
    simp [i64_small (n := (rdUv s).1) (by omega) (by omega), i64_small (n := ((rdUv s).1 : Int) - 1) (by omega) (by omega), hn, hv]
    refine (rSpan_call hm hsp hr1 _).mono ?_
    rintro e w2 ⟨v, rfl, ho, hr2, hm2⟩
    simp
    exact ⟨ho, hr2, hm1.trans hm2⟩
theorem oct_empty {S : List Nat} {w : World} {T : TypeId} (hS : ∀ x ∈ S, x < w.heap.size) : OctX S (w.alloc (.cells [].toArray T)) (.slice (some ⟨w.heap.size, 0, none⟩) 0 0) (some []) := by
  have hb := Blk.new w [] T
  refine ⟨⟨⟨w.heap.size, 0, none⟩, 0, 0, rfl, ⟨rfl, Nat.le_refl _, fun h => by simp at h, fun a ha => ?_⟩⟩, fun a n c h => ?_⟩
  · simp only [Option.some.injEq] at ha; subst ha
    exact hb.cells
  · simp only [Value.slice.injEq, Option.some.injEq] at h
    rw [← h.1]
    exact ⟨fun hx => by have := hS _ hx; simp at this, hb.lt⟩
theorem rBytes_call (hm : P.follows .mixedOrders = true) (h : liftF P (F rBytes) = some (ir_rBytes F)) (h32 : liftF P (F rInt32) = some (ir_rInt32 F)) (hbe : liftF P (F beUint32) = some (ir_beUint32 F))
    (hsp : liftF P (F rSpan) = some (ir_rSpan F)) {w : World} {S : List Nat} {rb : Nat} {s : RS} (hr : IsRd S w rb s) (hS : rb ∉ S) (hSl : ∀ x ∈ S, x < w.heap.size) :
    Calls P (F rBytes) [.pointer (some ⟨rb, 0, none⟩)].toArray w fun e w' => ∃ v, e = .returned v ∧ OctX (rb :: S) w' v (rdBytes s).1 ∧ IsRd S w' rb (rdBytes s).2 ∧ Mod [rb] w w' := by
  refine call_of h hm (by simp) ?_
  simp []
  refine (rInt32_call hm h32 hbe S w rb s hr hS).mono ?_
  rintro e w1 ⟨rfl, hr1, hm1⟩
  by_cases hn : IntKind.i32.wrap (rdN 4 s).1 = -1
  · have hv : rdBytes s = (some [], (rdN 4 s).2) := by unfold rdBytes; simp only; rw [if_pos hn]
    have hoe := fun T => oct_empty (S := rb :: S) (w := w1) (T := T) (fun x hx => by
      rcases List.mem_cons.1 hx with rfl | hx
      · exact hr1.lt
      · exact Nat.lt_of_lt_of_le (hSl x hx) hm1.size)
    simp [hn, hv, zrep, fillL]
    exact fun T => ⟨hoe T, hr1.mod (Mod.alloc [] _ _) (by simp) (by simp), hm1.trans (Mod.alloc _ _ _)⟩
  · have hv : rdBytes s = rdSpan (IntKind.i32.wrap (rdN 4 s).1) (rdN 4 s).2 := by unfold rdBytes; simp only; rw [if_neg hn]
    have hnb : (IntKind.i32.wrap (rdN 4 s).1 == -1) = false := by simpa using hn
    simp [hnb, hv, i32_to_int]
    refine (rSpan_call hm hsp hr1 _).mono ?_
    rintro e w2 ⟨v, rfl, ho, hr2, hm2⟩
    simp
    exact ⟨ho, hr2, hm1.trans hm2⟩
theorem rCompactBytes_call (hm : P.follows .mixedOrders = true) (h : liftF P (F rCompactBytes) = some (ir_rCompactBytes F)) (huv : liftF P (F rUvarint) = some (ir_rUvarint F)) (hk : liftF P (F kUvarint) = some (ir_kUvarint F))
    (hsp : liftF P (F rSpan) = some (ir_rSpan F)) {w : World} {S : List Nat} {rb : Nat} {s : RS} (hr : IsRd S w rb s) (hS : rb ∉ S) (hSl : ∀ x ∈ S, x < w.heap.size) :
    Calls P (F rCompactBytes) [.pointer (some ⟨rb, 0, none⟩)].toArray w fun e w' => ∃ v, e = .returned v ∧ OctX (rb :: S) w' v (rdCBytes s).1 ∧ IsRd S w' rb (rdCBytes s).2 ∧ Mod [rb] w w' := by
  refine call_of h hm (by simp) ?_
  simp []
  refine (rUvarint_call hm huv hk S w rb s hr hS).mono ?_
  rintro e w1 ⟨rfl, hr1, hm1⟩
  have hlt := rdUv_lt s
  by_cases hn : ((rdUv s).1 : Int) - 1 = -1
  · have hv : rdCBytes s = (some [], (rdUv s).2) := by unfold rdCBytes; rw [if_pos (by simpa [rdCl] using hn)]; rfl
    have hoe := fun T => oct_empty (S := rb :: S) (w := w1) (T := T) (fun x hx => by
      rcases List.mem_cons.1 hx with rfl | hx
      · exact hr1.lt
      · exact Nat.lt_of_lt_of_le (hSl x hx) hm1.size)
    simp [i64_small (n := (rdUv s).1) (by omega) (by omega), hn, hv, zrep, fillL]
    exact fun T => ⟨hoe T, hr1.mod (Mod.alloc [] _ _) (by simp) (by simp), hm1.trans (Mod.alloc _ _ _)⟩
  · have hv : rdCBytes s = rdSpan (((rdUv s).1 : Int) - 1) (rdUv s).2 := by unfold rdCBytes; rw [if_neg (by simpa [rdCl] using hn)]; rfl
    have hnb : (((rdUv s).1 : Int) - 1 == -1) = false := by simpa using hn
    simp [i64_small (n := (rdUv s).1) (by omega) (by omega), i64_small (n := ((rdUv s).1 : Int) - 1) (by omega) (by omega), hnb, hv]
    refine (rSpan_call hm hsp hr1 _).mono ?_
    rintro e w2 ⟨v, rfl, ho, hr2, hm2⟩
    simp
    exact ⟨ho, hr2, hm1.trans hm2⟩
theorem rCompactArrayLen_call (hm : P.follows .mixedOrders = true) (h : liftF P (F rCompactArrayLen) = some (ir_rCompactArrayLen F)) (huv : liftF P (F rUvarint) = some (ir_rUvarint F)) (hk : liftF P (F kUvarint) = some (ir_kUvarint F)) :
    RdC P (F rCompactArrayLen) fun s => (.int .i32 (rdCArrayLen s).1, (rdCArrayLen s).2) := by
  intro S w rb s hr hS
  refine call_of h hm (by simp) ?_
  simp []
  refine (rUvarint_call hm huv hk S w rb s hr hS).mono ?_
  rintro e w1 ⟨rfl, hr1, hm1⟩
  obtain ⟨base, len, cap, h1, h2, h3, h4⟩ := hr1.ex
  have c0 : w1.cell? ⟨rb, 0, none⟩ = some (.slice base len cap) := h1.cell 0
  have hlen := h2.hlen
  generalize hN : IntKind.i32.wrap (IntKind.i32.wrap (rdUv s).1 - 1) = N
  by_cases hlt : (len : Int) < N
  · obtain ⟨f1, f2, f3, f4⟩ := rd_fail (S := S) h1
    have hv : rdCArrayLen s = (0, RS.fail) := by unfold rdCArrayLen; simp only; rw [hN, if_pos (by rw [← hlen]; exact hlt)]
    simp [Addr.add_mk, c0, hN]
    rw [← hN, i32_to_int, hN]
    simp [hlt, Value.cells, f1, f2, hv]
    exact ⟨f3, hm1.trans f4⟩
  · have hv : rdCArrayLen s = (N, (rdUv s).2) := by unfold rdCArrayLen; simp only; rw [hN, if_neg (by rw [← hlen]; exact hlt)]
    simp [Addr.add_mk, c0, hN]
    rw [← hN, i32_to_int, hN]
    simp [hlt, hv]
    exact ⟨hr1, hm1⟩
end
end Go.Msk

namespace Go.Msk
open Go.RowKit
set_option maxRecDepth 100000
section
variable {P : Program} {F : Nat → Nat}
attribute [local simp] bnd wpC wpR RI.wp gOk RK.run thenC inBlockC updo upd ev args0 postC rvals RV.val tup_one isShift
theorem rCompactNullableString_call {w : World} (hm : P.follows .mixedOrders = true) (h : liftF P (F rCompactNullableString) = some (ir_rCompactNullableString F)) (huv : liftF P (F rUvarint) = some (ir_rUvarint F)) (hk : liftF P (F kUvarint) = some (ir_kUvarint F))
    (hsp : liftF P (F rSpan) = some (ir_rSpan F)) {S : List Nat} {rb : Nat} {s : RS} (hr : IsRd S w rb s) (hS : rb ∉ S) :
    Calls P (F rCompactNullableString) [.pointer (some ⟨rb, 0, none⟩)].toArray w fun e w' => ∃ v, e = .returned v ∧ PStr w.heap.size w' v (rdCNullableString s).1 ∧ IsRd S w' rb (rdCNullableString s).2 ∧ Mod [rb] w w' := by
  refine call_of h hm (by simp) ?_
  simp []
  refine (rUvarint_call hm huv hk S w rb s hr hS).mono ?_
  rintro e w1 ⟨rfl, hr1, hm1⟩
  have hlt := rdUv_lt s
  by_cases hn : ((rdUv s).1 : Int) - 1 < 0
  · have hv : rdCNullableString s = (none, (rdUv s).2) := by unfold rdCNullableString; rw [if_pos (by simpa [rdCl] using hn)]; rfl
    simp [i64_small (n := (rdUv s).1) (by omega) (by omega), i64_small (n := ((rdUv s).1 : Int) - 1) (by omega) (by omega), hn, hv]
    exact ⟨rfl, hr1, hm1⟩
  · have hv : rdCNullableString s = (some ((rdSpan (((rdUv s).1 : Int) - 1) (rdUv s).2).1.getD []), (rdSpan (((rdUv s).1 : Int) - 1) (rdUv s).2).2) := by unfold rdCNullableString; rw [if_neg (by simpa [rdCl] using hn)]; rfl
    simp [i64_small (n := (rdUv s).1) (by omega) (by omega), i64_small (n := ((rdUv s).1 : Int) - 1) (by omega) (by omega), hn, hv]
    refine (rSpan_call hm hsp hr1 _).mono ?_
    rintro e w2 ⟨v, rfl, ho, hr2, hm2⟩
    obtain ⟨base, n, c, rfl, hb⟩ := ho.bytes
    simp only at hr1 hr2 hb
    generalize (rdSpan (((rdUv s).1 : Int) - 1) (rdUv s).2).1.getD [] = L at hb
    generalize (rdSpan (((rdUv s).1 : Int) - 1) (rdUv s).2).2 = s2 at hr2
    have hbox : ∀ T, _ := fun T => new_put w2 [.string .empty] [str L] T rfl (by simp [str, Value.oneCell'])
    have hfin : ∀ T, PStr w.heap.size (putCells (w2.alloc (.cells [.string .empty].toArray T)) ⟨w2.heap.size, 0, none⟩ 0 [str L])
        (.pointer (some ⟨w2.heap.size, 0, none⟩)) (some L) := fun T =>
      ⟨_, rfl, Nat.le_trans hm1.size hm2.size, (hbox T).2.1.cell 0⟩
    have hrd : ∀ T, IsRd S (putCells (w2.alloc (.cells [.string .empty].toArray T)) ⟨w2.heap.size, 0, none⟩ 0 [str L]) rb s2 :=
      fun T => hr2.mod (hbox T).2.2 (by simp) (by simp)
    have hmod : ∀ T, Mod [rb] w (putCells (w2.alloc (.cells [.string .empty].toArray T)) ⟨w2.heap.size, 0, none⟩ 0 [str L]) :=
      fun T => (hm1.trans hm2).trans (hbox T).2.2.nil
    cases base with
    | none =>
      simp only at hb
      rw [hb] at hbox hfin hrd hmod
      have e : str [] = .string .empty := rfl
      rw [e] at hbox hfin hrd hmod
      simp [hb, Value.cells]
      intro T
      exact ⟨(hbox T).1, hfin T, hrd T, hmod T⟩
    | some a =>
      simp only at hb
      simp [hb, Value.cells]
      intro T
      exact ⟨(hbox T).1, hfin T, hrd T, hmod T⟩
theorem rUnsafeCompactNullableString_call {w : World} (hm : P.follows .mixedOrders = true) (h : liftF P (F rUnsafeCompactNullableString) = some (ir_rUnsafeCompactNullableString F)) (huv : liftF P (F rUvarint) = some (ir_rUvarint F)) (hk : liftF P (F kUvarint) = some (ir_kUvarint F))
    (hsp : liftF P (F rSpan) = some (ir_rSpan F)) (hus : liftF P (F kUnsafeString) = some (ir_kUnsafeString F)) {S : List Nat} {rb : Nat} {s : RS} (hr : IsRd S w rb s) (hS : rb ∉ S) :
    Calls P (F rUnsafeCompactNullableString) [.pointer (some ⟨rb, 0, none⟩)].toArray w fun e w' => ∃ v, e = .returned v ∧ PStr w.heap.size w' v (rdCNullableString s).1 ∧ IsRd S w' rb (rdCNullableString s).2 ∧ Mod [rb] w w' := by
  refine call_of h hm (by simp) ?_
  simp []
  refine (rUvarint_call hm huv hk S w rb s hr hS).mono ?_
  rintro e w1 ⟨rfl, hr1, hm1⟩
  have hlt := rdUv_lt s
  by_cases hn : ((rdUv s).1 : Int) - 1 < 0
  · have hv : rdCNullableString s = (none, (rdUv s).2) := by unfold rdCNullableString; rw [if_pos (by simpa [rdCl] using hn)]; rfl
    simp [i64_small (n := (rdUv s).1) (by omega) (by omega), i64_small (n := ((rdUv s).1 : Int) - 1) (by omega) (by omega), hn, hv]
    exact ⟨rfl, hr1, hm1⟩
  · have hv : rdCNullableString s = (some ((rdSpan (((rdUv s).1 : Int) - 1) (rdUv s).2).1.getD []), (rdSpan (((rdUv s).1 : Int) - 1) (rdUv s).2).2) := by unfold rdCNullableString; rw [if_neg (by simpa [rdCl] using hn)]; rfl
    simp [i64_small (n := (rdUv s).1) (by omega) (by omega), i64_small (n := ((rdUv s).1 : Int) - 1) (by omega) (by omega), hn, hv]
    refine (rSpan_call hm hsp hr1 _).mono ?_
    rintro e w2 ⟨v, rfl, ho, hr2, hm2⟩
    simp only at hr1 hr2
    simp
    refine (kUnsafeString_call hm hus ho).mono ?_
    rintro e w3 ⟨rfl, rfl⟩
    simp [Value.cells, str]
    intro T
    obtain ⟨b1, b2, b3⟩ := new_put w3 [.string .empty] [str ((rdSpan (((rdUv s).1 : Int) - 1) (rdUv s).2).1.getD [])] T rfl (by simp [str, Value.oneCell'])
    exact ⟨b1, ⟨_, rfl, Nat.le_trans hm1.size hm2.size, b2.cell 0⟩, hr2.mod b3 (by simp) (by simp), (hm1.trans hm2).trans b3.nil⟩
end
end Go.Msk

namespace Go.Msk
def ir_iBoolTree (_F : Nat → Nat) : IC × List RV × Nat := (.seq (.blk [⟨some 2, .alloc [.int .i64 0, .slice none 0 0, .bool false, .slice none 0 0, .slice none 0 0], none⟩])
 (.seq (.seq (.blk [⟨some 3, .mv (.tmp 0), none⟩])
 (.cond (.tmp 3)
 (.seq (.blk [⟨some 4, .build [.int .i64 0, .slice none 0 0, .bool false, .slice none 0 0, .slice none 0 0] [(0, 1, .const (.int .i64 1))], none⟩,
 ⟨none, .st (.tmp 2) 5 (.tmp 4), none⟩])
 (.ret))
 (.skip)))
 (.seq (.blk [⟨some 5, .build [.int .i64 0, .slice none 0 0, .bool false, .slice none 0 0, .slice none 0 0] [], none⟩,
 ⟨none, .st (.tmp 2) 5 (.tmp 5), none⟩])
 (.ret))),
 [.cells 2 5], 6)
def ir_tSet (_F : Nat → Nat) : IC × List RV × Nat := (.seq (.seq (.blk [⟨some 6, .mv (.tmp 0), none⟩,
 ⟨some 7, .nilc (.tmp 6), none⟩,
 ⟨some 8, .fad (.tmp 7) 0, none⟩,
 ⟨some 9, .ld (.tmp 8), none⟩,
 ⟨some 10, .isnil .mp false (.tmp 9), none⟩])
 (.cond (.tmp 10)
 (.blk [⟨some 11, .mv (.tmp 0), none⟩,
 ⟨some 12, .mkmap, none⟩,
 ⟨some 13, .nilc (.tmp 11), none⟩,
 ⟨some 14, .fad (.tmp 13) 0, none⟩,
 ⟨none, .st (.tmp 14) 1 (.tmp 12), none⟩])
 (.skip)))
 (.blk [⟨some 15, .mv (.tmp 0), none⟩,
 ⟨some 16, .nilc (.tmp 15), none⟩,
 ⟨some 17, .fad (.tmp 16) 0, none⟩,
 ⟨some 18, .ld (.tmp 17), none⟩,
 ⟨some 19, .mv (.tmp 1), none⟩,
 ⟨some 20, .mv (.tmp 2), none⟩,
 ⟨none, .mapup (.tmp 18) (.tmp 19) (.tmp 20), none⟩]),
 [], 21)
def ir_tEach (F : Nat → Nat) : IC × List RV × Nat := (.seq (.seq (.blk [⟨some 8, .mv (.tmp 0), none⟩,
 ⟨some 9, .nilc (.tmp 8), none⟩,
 ⟨some 10, .fad (.tmp 9) 0, none⟩,
 ⟨some 11, .ld (.tmp 10), none⟩,
 ⟨some 12, .mlen (.tmp 11), none⟩,
 ⟨some 13, .bin .eql (.tmp 12) (.const (.int .i64 0)), none⟩])
 (.cond (.tmp 13)
 (.ret)
 (.skip)))
 (.seq (.blk [⟨some 14, .mv (.tmp 0), none⟩,
 ⟨some 15, .nilc (.tmp 14), none⟩,
 ⟨some 16, .fad (.tmp 15) 0, none⟩,
 ⟨some 17, .ld (.tmp 16), none⟩,
 ⟨some 18, .mlen (.tmp 17), none⟩,
 ⟨some 19, .mkslice (.const (.int .i64 0)) (.tmp 18) 4 [.int .u32 0], none⟩,
 ⟨some 4, .alloc [.slice none 0 0], none⟩,
 ⟨none, .st (.tmp 4) 1 (.tmp 19), none⟩])
 (.seq (.seq (.blk [⟨some 20, .mv (.tmp 0), none⟩,
 ⟨some 21, .nilc (.tmp 20), none⟩,
 ⟨some 22, .fad (.tmp 21) 0, none⟩,
 ⟨some 23, .ld (.tmp 22), none⟩,
 ⟨some 24, .mrng (.tmp 23), none⟩])
 (.block 0 (.loop (.seq (.blk [⟨some 25, .mnext (.tmp 24), none⟩,
 ⟨some 26, .ext (.tmp 25) 0, none⟩])
 (.seq (.cond (.tmp 26)
 (.skip)
 (.exit 0))
 (.block 1 (.seq (.blk [⟨some 27, .mentry (.tmp 24), none⟩,
 ⟨some 28, .ext (.tmp 27) 0, none⟩,
 ⟨some 5, .mv (.tmp 28), none⟩])
 (.blk [⟨some 29, .ld (.tmp 4), none⟩,
 ⟨some 30, .mv (.tmp 5), none⟩,
 ⟨some 31, .bslice 1 [.int .u32 0] [(0, 1, .tmp 30)], none⟩,
 ⟨some 32, .append (.tmp 29) (.tmp 31) 1 4, none⟩,
 ⟨none, .st (.tmp 4) 1 (.tmp 32), none⟩]))))))))
 (.seq (.blk [⟨some 33, .ld (.tmp 4), none⟩,
 ⟨some 34, .mkif (F tyU32s) (.tmp 33), none⟩,
 ⟨some 35, .mkfunc (.func (F tEach1)) [] [.tmp 4], none⟩,
 ⟨some 36, .call (F sortSlice) [.tmp 34, .tmp 35], none⟩])
 (.seq (.blk [⟨some 37, .ld (.tmp 4), none⟩,
 ⟨some 38, .len (.tmp 37), none⟩,
 ⟨some 39, .mv (.const (.int .i64 0)), none⟩])
 (.block 2 (.loop (.seq (.blk [⟨some 40, .bin .lss (.tmp 39) (.tmp 38), none⟩])
 (.seq (.cond (.tmp 40)
 (.skip)
 (.exit 2))
 (.seq (.block 3 (.seq (.blk [⟨some 41, .iad (.tmp 37) (.tmp 39) 1, none⟩,
 ⟨some 42, .ld (.tmp 41), none⟩,
 ⟨some 7, .mv (.tmp 42), none⟩])
 (.blk [⟨some 43, .mv (.tmp 1), none⟩,
 ⟨some 44, .mv (.tmp 7), none⟩,
 ⟨some 45, .mv (.tmp 0), none⟩,
 ⟨some 46, .nilc (.tmp 45), none⟩,
 ⟨some 47, .fad (.tmp 46) 0, none⟩,
 ⟨some 48, .ld (.tmp 47), none⟩,
 ⟨some 49, .mv (.tmp 7), none⟩,
 ⟨some 50, .mlook (.tmp 48) (.tmp 49) (.slice none 0 0), none⟩,
 ⟨some 51, .callv (.tmp 43) [.tmp 44, .tmp 50], none⟩])))
 (.blk [⟨some 52, .bin .add (.tmp 39) (.const (.int .i64 1)), none⟩,
 ⟨some 39, .mv (.tmp 52), none⟩])))))))))),
 [], 53)
def ir_tEach1 (_F : Nat → Nat) : IC × List RV × Nat := (.seq (.blk [⟨some 5, .mv (.const (.bool false)), none⟩])
 (.seq (.drw [⟨⟨some 6, .ld (.tmp 2), none⟩, false, []⟩,
 ⟨⟨some 7, .mv (.tmp 0), none⟩, false, []⟩,
 ⟨⟨some 8, .iad (.tmp 6) (.tmp 7) 1, none⟩, false, []⟩,
 ⟨⟨some 9, .ld (.tmp 8), none⟩, false, []⟩,
 ⟨⟨some 10, .ld (.tmp 2), none⟩, false, []⟩,
 ⟨⟨some 11, .mv (.tmp 1), none⟩, false, []⟩,
 ⟨⟨some 12, .iad (.tmp 10) (.tmp 11) 1, none⟩, false, []⟩,
 ⟨⟨some 13, .ld (.tmp 12), none⟩, false, []⟩,
 ⟨⟨some 14, .bin .lss (.tmp 9) (.tmp 13), none⟩, false, []⟩,
 ⟨⟨some 5, .mv (.tmp 14), none⟩, false, []⟩]
 [])
 (.ret)),
 [.tmp 5], 15)
def ir_tRead (F : Nat → Nat) : IC × List RV × Nat := (.seq (.blk [⟨some 2, .alloc [.map none], none⟩])
 (.seq (.blk [⟨some 3, .alloc [.map none], none⟩])
 (.seq (.seq (.blk [⟨some 7, .mv (.tmp 0), none⟩,
 ⟨some 8, .call (F rUvarint) [.tmp 7], none⟩,
 ⟨some 4, .mv (.tmp 8), none⟩])
 (.block 0 (.loop (.seq (.seq (.blk [⟨some 9, .mv (.tmp 4), none⟩,
 ⟨some 10, .bin .gtr (.tmp 9) (.const (.int .u32 0)), none⟩])
 (.cond (.tmp 10)
 (.skip)
 (.exit 0)))
 (.seq (.block 1 (.seq (.blk [⟨some 13, .mv (.tmp 0), none⟩,
 ⟨some 14, .call (F rUvarint) [.tmp 13], none⟩,
 ⟨some 15, .mv (.tmp 0), none⟩,
 ⟨some 16, .call (F rUvarint) [.tmp 15], none⟩,
 ⟨some 5, .mv (.tmp 14), none⟩,
 ⟨some 6, .mv (.tmp 16), none⟩])
 (.blk [⟨some 17, .mv (.tmp 5), none⟩,
 ⟨some 18, .mv (.tmp 0), none⟩,
 ⟨some 19, .mv (.tmp 6), none⟩,
 ⟨some 20, .conv .i64 (.tmp 19), none⟩,
 ⟨some 21, .call (F rSpan) [.tmp 18, .tmp 20], none⟩,
 ⟨some 22, .call (F tSet) [.tmp 3, .tmp 17, .tmp 21], none⟩])))
 (.blk [⟨some 11, .mv (.tmp 4), none⟩,
 ⟨some 12, .bin .sub (.tmp 11) (.const (.int .u32 1)), none⟩,
 ⟨some 4, .mv (.tmp 12), none⟩]))))))
 (.seq (.blk [⟨some 23, .ldn (.tmp 3) 1, none⟩,
 ⟨none, .st (.tmp 2) 1 (.tmp 23), none⟩])
 (.ret)))),
 [.cells 2 1], 24)
def ir_iSorted (_F : Nat → Nat) : IC × List RV × Nat := (.seq (.blk [⟨some 4, .mv (.tmp 0), none⟩,
 ⟨some 5, .len (.tmp 4), none⟩,
 ⟨some 6, .mv (.const (.int .i64 0)), none⟩])
 (.block 0 (.loop (.seq (.blk [⟨some 7, .bin .lss (.tmp 6) (.tmp 5), none⟩])
 (.seq (.cond (.tmp 7)
 (.skip)
 (.exit 0))
 (.seq (.block 1 (.seq (.blk [⟨some 8, .mv (.tmp 6), none⟩,
 ⟨some 2, .mv (.tmp 8), none⟩])
 (.seq (.blk [⟨some 9, .mv (.tmp 2), none⟩,
 ⟨some 3, .mv (.tmp 9), none⟩])
 (.block 2 (.loop (.seq (.seq (.drw [⟨⟨some 10, .mv (.tmp 3), none⟩, false, []⟩,
 ⟨⟨some 11, .bin .gtr (.tmp 10) (.const (.int .i64 0)), none⟩, false, []⟩,
 ⟨⟨some 12, .mv (.tmp 11), none⟩, false, []⟩,
 ⟨⟨some 13, .mv (.tmp 0), some (12, true)⟩, false, []⟩,
 ⟨⟨some 14, .mv (.tmp 3), some (12, true)⟩, false, []⟩,
 ⟨⟨some 15, .iad (.tmp 13) (.tmp 14) 2, some (12, true)⟩, false, []⟩,
 ⟨⟨some 16, .fad (.tmp 15) 0, some (12, true)⟩, false, []⟩,
 ⟨⟨some 17, .ld (.tmp 16), some (12, true)⟩, false, []⟩,
 ⟨⟨some 18, .mv (.tmp 0), some (12, true)⟩, false, []⟩,
 ⟨⟨some 19, .mv (.tmp 3), some (12, true)⟩, false, []⟩,
 ⟨⟨some 20, .bin .sub (.tmp 19) (.const (.int .i64 1)), some (12, true)⟩, false, []⟩,
 ⟨⟨some 21, .iad (.tmp 18) (.tmp 20) 2, some (12, true)⟩, false, []⟩,
 ⟨⟨some 22, .fad (.tmp 21) 0, some (12, true)⟩, false, []⟩,
 ⟨⟨some 23, .ld (.tmp 22), some (12, true)⟩, false, []⟩,
 ⟨⟨some 24, .bin .lss (.tmp 17) (.tmp 23), some (12, true)⟩, false, []⟩,
 ⟨⟨some 25, .pick (.tmp 12) (.tmp 24) (.const (.bool false)), none⟩, false, []⟩]
 [])
 (.cond (.tmp 25)
 (.skip)
 (.exit 2)))
 (.seq (.block 3 (.bad))
 (.blk [⟨some 26, .mv (.tmp 3), none⟩,
 ⟨some 27, .bin .sub (.tmp 26) (.const (.int .i64 1)), none⟩,
 ⟨some 3, .mv (.tmp 27), none⟩]))))))))
 (.blk [⟨some 44, .bin .add (.tmp 6) (.const (.int .i64 1)), none⟩,
 ⟨some 6, .mv (.tmp 44), none⟩])))))),
 [], 45)
end Go.Msk

namespace Go.Msk
open Go.RowKit
set_option maxRecDepth 100000
def putTag : List (Nat × List UInt8) → Nat → List UInt8 → List (Nat × List UInt8)
  | [], k, l => [(k, l)]
  | (k', l') :: m, k, l => if k = k' then (k, l) :: m else (k', l') :: putTag m k l
def rdTagsN : Nat → List (Nat × List UInt8) → RS → List (Nat × List UInt8) × RS
  | 0, m, s => (m, s)
  | n + 1, m, s => rdTagsN n (putTag m (rdUv s).1 ((rdSpan (rdUv (rdUv s).2).1 (rdUv (rdUv s).2).2).1.getD [])) (rdSpan (rdUv (rdUv s).2).1 (rdUv (rdUv s).2).2).2
def rdTags (s : RS) : List (Nat × List UInt8) × RS := rdTagsN (rdUv s).1 [] (rdUv s).2
theorem putTag_keys : ∀ (m : List (Nat × List UInt8)) (k : Nat) (l : List UInt8), (putTag m k l).map (·.1) = if k ∈ m.map (·.1) then m.map (·.1) else m.map (·.1) ++ [k]
  | [], k, l => by simp [putTag]
  | (k', l') :: m, k, l => by
    have ih := putTag_keys m k l
    simp only [putTag]
    by_cases h : k = k'
    · subst h; simp
    · rw [if_neg h]
      simp only [List.map_cons, ih, List.mem_cons, h, false_or]
      split <;> simp
theorem putTag_nodup {m : List (Nat × List UInt8)} {k : Nat} {l : List UInt8} (h : (m.map (·.1)).Nodup) : ((putTag m k l).map (·.1)).Nodup := by
  rw [putTag_keys]
  split
  · exact h
  · rename_i hk
    rw [List.nodup_append]
    refine ⟨h, by simp, fun a ha b hb => ?_⟩
    simp only [List.mem_singleton] at hb
    subst hb
    exact fun e => hk (e ▸ ha)
def putE : List MapEntry → Nat → Nat → Value → List MapEntry
  | [], c, k, v => [{ key := .int .u32 k, val := v, born := c }]
  | e :: r, c, k, v => if keyIs k e = true then { e with key := .int .u32 k, val := v } :: r else e :: putE r c k v
theorem putE_some (c k : Nat) (v : Value) : ∀ (l : List MapEntry) (i : Nat), l.findIdx? (keyIs k) = some i → l.modify i (fun e => { e with key := .int .u32 k, val := v }) = putE l c k v
  | [], i, h => by simp at h
  | e :: r, i, h => by
    rw [List.findIdx?_cons] at h
    simp only [putE]
    split at h
    · rename_i he
      simp only [Option.some.injEq] at h; subst h
      rw [if_pos he]; rfl
    · rename_i he
      rw [if_neg he]
      cases hr : r.findIdx? (keyIs k) with
      | none => simp [hr] at h
      | some j =>
        simp only [hr, Option.map_some, Option.some.injEq] at h
        subst h
        rw [List.modify_succ_cons, putE_some c k v r j hr]
theorem putE_none (c k : Nat) (v : Value) : ∀ (l : List MapEntry), l.findIdx? (keyIs k) = none → l ++ [{ key := .int .u32 k, val := v, born := c }] = putE l c k v
  | [], _ => rfl
  | e :: r, h => by
    rw [List.findIdx?_cons] at h
    split at h
    · simp at h
    · rename_i he
      simp only [Option.map_eq_none_iff] at h
      simp only [putE, if_neg he, List.cons_append, putE_none c k v r h]
theorem mapPut_list (es : Array MapEntry) (clock k : Nat) (v : Value) (hb : (es.toList.map (·.born)).Nodup) (hc : ∀ e ∈ es.toList, e.born < clock) :
    ∃ es' c', mapPut es clock .u32 k v = .map es' c' ∧ es'.toList = putE es.toList clock k v ∧ (es'.toList.map (·.born)).Nodup ∧ ∀ e ∈ es'.toList, e.born < c' := by
  unfold mapPut
  cases hf : es.toList.findIdx? (keyIs k) with
  | none =>
    refine ⟨_, _, rfl, ?_, ?_, ?_⟩
    · rw [Array.toList_push]; exact putE_none clock k v _ hf
    · rw [Array.toList_push, List.map_append, List.nodup_append]
      refine ⟨hb, by simp, fun a ha b hb' => ?_⟩
      simp only [List.map_cons, List.map_nil, List.mem_singleton] at hb'
      obtain ⟨e, he, rfl⟩ := List.mem_map.1 ha
      have := hc e he
      omega
    · intro e he
      rw [Array.toList_push, List.mem_append] at he
      rcases he with he | he
      · have := hc e he; omega
      · simp only [List.mem_singleton] at he; subst he; simp
  | some i =>
    have hm : (es.modify i fun e => { e with key := .int .u32 k, val := v }).toList = putE es.toList clock k v := by
      rw [Array.toList_modify]; exact putE_some clock k v _ i hf
    have hmap : (putE es.toList clock k v).map (·.born) = es.toList.map (·.born) := by
      rw [← putE_some clock k v _ i hf]
      apply List.ext_getElem?
      intro j
      simp only [List.getElem?_map, List.getElem?_modify]
      cases es.toList[j]? with
      | none => simp
      | some e => simp only [Option.map_some]; split <;> rfl
    refine ⟨_, _, rfl, hm, by rw [hm, hmap]; exact hb, fun e he => ?_⟩
    rw [hm] at he
    have : e.born ∈ (putE es.toList clock k v).map (·.born) := List.mem_map.2 ⟨e, he, rfl⟩
    rw [hmap] at this
    obtain ⟨e', he', h⟩ := List.mem_map.1 this
    rw [← h]; exact hc e' he'
theorem EntL.put {ok : Nat → Prop} {w : World} {c k : Nat} {v : Value} {l : List UInt8} (hk : k < 4294967296) (hv : SlC ok w v l.length (u8s l)) {es : List MapEntry} {m : List (Nat × List UInt8)} (h : EntL ok w es m) : EntL ok w (putE es c k v) (putTag m k l) := by
  induction h with
  | nil => exact .cons rfl hk hv .nil
  | @cons e k' l' es m h1 h2 h3 h4 ih =>
    have hki : keyIs k e = decide (k = k') := by
      unfold keyIs; rw [h1]
      by_cases hkk : k = k'
      · simp [hkk]
      · have : ¬ (k : Int) = k' := by omega
        simp [hkk, this]
    simp only [putE, putTag, hki, decide_eq_true_eq]
    split
    · exact .cons rfl hk hv h4
    · exact .cons h1 h2 h3 ih
theorem EntL.keys {ok : Nat → Prop} {w : World} {es : List MapEntry} {m : List (Nat × List UInt8)} (h : EntL ok w es m) : ∀ e ∈ es, ∃ a, e.key = .int .u32 a := by
  induction h with
  | nil => simp
  | cons h1 _ _ _ ih =>
    intro e he
    rcases List.mem_cons.1 he with rfl | he
    · exact ⟨_, h1⟩
    · exact ih e he
theorem Mod.putObj {w : World} {r : Nat} {o : Obj} {S : List Nat} (hr : r ∈ S) : Mod S w (Msk.putObj w r o) := by
  refine ⟨rfl, rfl, rfl, by simp [Msk.putObj], fun k hk hkS => ?_⟩
  simp only [Msk.putObj]
  exact Array.getElem?_setIfInBounds_ne (fun e => hkS (by rw [← e]; exact hr))
theorem putObj_get {w : World} {r : Nat} {o : Obj} (h : r < w.heap.size) : (putObj w r o).heap[r]? = some o := by
  simp [putObj, h]
def TagM (ok : Nat → Prop) (w : World) (v : Value) (m : List (Nat × List UInt8)) : Prop :=
  (v = .map none ∧ m = []) ∨ ∃ r, v = .map (some r) ∧ MapRep ok w r m
section
variable {P : Program} {F : Nat → Nat}
theorem tSet_call {w : World} (hm : P.follows .mixedOrders = true) (h : liftF P (F tSet) = some (ir_tSet F)) {tb k : Nat} {mv v : Value} {m : List (Nat × List UInt8)} {l : List UInt8} {ok : Nat → Prop} (hb : Blk w tb [mv]) (hM : TagM ok w mv m) (hk : k < 4294967296)
    (hv : SlC ok w v l.length (u8s l)) (htb : ¬ ok tb) (hr0 : ∀ r, mv = .map (some r) → ¬ ok r ∧ r ≠ tb) :
    Calls P (F tSet) [.pointer (some ⟨tb, 0, none⟩), .int .u32 k, v].toArray w fun e w' => e = .returned (.tuple #[]) ∧ ∃ r, Blk w' tb [.map (some r)] ∧ MapRep (fun b => ok b ∧ b < w.heap.size) w' r (putTag m k l) ∧ r ≠ tb ∧
      ((mv = .map (some r) ∧ Mod [tb, r] w w') ∨ (mv = .map none ∧ w.heap.size ≤ r ∧ Mod [tb] w w')) := by
  unfold ir_tSet at h
  refine call_of h hm (by simp) ?_
  have a0 : args0 [.pointer (some ⟨tb, 0, none⟩), .int .u32 k, v] 0 = .pointer (some ⟨tb, 0, none⟩) := rfl
  have a1 : args0 [.pointer (some ⟨tb, 0, none⟩), .int .u32 k, v] 1 = .int .u32 k := rfl
  have a2 : args0 [.pointer (some ⟨tb, 0, none⟩), .int .u32 k, v] 2 = v := rfl
  generalize args0 [.pointer (some ⟨tb, 0, none⟩), .int .u32 k, v] = σ0 at a0 a1 a2 ⊢
  have c0 : w.cell? ⟨tb, 0, none⟩ = some mv := hb.cell 0
  have htl := hb.lt
  -- what happens once there is a map
  have key : ∀ (σ : Sl) (w1 : World) (r : Nat), σ 0 = .pointer (some ⟨tb, 0, none⟩) → σ 1 = .int .u32 k → σ 2 = v → Blk w1 tb [.map (some r)] → MapRep (fun b => ok b ∧ b < w.heap.size) w1 r m → r ≠ tb → ¬ (ok r ∧ r < w.heap.size) → w.heap.size ≤ w1.heap.size → SlC (fun b => ok b ∧ b < w.heap.size) w1 v l.length (u8s l) →
      ((mv = .map (some r) ∧ w1 = w) ∨ (mv = .map none ∧ w.heap.size ≤ r ∧ Mod [tb] w w1)) →
      wpC P (.blk [⟨some 15, .mv (.tmp 0), none⟩, ⟨some 16, .nilc (.tmp 15), none⟩, ⟨some 17, .fad (.tmp 16) 0, none⟩, ⟨some 18, .ld (.tmp 17), none⟩, ⟨some 19, .mv (.tmp 1), none⟩, ⟨some 20, .mv (.tmp 2), none⟩, ⟨none, .mapup (.tmp 18) (.tmp 19) (.tmp 20), none⟩])
        (postC [] fun e w' => e = .returned (.tuple #[]) ∧ ∃ r, Blk w' tb [.map (some r)] ∧ MapRep (fun b => ok b ∧ b < w.heap.size) w' r (putTag m k l) ∧ r ≠ tb ∧
          ((mv = .map (some r) ∧ Mod [tb, r] w w') ∨ (mv = .map none ∧ w.heap.size ≤ r ∧ Mod [tb] w w'))) σ w1 := by
    intro σ w1 r s0 s1 s2 hb1 hM1 hrt hnr hsz hv1 hcase
    have c1 : w1.cell? ⟨tb, 0, none⟩ = some (.map (some r)) := hb1.cell 0
    have hrl := hM1.lt
    obtain ⟨es, clock, he1, he2, he3, he4⟩ := hM1.ex
    obtain ⟨es', c', p1, p2, p3, p4⟩ := mapPut_list es clock k v he3 he4
    rw [wpC_blk]
    refine wpR_step (v := .pointer (some ⟨tb, 0, none⟩)) (congrArg some s0) ?_
    refine wpR_step (v := .pointer (some ⟨tb, 0, none⟩)) (by simp only [RK.val?, ev, updo, upd, if_true]) ?_
    refine wpR_step (v := .pointer (some ⟨tb, 0, none⟩)) (by simp only [RK.val?, ev, updo, upd, if_true, Addr.add_mk]) ?_
    refine wpR_step (v := .map (some r)) (by simp only [RK.val?, ev, updo, upd, if_true, c1]) ?_
    refine wpR_step (v := .int .u32 k) (by simp only [RK.val?, ev, updo, upd]; simp [s1]) ?_
    refine wpR_step (v := v) (by simp only [RK.val?, ev, updo, upd]; simp [s2]) ?_
    refine wpR_run ?_
    simp only [RK.run, ev, updo, upd, show (18 : Nat) ≠ 20 by decide, show (18 : Nat) ≠ 19 by decide, show (19 : Nat) ≠ 20 by decide, if_false, if_true, he1]
    refine ⟨he2.keys, ?_⟩
    simp only [wpR, postC, rvals, List.mapM_nil, Option.pure_def, tup]
    refine ⟨trivial, r, ?_, ?_, hrt, ?_⟩
    · exact hb1.mod (Mod.putObj (S := [r]) (by simp)) (by simp; omega)
    · rw [p1]
      have hmd : Mod [r] w1 (putObj w1 r (.map es' c')) := Mod.putObj (by simp)
      refine ⟨⟨es', c', putObj_get hrl, ?_, p3, p4⟩, putTag_nodup hM1.keys⟩
      rw [p2]
      exact (he2.put hk hv1).mod hmd (fun b hb hx => by simp only [List.mem_singleton] at hb; subst hb; exact hnr hx) fun _ _ h => h
    · rcases hcase with ⟨h1, h2⟩ | ⟨h1, h2, h3⟩
      · refine .inl ⟨h1, ?_⟩
        rw [h2]; exact Mod.putObj (by simp)
      · refine .inr ⟨h1, h2, ?_⟩
        have hmd : Mod [r, tb] w1 (putObj w1 r (mapPut es clock .u32 k v)) := Mod.putObj (by simp)
        exact Mod.drop (b := r) (S := [tb]) ((h3.mono (by simp)).trans hmd) h2
  generalize postC [] _ = Q at key ⊢
  rw [wpC_seq, wpC_seq, wpC_blk]
  refine wpR_step (v := .pointer (some ⟨tb, 0, none⟩)) (congrArg some a0) ?_
  refine wpR_step (v := .pointer (some ⟨tb, 0, none⟩)) (by simp only [RK.val?, ev, updo, upd, if_true]) ?_
  refine wpR_step (v := .pointer (some ⟨tb, 0, none⟩)) (by simp only [RK.val?, ev, updo, upd, if_true, Addr.add_mk]) ?_
  refine wpR_step (v := mv) (by simp only [RK.val?, ev, updo, upd, if_true, c0]) ?_
  have hv2 : SlC (fun b => ok b ∧ b < w.heap.size) w v l.length (u8s l) := hv.mod (Mod.refl [] _) (by simp) fun b hb hx => ⟨hx, hb⟩
  rcases hM with ⟨rfl, rfl⟩ | ⟨r, rfl, hM⟩
  · refine wpR_step (v := .bool true) (by simp only [RK.val?, ev, updo, upd, if_true]; rfl) ?_
    refine wpR_done ?_
    rw [wpC_cond_t rfl, wpC_blk]
    refine wpR_step (v := .pointer (some ⟨tb, 0, none⟩)) (by simp only [RK.val?, ev, updo, upd]; simp [a0]) ?_
    refine wpR_run ?_
    simp only [RK.run]
    refine wpR_step (v := .pointer (some ⟨tb, 0, none⟩)) (by simp only [RK.val?, ev, updo, upd]; simp) ?_
    refine wpR_step (v := .pointer (some ⟨tb, 0, none⟩)) (by simp only [RK.val?, ev, updo, upd, if_true, Addr.add_mk]) ?_
    refine wpR_run ?_
    have hma : Mod [] w (w.alloc (.map #[] 0)) := Mod.alloc _ _ _
    have hsz : (w.alloc (.map #[] 0)).heap.size = w.heap.size + 1 := by simp
    have hget : (w.alloc (.map #[] 0)).heap[w.heap.size]? = some (.map #[] 0) := heap_alloc_new w _
    have hba := hb.mod hma (by simp)
    generalize w.alloc (.map #[] 0) = w1 at hma hsz hget hba ⊢
    simp only [RK.run, ev, updo, upd, if_true, show (12 : Nat) ≠ 14 by decide, show (12 : Nat) ≠ 13 by decide, if_false]
    have ec : (Value.map (some w.heap.size)).cells = #[.map (some w.heap.size)] := rfl
    rw [ec]
    have hput : Mod [tb] w1 (putCells w1 ⟨tb, 0, none⟩ 0 [.map (some w.heap.size)]) := Mod.put (by simp)
    have hp := hba.put (o := 0) (vs := [.map (some w.heap.size)]) (by simp)
    rw [splice_all (by rfl)] at hp
    refine ⟨rfl, stOk_one hba (by simp) rfl, ?_⟩
    refine wpR_done ?_
    generalize hσ : upd _ 14 _ = σ1
    have s0 : σ1 0 = .pointer (some ⟨tb, 0, none⟩) := by rw [← hσ]; simp [upd, a0]
    have s1 : σ1 1 = .int .u32 k := by rw [← hσ]; simp [upd, a1]
    have s2 : σ1 2 = v := by rw [← hσ]; simp [upd, a2]
    clear hσ
    refine key σ1 _ w.heap.size s0 s1 s2 hp ?_ (by omega) (fun h => by omega) (by rw [size_putCells]; omega) ?_ (.inr ⟨rfl, Nat.le_refl _, hma.nil.trans hput⟩)
    · refine ⟨⟨#[], 0, ?_, .nil, by simp, by simp⟩, by simp⟩
      rw [hput.block _ (by omega) (by simp; omega)]; exact hget
    · exact (hv2.mod hma (by simp) fun _ _ h => h).mod hput (fun b hb hx => by simp only [List.mem_singleton] at hb; subst hb; exact htb hx.1) fun _ _ h => h
  · refine wpR_step (v := .bool false) (by simp only [RK.val?, ev, updo, upd, if_true]; rfl) ?_
    refine wpR_done ?_
    rw [wpC_cond_f rfl, wpC_skip]
    simp only [thenC]
    obtain ⟨q1, q2⟩ := hr0 r rfl
    generalize hσ : updo _ (some 10) _ = σ1
    have s0 : σ1 0 = .pointer (some ⟨tb, 0, none⟩) := by rw [← hσ]; simp [updo, upd, a0]
    have s1 : σ1 1 = .int .u32 k := by rw [← hσ]; simp [updo, upd, a1]
    have s2 : σ1 2 = v := by rw [← hσ]; simp [updo, upd, a2]
    clear hσ
    refine key σ1 _ r s0 s1 s2 hb (hM.mod (Mod.refl [] _) (by simp) (by simp) fun b hb hx => ⟨hx, hb⟩) q2 (fun h => q1 h.1) (Nat.le_refl _) hv2 (.inl ⟨rfl, rfl⟩)
end
end Go.Msk
