/- A small language of resolved operations, and what the generic and the generated functions do in it (part 12). -/
import Derived.Test.YtopfpehiaddeaaaGreatDoorFk

namespace Go.Msk
open Go.RowKit
set_option maxRecDepth 100000
theorem uvE_pos (n : Nat) : 0 < (uvE n).length := by
  rw [uvE]; split <;> simp
section
variable {P : Program} {F : Nat → Nat}
attribute [local simp] gOk updo upd ev RK.val? isShift intBin Addr.add_mk args0 Value.cells undef
theorem width_call (hm : P.follows .mixedOrders = true) (h : liftF P (F sWidth) = some (ir_sWidth F)) {w : World} {k : Int} :
    Calls P (F sWidth) [.int .i64 k].toArray w fun e w' => e = .returned (.int .i64 (widthP k)) ∧ w' = w := by
  unfold ir_sWidth at h
  refine call_of h hm (by simp) ?_
  clear h
  by_cases h1 : k = 1
  · simp [wpC, wpR, RI.wp, RK.run, thenC, inBlockC, postC, rvals, RV.val, h1, tup_one, widthP]
  · by_cases h2 : k = 2
    · simp [wpC, wpR, RI.wp, RK.run, thenC, inBlockC, postC, rvals, RV.val, h2, tup_one, widthP]
    · by_cases h5 : k = 5
      · simp [wpC, wpR, RI.wp, RK.run, thenC, inBlockC, postC, rvals, RV.val, h5, tup_one, widthP]
      · by_cases h3 : k = 3
        · simp [wpC, wpR, RI.wp, RK.run, thenC, inBlockC, postC, rvals, RV.val, h3, tup_one, widthP]
        · simp [wpC, wpR, RI.wp, RK.run, thenC, inBlockC, postC, rvals, RV.val, beq_eq_false_iff_ne.2 h1, beq_eq_false_iff_ne.2 h2, beq_eq_false_iff_ne.2 h3, beq_eq_false_iff_ne.2 h5, h1, h2, h3, h5, tup_one, widthP]
theorem app1 {x y : Operand} {d1 d2 : Nat} {w w0 : World} {σ : Sl} {v : Value} {l : List UInt8} {b : UInt8} {r : List RI} {Q : Sl → World → Prop} (_hx : ev (upd σ d1 v) x = ev σ x) (_hv : ev σ x = v) (hd : DRaw w w0.heap.size v l) (hm : Mod [] w0 w) (hy : ev σ y = .int .u8 b.toNat)
    (hx2 : ∀ u, ev (upd σ d1 u) x = v) (hl : l.length + 1 ≤ lim) (hQ : ∀ u w' v', DRaw w' w0.heap.size v' (l ++ [b]) → Mod [] w0 w' → wpR P r (upd (upd σ d1 u) d2 v') w' Q) :
    wpR P (⟨some d1, .bslice 1 [.int .u8 0] [(0, 1, y)], none⟩ :: ⟨some d2, .append x (.tmp d1) 1 1, none⟩ :: r) σ w Q := by
  refine goC rfl ?_
  refine bsliceB_run (bs := [b]) (by simp only [List.map_cons, List.map_nil, hy]; rfl) rfl fun u w1 hs hm1 => ?_
  refine goC rfl ?_
  refine append_run (n0 := w0.heap.size) (v := v) (hx2 u) (hd.keep hm1) (hm.trans hm1).size (k := [b]) (by simpa using hs) (by simpa using hl) fun v' w2 ha => ?_
  exact hQ u w2 v' ha.raw (ha.mod0 (hd.keep hm1) (hm.trans hm1))
theorem fixed_call (hm : P.follows .mixedOrders = true) (h : liftF P (F sFixed) = some (ir_sFixed F)) {w : World} {n : Int} {k : Nat} (hk : k ≤ 8) :
    Calls P (F sFixed) [.int .i64 n, .int .i64 (k : Nat)].toArray w (BytesR w (beI k n)) := by
  unfold ir_sFixed at h
  refine call_of h hm (by simp) ?_
  clear h
  rw [wpC_seq, wpC_blk]
  refine go1 rfl rfl (wpR_done ?_)
  rw [wpC_seq, wpC_blk]
  refine go1 rfl rfl (wpR_done ?_)
  rw [wpC_seq, wpC_seq, wpC_blk]
  iterate 3 (apply go1 rfl; (· simp <;> rfl))
  refine wpR_done ?_
  rw [wpC_block, wpC_loop]
  refine ⟨fun σ w' => ∃ (m : Nat) (pre : List UInt8), m ≤ k ∧ beI k n = pre ++ beI m n ∧ σ 0 = .int .i64 n ∧ σ 6 = .int .i64 ((m : Int) - 1) ∧ DRaw w' w.heap.size (σ 5) pre ∧ Mod [] w w',
    fun σ _ => match σ 6 with | .int _ j => (j + 1).toNat | _ => 0, ?_, ?_⟩
  · refine ⟨k, [], Nat.le_refl _, rfl, by simp, ?_, by simpa using DRaw.nil w _, Mod.refl _ _⟩
    simp only [updo, upd, if_true]
    congr 1
    simp only [IntKind.wrap, IntKind.bits, IntKind.signed]; simp <;> omega
  · rintro σ w1 ⟨m, pre, hmk, hpre, h0, h6, hd, hm1⟩
    have hlen : pre.length + m = k := by
      have := congrArg List.length hpre
      simp only [beI_length, List.length_append] at this; omega
    rw [wpC_seq, wpC_seq, wpC_blk]
    refine go1 (v := .int .i64 ((m : Int) - 1)) rfl (by simp [h6]) ?_
    refine go1 (v := .bool (decide ((m : Int) - 1 ≥ 0))) rfl (by simp) ?_
    refine wpR_done ?_
    cases m with
    | zero =>
      rw [wpC_cond_f (by simp)]
      refine wpC_exit_out3 ?_
      simp only [thenC]
      rw [wpC_seq, wpC_blk]
      refine go1 (v := σ 5) rfl (by simp) ?_
      refine go1 (v := σ 5) rfl (by simp) ?_
      refine wpR_done (ret1 (v := σ 5) (by simp) ⟨_, rfl, ?_, hm1⟩)
      rw [hpre]; simpa [beI] using hd
    | succ m =>
      rw [wpC_cond_t (by simp), wpC_skip]
      simp only [thenC]
      rw [wpC_seq, wpC_block, wpC_blk]
      refine go1 (v := σ 5) rfl (by simp) ?_
      refine go1 (v := .int .i64 n) rfl (by simp [h0]) ?_
      refine go1 (v := .int .i64 (m : Nat)) rfl (by simp [h6]) ?_
      refine go1 (v := .int .i64 ((8 * m : Nat) : Int)) rfl (by
        simp only [RK.val?, ev, updo, upd, isShift, decide_true, Bool.or_true, if_true, intBin]
        rw [show (8 : Int) * (m : Nat) = ((8 * m : Nat) : Int) by omega, i64_nat (by omega)]) ?_
      refine go1 (v := .int .i64 (n / 256 ^ m)) rfl (by
        simp only [RK.val?, ev, updo, upd, isShift, Bool.true_or, if_true, if_false, show (14 : Nat) ≠ 16 by decide, show (14 : Nat) ≠ 15 by decide]
        rw [shr_i64 n (8 * m) (by omega), pow_256]) ?_
      refine go1 (v := .int .u8 ((UInt8.ofNat (n / 256 ^ m % 256).toNat).toNat : Int)) rfl (by
        simp only [RK.val?, ev, updo, upd, if_true]
        rw [u8vz]) ?_
      refine app1 (v := σ 5) (w0 := w) (b := UInt8.ofNat (n / 256 ^ m % 256).toNat) (by simp) (by simp) hd hm1 (by simp) (by simp) (by unfold lim; omega) fun u w2 v' hd2 hm2 => ?_
      refine go1 (v := v') rfl (by simp) ?_
      refine goEnd ?_
      simp only [thenC, inBlockC]
      rw [wpC_blk]
      refine go1 (v := .int .i64 (m : Nat)) rfl (by simp [h6]) ?_
      refine go1 (v := .int .i64 ((m : Int) - 1)) rfl (by
        simp only [RK.val?, ev, updo, upd, isShift, decide_true, Bool.or_true, if_true, intBin]
        congr 2
        simp only [IntKind.wrap, IntKind.bits, IntKind.signed]; simp <;> omega) ?_
      refine go1 (v := .int .i64 ((m : Int) - 1)) rfl (by simp) ?_
      refine wpR_done ⟨⟨m, pre ++ [UInt8.ofNat (n / 256 ^ m % 256).toNat], by omega, ?_, by simp [h0], by simp, by simpa using hd2, hm2⟩, ?_⟩
      · rw [hpre, beI]; simp
      · simp [h6]
theorem uvarint_call (hm : P.follows .mixedOrders = true) (h : liftF P (F sUvarint) = some (ir_sUvarint F)) {w : World} {n : Nat} (hn : n < 18446744073709551616) :
    Calls P (F sUvarint) [.int .u64 (n : Nat)].toArray w (BytesR w (uvE n)) := by
  unfold ir_sUvarint at h
  refine call_of h hm (by simp) ?_
  clear h
  rw [wpC_seq, wpC_blk]
  refine go1 rfl rfl (wpR_done ?_)
  rw [wpC_seq, wpC_blk]
  refine go1 rfl rfl (wpR_done ?_)
  rw [wpC_seq, wpC_block, wpC_loop]
  refine ⟨fun σ w' => ∃ (m : Nat) (pre : List UInt8), m ≤ n ∧ uvE n = pre ++ uvE m ∧ pre.length ≤ n - m ∧ pre.length + m ≤ n ∧ pre.length ≤ 64 ∧ m * 2 ^ pre.length ≤ n ∧ σ 0 = .int .u64 (m : Nat) ∧ DRaw w' w.heap.size (σ 3) pre ∧ Mod [] w w',
    fun σ _ => match σ 0 with | .int _ j => j.toNat | _ => 0, ?_, ?_⟩
  · exact ⟨n, [], Nat.le_refl _, rfl, by simp, by simp, by simp, by simp, by simp, by simpa using DRaw.nil w _, Mod.refl _ _⟩
  · rintro σ w1 ⟨m, pre, hmn, hpre, hl1, hl2, hl64, hpow, h0, hd, hm1⟩
    rw [wpC_seq, wpC_seq, wpC_blk]
    refine go1 (v := .int .u64 (m : Nat)) rfl (by simp [h0]) ?_
    refine go1 (v := .bool (decide ((m : Int) > 127))) rfl (by simp) ?_
    refine wpR_done ?_
    by_cases hs : m < 128
    · rw [wpC_cond_f (by simp; omega)]
      refine wpC_exit_out3 ?_
      simp only [thenC]
      rw [wpC_seq, wpC_blk]
      refine go1 (v := σ 3) rfl (by simp) ?_
      refine go1 (v := .int .u64 (m : Nat)) rfl (by simp [h0]) ?_
      refine go1 (v := .int .u8 ((UInt8.ofNat m).toNat : Int)) rfl (by
        simp only [RK.val?, ev, updo, upd, if_true]
        rw [u8_conv (by omega)]) ?_
      refine app1 (v := σ 3) (w0 := w) (b := UInt8.ofNat m) (by simp) (by simp) hd hm1 (by simp) (by simp) (by unfold lim; omega) fun u w2 v' hd2 hm2 => ?_
      refine go1 (v := v') rfl (by simp) ?_
      refine wpR_done (ret1 (v := v') (by simp) ⟨_, rfl, ?_, hm2⟩)
      rw [hpre, uvE_small hs]; exact hd2
    · rw [wpC_cond_t (by simp; omega), wpC_skip]
      simp only [thenC]
      rw [wpC_block, wpC_seq, wpC_blk]
      have h256 : m % 128 + 128 < 256 := by omega
      refine go1 (v := σ 3) rfl (by simp) ?_
      refine go1 (v := .int .u64 (m : Nat)) rfl (by simp [h0]) ?_
      refine go1 (v := .int .u64 ((m % 128 : Nat) : Int)) rfl (by simp only [RK.val?, ev, updo, upd, if_true, isShift, decide_true, Bool.or_true, and127_u64 (n := m) (by omega)]) ?_
      refine go1 (v := .int .u8 ((m % 128 : Nat) : Int)) rfl (by
        simp only [RK.val?, ev, updo, upd, if_true]
        rw [u8_conv (by omega)]
        simp; omega) ?_
      refine go1 (v := .int .u8 ((m % 128 + 128 : Nat) : Int)) rfl (by simp only [RK.val?, ev, updo, upd, if_true, isShift, decide_true, Bool.or_true, or128_u8 (x := m % 128) (by omega)]) ?_
      have e8 : Value.int .u8 ((m % 128 + 128 : Nat) : Int) = .int .u8 ((UInt8.ofNat (m % 128 + 128)).toNat : Int) := by simp; omega
      rw [e8]
      have hp64 : pre.length < 64 := by
        rcases Nat.lt_or_ge pre.length 64 with h | h
        · exact h
        · have : pre.length = 64 := by omega
          rw [this] at hpow
          have : 128 * 2 ^ 64 ≤ m * 2 ^ 64 := Nat.mul_le_mul_right _ (by omega)
          omega
      refine app1 (v := σ 3) (w0 := w) (b := UInt8.ofNat (m % 128 + 128)) (by simp) (by simp) hd hm1 (by simp) (by simp) (by unfold lim; omega) fun u w2 v' hd2 hm2 => ?_
      refine go1 (v := v') rfl (by simp) ?_
      refine wpR_done ?_
      rw [wpC_blk]
      refine go1 (v := .int .u64 (m : Nat)) rfl (by simp [h0]) ?_
      refine go1 (v := .int .u64 ((m / 128 : Nat) : Int)) rfl (by
        simp only [RK.val?, ev, updo, upd, if_true, isShift, Bool.true_or]
        have := shr_u64 m 7 (by omega)
        simpa using this) ?_
      refine go1 (v := .int .u64 ((m / 128 : Nat) : Int)) rfl (by simp) ?_
      refine goEnd ?_
      simp only [inBlockC, thenC]
      refine ⟨⟨m / 128, pre ++ [UInt8.ofNat (m % 128 + 128)], by omega, ?_, ?_, ?_, ?_, ?_, by simp, by simpa using hd2, hm2⟩, ?_⟩
      · rw [hpre, uvE_big (by omega)]; simp
      · simp; omega
      · simp; omega
      · simp; omega
      · simp only [List.length_append, List.length_cons, List.length_nil, Nat.zero_add, Nat.pow_succ]
        have : m / 128 * (2 ^ pre.length * 2) ≤ m * 2 ^ pre.length := by
          rw [Nat.mul_comm (2 ^ pre.length) 2, ← Nat.mul_assoc]
          exact Nat.mul_le_mul_right _ (by omega)
        omega
      · simp [h0]; omega
theorem counted_call (hm : P.follows .mixedOrders = true) (h : liftF P (F sCounted) = some (ir_sCounted F)) (hu : liftF P (F sUvarint) = some (ir_sUvarint F)) (hf : liftF P (F sFixed) = some (ir_sFixed F)) {w : World} {flex null : Bool} {n size : Nat} (hn : n < 9223372036854775807) (hs : size ≤ 8) :
    Calls P (F sCounted) [.bool flex, .bool null, .int .i64 (n : Nat), .int .i64 (size : Nat)].toArray w (BytesR w (countedP flex null n size)) := by
  unfold ir_sCounted at h
  refine call_of h hm (by simp) ?_
  clear h
  rw [wpC_seq, wpC_blk]
  refine go1 rfl rfl (wpR_done ?_)
  rw [wpC_seq, wpC_block, wpC_seq, wpC_blk]
  cases flex with
  | true =>
    cases null with
    | true =>
      iterate 5 (first | (apply go1; (· simp); (· simp <;> rfl)) | (apply go0; (· simp)))
      refine wpR_done ?_
      rw [wpC_cond_t (by simp), wpC_seq, wpC_blk]
      refine goC rfl ?_
      simp only [RK.run]
      rw [show fillL (zrep 1 [.int .u8 0]) _ = some (u8s [0]) from rfl]
      intro T
      have hb := Blk.new w (u8s [0]) T
      refine go1 rfl rfl (wpR_done ?_)
      repeat first | refine retThen ?_ | refine retBlk ?_
      refine ret1 (v := .slice (some ⟨w.heap.size, 0, none⟩) 1 1) (by simp) ⟨_, rfl, ?_, Mod.alloc _ _ _⟩
      exact ⟨.inr ⟨w.heap.size, 1, [], rfl, Nat.le_refl _, Nat.le_refl _, by simpa [countedP] using hb, rfl⟩⟩
    | false =>
      iterate 5 (first | (apply go1; (· simp); (· simp <;> rfl)) | (apply go0; (· simp)))
      refine wpR_done ?_
      rw [wpC_cond_f (by simp), wpC_seq, wpC_blk]
      iterate 2 (first | (apply go1; (· simp); (· simp <;> rfl)) | (apply go0; (· simp)))
      refine wpR_done ?_
      rw [wpC_cond_t (by simp), wpC_seq, wpC_blk]
      refine go1 (v := .int .i64 (n : Nat)) rfl (by simp) ?_
      refine go1 (v := .int .u64 (n : Nat)) rfl (by simp [u64_natS (n := n) (by omega)]) ?_
      refine go1 (v := .int .u64 ((n + 1 : Nat) : Int)) rfl (by
        simp only [RK.val?, ev, updo, upd, if_true, isShift, decide_true, Bool.or_true, intBin]
        rw [show (n : Int) + 1 = ((n + 1 : Nat) : Int) by omega, u64_natS (by omega)]) ?_
      refine goCall rfl (vs := [.int .u64 ((n + 1 : Nat) : Int)]) (by simp) (uvarint_call hm hu (by omega)) ?_
      rintro e w' ⟨v, rfl, h1, h2⟩
      refine ⟨v, rfl, go1 (v := v) rfl (by simp) (wpR_done ?_)⟩
      repeat first | refine retThen ?_ | refine retBlk ?_
      exact ret1 (v := v) (by simp) ⟨v, rfl, h1, h2⟩
  | false =>
    iterate 5 (first | (apply go1; (· simp); (· simp <;> rfl)) | (apply go0; (· simp)))
    refine wpR_done ?_
    rw [wpC_cond_f (by simp), wpC_seq, wpC_blk]
    iterate 2 (first | (apply go1; (· simp); (· simp <;> rfl)) | (apply go0; (· simp)))
    refine wpR_done ?_
    rw [wpC_cond_f (by simp), wpC_seq, wpC_blk]
    iterate 2 (first | (apply go1; (· simp); (· simp <;> rfl)) | (apply go0; (· simp)))
    refine wpR_done ?_
    cases null with
    | true =>
      rw [wpC_cond_t (by simp), wpC_seq, wpC_blk]
      refine go1 (v := .int .i64 (size : Nat)) rfl (by simp) ?_
      refine goCall rfl (vs := [.int .i64 (-1), .int .i64 (size : Nat)]) (by simp) (fixed_call hm hf hs) ?_
      rintro e w' ⟨v, rfl, h1, h2⟩
      refine ⟨v, rfl, go1 (v := v) rfl (by simp) (wpR_done ?_)⟩
      repeat first | refine retThen ?_ | refine retBlk ?_
      exact ret1 (v := v) (by simp) ⟨v, rfl, h1, h2⟩
    | false =>
      rw [wpC_cond_f (by simp), wpC_skip]
      simp only [thenC, inBlockC]
      rw [wpC_seq, wpC_blk]
      refine go1 (v := .int .i64 (n : Nat)) rfl (by simp) ?_
      refine go1 (v := .int .i64 (size : Nat)) rfl (by simp) ?_
      refine goCall rfl (vs := [.int .i64 (n : Nat), .int .i64 (size : Nat)]) (by simp) (fixed_call hm hf hs) ?_
      rintro e w' ⟨v, rfl, h1, h2⟩
      refine ⟨v, rfl, go1 (v := v) rfl (by simp) (wpR_done ?_)⟩
      exact ret1 (v := v) (by simp) ⟨v, rfl, h1, h2⟩
end
end Go.Msk

namespace Go.Msk
open Go.RowKit
set_option maxRecDepth 100000
def ir_sKnown_1 (_F : Nat → Nat) : IC := (.seq (.blk [⟨some 10, .iad (.tmp 6) (.tmp 8) 8, none⟩,
 ⟨some 11, .ldn (.tmp 10) 8, none⟩,
 ⟨some 5, .alloc [.int .i64 0, .int .i64 0, .int .i64 0, .int .i64 0, .int .i64 0, .int .i64 0, .int .i64 0, .slice none 0 0], none⟩,
 ⟨none, .st (.tmp 5) 8 (.tmp 11), none⟩])
 (.seq (.blk [⟨some 12, .fad (.tmp 5) 4, none⟩,
 ⟨some 13, .ld (.tmp 12), none⟩,
 ⟨some 14, .bin .geq (.tmp 13) (.const (.int .i64 0)), none⟩])
 (.cond (.tmp 14)
 (.blk [⟨some 15, .mv (.tmp 3), none⟩,
 ⟨some 16, .fad (.tmp 5) 4, none⟩,
 ⟨some 17, .ld (.tmp 16), none⟩,
 ⟨some 18, .conv .u32 (.tmp 17), none⟩,
 ⟨some 19, .bin .add (.tmp 18) (.const (.int .u32 1)), none⟩,
 ⟨some 20, .mm true (.tmp 15) (.tmp 19), none⟩,
 ⟨some 3, .mv (.tmp 20), none⟩])
 (.skip))))
def ir_sKnown (F : Nat → Nat) : IC × List RV × Nat := (.seq (.blk [⟨some 2, .mv (.const (.int .u32 0)), none⟩])
 (.seq (.blk [⟨some 3, .mv (.const (.int .u32 0)), none⟩])
 (.seq (.seq (.blk [⟨some 6, .mv (.tmp 0), none⟩,
 ⟨some 7, .len (.tmp 6), none⟩,
 ⟨some 8, .mv (.const (.int .i64 0)), none⟩])
 (.block 0 (.loop (.seq (.blk [⟨some 9, .bin .lss (.tmp 8) (.tmp 7), none⟩])
 (.seq (.cond (.tmp 9)
 (.skip)
 (.exit 0))
 (.seq (.block 1 (ir_sKnown_1 F))
 (.blk [⟨some 21, .bin .add (.tmp 8) (.const (.int .i64 1)), none⟩,
 ⟨some 8, .mv (.tmp 21), none⟩])))))))
 (.seq (.blk [⟨some 22, .mv (.tmp 3), none⟩,
 ⟨some 2, .mv (.tmp 22), none⟩])
 (.ret)))),
 [.tmp 2], 23)
def ir_sUnknown_1 (_F : Nat → Nat) : IC := (.drw [⟨⟨some 23, .mv (.tmp 9), none⟩, false, []⟩,
 ⟨⟨some 24, .mv (.tmp 6), none⟩, false, []⟩,
 ⟨⟨some 25, .len (.tmp 24), none⟩, false, []⟩,
 ⟨⟨some 26, .bin .lss (.tmp 23) (.tmp 25), none⟩, false, []⟩,
 ⟨⟨some 27, .mv (.tmp 26), none⟩, false, []⟩,
 ⟨⟨some 28, .mv (.tmp 6), some (27, true)⟩, false, []⟩,
 ⟨⟨some 29, .mv (.tmp 9), some (27, true)⟩, false, []⟩,
 ⟨⟨some 30, .iad (.tmp 28) (.tmp 29) 2, some (27, true)⟩, false, []⟩,
 ⟨⟨some 31, .fad (.tmp 30) 0, some (27, true)⟩, false, []⟩,
 ⟨⟨some 32, .ld (.tmp 31), some (27, true)⟩, false, []⟩,
 ⟨⟨some 33, .fad (.tmp 8) 0, some (27, true)⟩, false, []⟩,
 ⟨⟨some 34, .ld (.tmp 33), some (27, true)⟩, false, []⟩,
 ⟨⟨some 35, .bin .lss (.tmp 32) (.tmp 34), some (27, true)⟩, false, []⟩,
 ⟨⟨some 36, .pick (.tmp 27) (.tmp 35) (.const (.bool false)), none⟩, false, []⟩]
 [])
def ir_sUnknown_2 (_F : Nat → Nat) : IC := (.drw [⟨⟨some 39, .fad (.tmp 8) 0, none⟩, false, []⟩,
 ⟨⟨some 40, .ld (.tmp 39), none⟩, false, []⟩,
 ⟨⟨some 41, .mv (.tmp 5), none⟩, false, []⟩,
 ⟨⟨some 42, .bin .lss (.tmp 40) (.tmp 41), none⟩, false, []⟩,
 ⟨⟨some 43, .mv (.tmp 42), none⟩, false, []⟩,
 ⟨⟨some 44, .mv (.tmp 9), some (43, false)⟩, false, []⟩,
 ⟨⟨some 45, .mv (.tmp 6), some (43, false)⟩, false, []⟩,
 ⟨⟨some 46, .len (.tmp 45), some (43, false)⟩, false, []⟩,
 ⟨⟨some 47, .bin .lss (.tmp 44) (.tmp 46), some (43, false)⟩, false, []⟩,
 ⟨⟨some 48, .mv (.tmp 47), some (43, false)⟩, false, []⟩,
 ⟨⟨some 49, .mv (.tmp 6), some (48, true)⟩, false, []⟩,
 ⟨⟨some 50, .mv (.tmp 9), some (48, true)⟩, false, []⟩,
 ⟨⟨some 51, .iad (.tmp 49) (.tmp 50) 2, some (48, true)⟩, false, []⟩,
 ⟨⟨some 52, .fad (.tmp 51) 0, some (48, true)⟩, false, []⟩,
 ⟨⟨some 53, .ld (.tmp 52), some (48, true)⟩, false, []⟩,
 ⟨⟨some 54, .fad (.tmp 8) 0, some (48, true)⟩, false, []⟩,
 ⟨⟨some 55, .ld (.tmp 54), some (48, true)⟩, false, []⟩,
 ⟨⟨some 56, .bin .eql (.tmp 53) (.tmp 55), some (48, true)⟩, false, []⟩,
 ⟨⟨some 57, .pick (.tmp 48) (.tmp 56) (.const (.bool false)), some (43, false)⟩, false, []⟩,
 ⟨⟨some 58, .pick (.tmp 43) (.const (.bool true)) (.tmp 57), none⟩, false, []⟩]
 [])
def ir_sUnknown_3 (_F : Nat → Nat) : IC := (.seq (.blk [⟨some 63, .mv (.tmp 6), none⟩,
 ⟨some 64, .len (.tmp 63), none⟩,
 ⟨some 65, .bin .sub (.tmp 64) (.const (.int .i64 1)), none⟩,
 ⟨some 10, .mv (.tmp 65), none⟩])
 (.block 4 (.loop (.seq (.seq (.blk [⟨some 66, .mv (.tmp 10), none⟩,
 ⟨some 67, .mv (.tmp 9), none⟩,
 ⟨some 68, .bin .gtr (.tmp 66) (.tmp 67), none⟩])
 (.cond (.tmp 68)
 (.skip)
 (.exit 4)))
 (.seq (.block 5 (.blk [⟨some 71, .mv (.tmp 6), none⟩,
 ⟨some 72, .mv (.tmp 10), none⟩,
 ⟨some 73, .mv (.tmp 6), none⟩,
 ⟨some 74, .mv (.tmp 10), none⟩,
 ⟨some 75, .bin .sub (.tmp 74) (.const (.int .i64 1)), none⟩,
 ⟨some 76, .iad (.tmp 73) (.tmp 75) 2, none⟩,
 ⟨some 77, .ldn (.tmp 76) 2, none⟩,
 ⟨some 78, .iad (.tmp 71) (.tmp 72) 2, none⟩,
 ⟨none, .st (.tmp 78) 2 (.tmp 77), none⟩]))
 (.blk [⟨some 69, .mv (.tmp 10), none⟩,
 ⟨some 70, .bin .sub (.tmp 69) (.const (.int .i64 1)), none⟩,
 ⟨some 10, .mv (.tmp 70), none⟩]))))))
def ir_sUnknown_4 (F : Nat → Nat) : IC := (.seq (.blk [⟨some 21, .iad (.tmp 17) (.tmp 19) 2, none⟩,
 ⟨some 22, .ldn (.tmp 21) 2, none⟩,
 ⟨some 8, .alloc [.int .u32 0, .slice none 0 0], none⟩,
 ⟨none, .st (.tmp 8) 2 (.tmp 22), none⟩])
 (.seq (.blk [⟨some 9, .mv (.const (.int .i64 0)), none⟩])
 (.seq (.block 2 (.loop (.seq (.seq (ir_sUnknown_1 F)
 (.cond (.tmp 36)
 (.skip)
 (.exit 2)))
 (.block 3 (.blk [⟨some 37, .mv (.tmp 9), none⟩,
 ⟨some 38, .bin .add (.tmp 37) (.const (.int .i64 1)), none⟩,
 ⟨some 9, .mv (.tmp 38), none⟩])))))
 (.seq (.seq (ir_sUnknown_2 F)
 (.cond (.tmp 58)
 (.exit 1)
 (.skip)))
 (.seq (.blk [⟨some 59, .mv (.tmp 6), none⟩,
 ⟨some 60, .build [.int .u32 0, .slice none 0 0] [], none⟩,
 ⟨some 61, .bslice 1 [.int .u32 0, .slice none 0 0] [(0, 2, .tmp 60)], none⟩,
 ⟨some 62, .append (.tmp 59) (.tmp 61) 2 32, none⟩,
 ⟨some 6, .mv (.tmp 62), none⟩])
 (.seq (ir_sUnknown_3 F)
 (.blk [⟨some 79, .mv (.tmp 6), none⟩,
 ⟨some 80, .mv (.tmp 9), none⟩,
 ⟨some 81, .ldn (.tmp 8) 2, none⟩,
 ⟨some 82, .iad (.tmp 79) (.tmp 80) 2, none⟩,
 ⟨none, .st (.tmp 82) 2 (.tmp 81), none⟩])))))))
def ir_sUnknown (F : Nat → Nat) : IC × List RV × Nat := (.seq (.blk [⟨some 4, .mv (.const (.slice none 0 0)), none⟩])
 (.seq (.blk [⟨some 11, .mv (.tmp 0), none⟩,
 ⟨some 12, .call (F sKnown) [.tmp 11], none⟩,
 ⟨some 5, .mv (.tmp 12), none⟩])
 (.seq (.blk [⟨some 6, .mv (.const (.slice none 0 0)), none⟩])
 (.seq (.seq (.blk [⟨some 13, .mv (.tmp 1), none⟩,
 ⟨some 14, .mv (.tmp 1), none⟩,
 ⟨some 15, .len (.tmp 14), none⟩,
 ⟨some 16, .mm false (.tmp 15) (.const (.int .i64 32767)), none⟩,
 ⟨some 17, .slice (.tmp 13) none (some (.tmp 16)) none 2, none⟩,
 ⟨some 18, .len (.tmp 17), none⟩,
 ⟨some 19, .mv (.const (.int .i64 0)), none⟩])
 (.block 0 (.loop (.seq (.blk [⟨some 20, .bin .lss (.tmp 19) (.tmp 18), none⟩])
 (.seq (.cond (.tmp 20)
 (.skip)
 (.exit 0))
 (.seq (.block 1 (ir_sUnknown_4 F))
 (.blk [⟨some 83, .bin .add (.tmp 19) (.const (.int .i64 1)), none⟩,
 ⟨some 19, .mv (.tmp 83), none⟩])))))))
 (.seq (.blk [⟨some 84, .mv (.tmp 6), none⟩,
 ⟨some 4, .mv (.tmp 84), none⟩])
 (.ret))))),
 [.tmp 4], 85)
def ir_sField_1 (F : Nat → Nat) : IC := (.seq (.blk [⟨some 33, .mv (.tmp 31), none⟩,
 ⟨some 12, .mv (.tmp 33), none⟩])
 (.drw [⟨⟨some 34, .mv (.tmp 11), none⟩, false, []⟩,
 ⟨⟨some 35, .fad (.tmp 4) 6, none⟩, false, []⟩,
 ⟨⟨some 36, .ld (.tmp 35), none⟩, false, []⟩,
 ⟨⟨some 37, .fad (.tmp 4) 7, none⟩, false, []⟩,
 ⟨⟨some 38, .ld (.tmp 37), none⟩, false, []⟩,
 ⟨⟨some 39, .mv (.tmp 1), none⟩, false, []⟩,
 ⟨⟨some 40, .mv (.tmp 2), none⟩, false, []⟩,
 ⟨⟨some 41, .mv (.tmp 10), none⟩, false, []⟩,
 ⟨⟨some 42, .mv (.tmp 12), none⟩, false, []⟩,
 ⟨⟨some 43, .iad (.tmp 41) (.tmp 42) 5, none⟩, false, []⟩,
 ⟨⟨some 44, .ldn (.tmp 43) 5, none⟩, false, []⟩,
 ⟨⟨some 45, .call (F sValue) [.tmp 36, .tmp 38, .const (.bool false), .tmp 39, .tmp 40, .tmp 44], none⟩, true, []⟩]
 [⟨some 46, .append (.tmp 34) (.tmp 45) 1 1, none⟩,
 ⟨some 11, .mv (.tmp 46), none⟩]))
def ir_sField_2 (F : Nat → Nat) : IC := (.seq (.blk [⟨some 20, .fad (.tmp 7) 3, none⟩,
 ⟨some 21, .ld (.tmp 20), none⟩,
 ⟨some 22, .call (F sThings) [.tmp 21], none⟩,
 ⟨some 10, .mv (.tmp 22), none⟩])
 (.seq (.seq (.blk [⟨some 23, .mv (.tmp 9), none⟩])
 (.cond (.tmp 23)
 (.blk [⟨some 10, .mv (.const (.slice none 0 0)), none⟩])
 (.skip)))
 (.seq (.blk [⟨some 24, .mv (.tmp 2), none⟩,
 ⟨some 25, .mv (.tmp 9), none⟩,
 ⟨some 26, .mv (.tmp 10), none⟩,
 ⟨some 27, .len (.tmp 26), none⟩,
 ⟨some 28, .call (F sCounted) [.tmp 24, .tmp 25, .tmp 27, .const (.int .i64 4)], none⟩,
 ⟨some 11, .mv (.tmp 28), none⟩])
 (.seq (.seq (.blk [⟨some 29, .mv (.tmp 10), none⟩,
 ⟨some 30, .len (.tmp 29), none⟩,
 ⟨some 31, .mv (.const (.int .i64 0)), none⟩])
 (.block 0 (.loop (.seq (.blk [⟨some 32, .bin .lss (.tmp 31) (.tmp 30), none⟩])
 (.seq (.cond (.tmp 32)
 (.skip)
 (.exit 0))
 (.seq (.block 1 (ir_sField_1 F))
 (.blk [⟨some 47, .bin .add (.tmp 31) (.const (.int .i64 1)), none⟩,
 ⟨some 31, .mv (.tmp 47), none⟩])))))))
 (.seq (.blk [⟨some 48, .mv (.tmp 11), none⟩,
 ⟨some 8, .mv (.tmp 48), none⟩])
 (.ret))))))
def ir_sField_3 (F : Nat → Nat) : IC := (.seq (.seq (.blk [⟨some 57, .mv (.tmp 9), none⟩])
 (.cond (.tmp 57)
 (.seq (.blk [⟨some 58, .call (F sFixed) [.const (.int .i64 (-1)), .const (.int .i64 1)], none⟩,
 ⟨some 8, .mv (.tmp 58), none⟩])
 (.ret))
 (.skip)))
 (.seq (.drw [⟨⟨some 59, .call (F sFixed) [.const (.int .i64 1), .const (.int .i64 1)], none⟩, true, []⟩,
 ⟨⟨some 60, .fad (.tmp 4) 7, none⟩, false, []⟩,
 ⟨⟨some 61, .ld (.tmp 60), none⟩, false, []⟩,
 ⟨⟨some 62, .mv (.tmp 1), none⟩, false, []⟩,
 ⟨⟨some 63, .mv (.tmp 2), none⟩, false, []⟩,
 ⟨⟨some 64, .ldn (.tmp 7) 5, none⟩, false, []⟩,
 ⟨⟨some 65, .call (F sPart) [.tmp 61, .tmp 62, .tmp 63, .tmp 64], none⟩, true, [0]⟩]
 [⟨some 66, .append (.tmp 59) (.tmp 65) 1 1, none⟩,
 ⟨some 8, .mv (.tmp 66), none⟩])
 (.ret)))
def ir_sField (F : Nat → Nat) : IC × List RV × Nat := (.seq (.blk [⟨some 4, .box (.tmp 0), none⟩,
 ⟨some 7, .box (.tmp 3), none⟩,
 ⟨some 8, .mv (.const (.slice none 0 0)), none⟩])
 (.seq (.blk [⟨some 13, .ldn (.tmp 4) 8, none⟩,
 ⟨some 14, .mv (.tmp 1), none⟩,
 ⟨some 15, .ldn (.tmp 7) 5, none⟩,
 ⟨some 16, .call (F sNull) [.tmp 13, .tmp 14, .tmp 15], none⟩,
 ⟨some 9, .mv (.tmp 16), none⟩])
 (.seq (.seq (.blk [⟨some 17, .fad (.tmp 4) 0, none⟩,
 ⟨some 18, .ld (.tmp 17), none⟩,
 ⟨some 19, .bin .eql (.tmp 18) (.const (.int .i64 11)), none⟩])
 (.cond (.tmp 19)
 (ir_sField_2 F)
 (.skip)))
 (.seq (.seq (.blk [⟨some 49, .fad (.tmp 4) 0, none⟩,
 ⟨some 50, .ld (.tmp 49), none⟩,
 ⟨some 51, .bin .eql (.tmp 50) (.const (.int .i64 10)), none⟩,
 ⟨some 52, .mv (.tmp 51), none⟩,
 ⟨some 53, .fad (.tmp 4) 3, some (52, true)⟩,
 ⟨some 54, .ld (.tmp 53), some (52, true)⟩,
 ⟨some 55, .bin .geq (.tmp 54) (.const (.int .i64 0)), some (52, true)⟩,
 ⟨some 56, .pick (.tmp 52) (.tmp 55) (.const (.bool false)), none⟩])
 (.cond (.tmp 56)
 (ir_sField_3 F)
 (.skip)))
 (.seq (.blk [⟨some 67, .fad (.tmp 4) 0, none⟩,
 ⟨some 68, .ld (.tmp 67), none⟩,
 ⟨some 69, .fad (.tmp 4) 7, none⟩,
 ⟨some 70, .ld (.tmp 69), none⟩,
 ⟨some 71, .mv (.tmp 9), none⟩,
 ⟨some 72, .mv (.tmp 1), none⟩,
 ⟨some 73, .mv (.tmp 2), none⟩,
 ⟨some 74, .ldn (.tmp 7) 5, none⟩,
 ⟨some 75, .call (F sValue) [.tmp 68, .tmp 70, .tmp 71, .tmp 72, .tmp 73, .tmp 74], none⟩,
 ⟨some 8, .mv (.tmp 75), none⟩])
 (.ret))))),
 [.tmp 8], 76)
def ir_sPart_1 (F : Nat → Nat) : IC := (.seq (.blk [⟨some 25, .mv (.tmp 23), none⟩,
 ⟨some 26, .iad (.tmp 21) (.tmp 23) 8, none⟩,
 ⟨some 27, .ldn (.tmp 26) 8, none⟩,
 ⟨some 13, .alloc [.int .i64 0, .int .i64 0, .int .i64 0, .int .i64 0, .int .i64 0, .int .i64 0, .int .i64 0, .slice none 0 0], none⟩,
 ⟨some 12, .mv (.tmp 25), none⟩,
 ⟨none, .st (.tmp 13) 8 (.tmp 27), none⟩])
 (.seq (.blk [⟨some 28, .fad (.tmp 13) 4, none⟩,
 ⟨some 29, .ld (.tmp 28), none⟩,
 ⟨some 30, .bin .lss (.tmp 29) (.const (.int .i64 0)), none⟩,
 ⟨some 31, .mv (.tmp 30), none⟩,
 ⟨some 32, .ldn (.tmp 13) 8, some (31, true)⟩,
 ⟨some 33, .mv (.tmp 1), some (31, true)⟩,
 ⟨some 34, .call (F sHas) [.tmp 32, .tmp 33], some (31, true)⟩,
 ⟨some 35, .pick (.tmp 31) (.tmp 34) (.const (.bool false)), none⟩])
 (.cond (.tmp 35)
 (.drw [⟨⟨some 36, .mv (.tmp 9), none⟩, false, []⟩,
 ⟨⟨some 37, .ldn (.tmp 13) 8, none⟩, false, []⟩,
 ⟨⟨some 38, .mv (.tmp 1), none⟩, false, []⟩,
 ⟨⟨some 39, .mv (.tmp 2), none⟩, false, []⟩,
 ⟨⟨some 40, .ldn (.tmp 7) 5, none⟩, false, []⟩,
 ⟨⟨some 41, .mv (.tmp 12), none⟩, false, []⟩,
 ⟨⟨some 42, .call (F sAt) [.tmp 40, .tmp 41], none⟩, true, []⟩,
 ⟨⟨some 43, .call (F sField) [.tmp 37, .tmp 38, .tmp 39, .tmp 42], none⟩, true, [6]⟩]
 [⟨some 44, .append (.tmp 36) (.tmp 43) 1 1, none⟩,
 ⟨some 9, .mv (.tmp 44), none⟩])
 (.skip))))
def ir_sPart_2 (F : Nat → Nat) : IC := (.drw [⟨⟨some 62, .fad (.tmp 16) 4, none⟩, false, []⟩,
 ⟨⟨some 63, .ld (.tmp 62), none⟩, false, []⟩,
 ⟨⟨some 64, .mv (.tmp 14), none⟩, false, []⟩,
 ⟨⟨some 65, .bin .eql (.tmp 63) (.tmp 64), none⟩, false, []⟩,
 ⟨⟨some 66, .mv (.tmp 65), none⟩, false, []⟩,
 ⟨⟨some 67, .ldn (.tmp 16) 8, some (66, true)⟩, false, []⟩,
 ⟨⟨some 68, .ldn (.tmp 7) 5, some (66, true)⟩, false, []⟩,
 ⟨⟨some 69, .mv (.tmp 15), some (66, true)⟩, false, []⟩,
 ⟨⟨some 70, .call (F sAt) [.tmp 68, .tmp 69], some (66, true)⟩, true, []⟩,
 ⟨⟨some 71, .call (F susual_) [.tmp 67, .tmp 70], some (66, true)⟩, true, [8]⟩,
 ⟨⟨some 72, .lnot (.tmp 71), some (66, true)⟩, false, [8, 9]⟩,
 ⟨⟨some 73, .pick (.tmp 66) (.tmp 72) (.const (.bool false)), none⟩, false, [8, 9]⟩]
 [])
def ir_sPart_3 (F : Nat → Nat) : IC := (.seq (.drw [⟨⟨some 74, .ldn (.tmp 16) 8, none⟩, false, []⟩,
 ⟨⟨some 75, .mv (.tmp 1), none⟩, false, []⟩,
 ⟨⟨some 76, .mv (.tmp 2), none⟩, false, []⟩,
 ⟨⟨some 77, .ldn (.tmp 7) 5, none⟩, false, []⟩,
 ⟨⟨some 78, .mv (.tmp 15), none⟩, false, []⟩,
 ⟨⟨some 79, .call (F sAt) [.tmp 77, .tmp 78], none⟩, true, []⟩,
 ⟨⟨some 80, .call (F sField) [.tmp 74, .tmp 75, .tmp 76, .tmp 79], none⟩, true, [5]⟩,
 ⟨⟨some 17, .mv (.tmp 80), none⟩, false, [5, 6]⟩]
 [])
 (.seq (.blk [⟨some 81, .mv (.tmp 10), none⟩,
 ⟨some 82, .mv (.tmp 14), none⟩,
 ⟨some 83, .conv .u64 (.tmp 82), none⟩,
 ⟨some 84, .call (F sUvarint) [.tmp 83], none⟩,
 ⟨some 85, .append (.tmp 81) (.tmp 84) 1 1, none⟩,
 ⟨some 86, .mv (.tmp 17), none⟩,
 ⟨some 87, .len (.tmp 86), none⟩,
 ⟨some 88, .conv .u64 (.tmp 87), none⟩,
 ⟨some 89, .call (F sUvarint) [.tmp 88], none⟩,
 ⟨some 90, .append (.tmp 85) (.tmp 89) 1 1, none⟩,
 ⟨some 91, .mv (.tmp 17), none⟩,
 ⟨some 92, .append (.tmp 90) (.tmp 91) 1 1, none⟩,
 ⟨some 10, .mv (.tmp 92), none⟩])
 (.blk [⟨some 93, .mv (.tmp 11), none⟩,
 ⟨some 94, .bin .add (.tmp 93) (.const (.int .i64 1)), none⟩,
 ⟨some 11, .mv (.tmp 94), none⟩])))
def ir_sPart_4 (F : Nat → Nat) : IC := (.seq (.blk [⟨some 54, .mv (.tmp 52), none⟩,
 ⟨some 14, .mv (.tmp 54), none⟩])
 (.seq (.blk [⟨some 55, .mv (.tmp 0), none⟩,
 ⟨some 56, .len (.tmp 55), none⟩,
 ⟨some 57, .mv (.const (.int .i64 0)), none⟩])
 (.block 4 (.loop (.seq (.blk [⟨some 58, .bin .lss (.tmp 57) (.tmp 56), none⟩])
 (.seq (.cond (.tmp 58)
 (.skip)
 (.exit 4))
 (.seq (.block 5 (.seq (.blk [⟨some 59, .mv (.tmp 57), none⟩,
 ⟨some 60, .iad (.tmp 55) (.tmp 57) 8, none⟩,
 ⟨some 61, .ldn (.tmp 60) 8, none⟩,
 ⟨some 16, .alloc [.int .i64 0, .int .i64 0, .int .i64 0, .int .i64 0, .int .i64 0, .int .i64 0, .int .i64 0, .slice none 0 0], none⟩,
 ⟨some 15, .mv (.tmp 59), none⟩,
 ⟨none, .st (.tmp 16) 8 (.tmp 61), none⟩])
 (.seq (ir_sPart_2 F)
 (.cond (.tmp 73)
 (ir_sPart_3 F)
 (.skip)))))
 (.blk [⟨some 95, .bin .add (.tmp 57) (.const (.int .i64 1)), none⟩,
 ⟨some 57, .mv (.tmp 95), none⟩]))))))))
def ir_sPart_5 (F : Nat → Nat) : IC := (.seq (.blk [⟨some 104, .iad (.tmp 100) (.tmp 102) 2, none⟩,
 ⟨some 105, .ldn (.tmp 104) 2, none⟩,
 ⟨some 19, .alloc [.int .u32 0, .slice none 0 0], none⟩,
 ⟨none, .st (.tmp 19) 2 (.tmp 105), none⟩])
 (.seq (.blk [⟨some 106, .fad (.tmp 19) 1, none⟩,
 ⟨some 107, .ld (.tmp 106), none⟩,
 ⟨some 108, .call (F sWhole) [.tmp 107], none⟩,
 ⟨some 20, .mv (.tmp 108), none⟩])
 (.seq (.blk [⟨some 109, .mv (.tmp 10), none⟩,
 ⟨some 110, .fad (.tmp 19) 0, none⟩,
 ⟨some 111, .ld (.tmp 110), none⟩,
 ⟨some 112, .conv .u64 (.tmp 111), none⟩,
 ⟨some 113, .call (F sUvarint) [.tmp 112], none⟩,
 ⟨some 114, .append (.tmp 109) (.tmp 113) 1 1, none⟩,
 ⟨some 115, .mv (.tmp 20), none⟩,
 ⟨some 116, .len (.tmp 115), none⟩,
 ⟨some 117, .conv .u64 (.tmp 116), none⟩,
 ⟨some 118, .call (F sUvarint) [.tmp 117], none⟩,
 ⟨some 119, .append (.tmp 114) (.tmp 118) 1 1, none⟩,
 ⟨some 120, .mv (.tmp 20), none⟩,
 ⟨some 121, .append (.tmp 119) (.tmp 120) 1 1, none⟩,
 ⟨some 10, .mv (.tmp 121), none⟩])
 (.blk [⟨some 122, .mv (.tmp 11), none⟩,
 ⟨some 123, .bin .add (.tmp 122) (.const (.int .i64 1)), none⟩,
 ⟨some 11, .mv (.tmp 123), none⟩]))))
def ir_sPart (F : Nat → Nat) : IC × List RV × Nat := (.seq (.blk [⟨some 7, .box (.tmp 3), none⟩,
 ⟨some 8, .mv (.const (.slice none 0 0)), none⟩])
 (.seq (.blk [⟨some 9, .mv (.const (.slice none 0 0)), none⟩,
 ⟨some 10, .mv (.const (.slice none 0 0)), none⟩])
 (.seq (.blk [⟨some 11, .mv (.const (.int .i64 0)), none⟩])
 (.seq (.seq (.blk [⟨some 21, .mv (.tmp 0), none⟩,
 ⟨some 22, .len (.tmp 21), none⟩,
 ⟨some 23, .mv (.const (.int .i64 0)), none⟩])
 (.block 0 (.loop (.seq (.blk [⟨some 24, .bin .lss (.tmp 23) (.tmp 22), none⟩])
 (.seq (.cond (.tmp 24)
 (.skip)
 (.exit 0))
 (.seq (.block 1 (ir_sPart_1 F))
 (.blk [⟨some 45, .bin .add (.tmp 23) (.const (.int .i64 1)), none⟩,
 ⟨some 23, .mv (.tmp 45), none⟩])))))))
 (.seq (.seq (.blk [⟨some 46, .mv (.tmp 2), none⟩,
 ⟨some 47, .lnot (.tmp 46), none⟩])
 (.cond (.tmp 47)
 (.seq (.blk [⟨some 48, .mv (.tmp 9), none⟩,
 ⟨some 8, .mv (.tmp 48), none⟩])
 (.ret))
 (.skip)))
 (.seq (.seq (.blk [⟨some 49, .mv (.tmp 0), none⟩,
 ⟨some 50, .call (F sKnown) [.tmp 49], none⟩,
 ⟨some 51, .conv .i64 (.tmp 50), none⟩,
 ⟨some 52, .mv (.const (.int .i64 0)), none⟩])
 (.block 2 (.loop (.seq (.blk [⟨some 53, .bin .lss (.tmp 52) (.tmp 51), none⟩])
 (.seq (.cond (.tmp 53)
 (.skip)
 (.exit 2))
 (.seq (.block 3 (ir_sPart_4 F))
 (.blk [⟨some 96, .bin .add (.tmp 52) (.const (.int .i64 1)), none⟩,
 ⟨some 52, .mv (.tmp 96), none⟩])))))))
 (.seq (.seq (.blk [⟨some 97, .mv (.tmp 0), none⟩,
 ⟨some 98, .fad (.tmp 7) 4, none⟩,
 ⟨some 99, .ld (.tmp 98), none⟩,
 ⟨some 100, .call (F sUnknown) [.tmp 97, .tmp 99], none⟩,
 ⟨some 101, .len (.tmp 100), none⟩,
 ⟨some 102, .mv (.const (.int .i64 0)), none⟩])
 (.block 6 (.loop (.seq (.blk [⟨some 103, .bin .lss (.tmp 102) (.tmp 101), none⟩])
 (.seq (.cond (.tmp 103)
 (.skip)
 (.exit 6))
 (.seq (.block 7 (ir_sPart_5 F))
 (.blk [⟨some 124, .bin .add (.tmp 102) (.const (.int .i64 1)), none⟩,
 ⟨some 102, .mv (.tmp 124), none⟩])))))))
 (.seq (.blk [⟨some 125, .mv (.tmp 9), none⟩,
 ⟨some 126, .mv (.tmp 11), none⟩,
 ⟨some 127, .conv .u64 (.tmp 126), none⟩,
 ⟨some 128, .call (F sUvarint) [.tmp 127], none⟩,
 ⟨some 129, .append (.tmp 125) (.tmp 128) 1 1, none⟩,
 ⟨some 130, .mv (.tmp 10), none⟩,
 ⟨some 131, .append (.tmp 129) (.tmp 130) 1 1, none⟩,
 ⟨some 8, .mv (.tmp 131), none⟩])
 (.ret)))))))),
 [.tmp 8], 132)
def ir_sWrite (F : Nat → Nat) : IC × List RV × Nat := (.seq (.blk [⟨some 3, .box (.tmp 0), none⟩,
 ⟨some 5, .box (.tmp 2), none⟩,
 ⟨some 6, .mv (.const (.slice none 0 0)), none⟩])
 (.seq (.blk [⟨some 7, .fad (.tmp 3) 0, none⟩,
 ⟨some 8, .ld (.tmp 7), none⟩,
 ⟨some 9, .mv (.tmp 1), none⟩,
 ⟨some 10, .fad (.tmp 3) 1, none⟩,
 ⟨some 11, .ld (.tmp 10), none⟩,
 ⟨some 12, .bin .geq (.tmp 11) (.const (.int .i64 0)), none⟩,
 ⟨some 13, .mv (.tmp 12), none⟩,
 ⟨some 14, .mv (.tmp 1), some (13, true)⟩,
 ⟨some 15, .fad (.tmp 3) 1, some (13, true)⟩,
 ⟨some 16, .ld (.tmp 15), some (13, true)⟩,
 ⟨some 17, .bin .geq (.tmp 14) (.tmp 16), some (13, true)⟩,
 ⟨some 18, .pick (.tmp 13) (.tmp 17) (.const (.bool false)), none⟩,
 ⟨some 19, .ldn (.tmp 5) 5, none⟩,
 ⟨some 20, .call (F sPart) [.tmp 8, .tmp 9, .tmp 18, .tmp 19], none⟩,
 ⟨some 6, .mv (.tmp 20), none⟩])
 (.ret)),
 [.tmp 6], 21)
def ir_sValue_1 (F : Nat → Nat) : IC := (.seq (.blk [⟨some 34, .fad (.tmp 11) 1, none⟩,
 ⟨some 35, .ld (.tmp 34), none⟩,
 ⟨some 36, .call (F sWhole) [.tmp 35], none⟩,
 ⟨some 14, .mv (.tmp 36), none⟩])
 (.seq (.seq (.blk [⟨some 37, .mv (.tmp 2), none⟩])
 (.cond (.tmp 37)
 (.blk [⟨some 14, .mv (.const (.slice none 0 0)), none⟩])
 (.skip)))
 (.seq (.blk [⟨some 38, .mv (.tmp 4), none⟩,
 ⟨some 39, .mv (.tmp 2), none⟩,
 ⟨some 40, .mv (.tmp 14), none⟩,
 ⟨some 41, .len (.tmp 40), none⟩,
 ⟨some 42, .call (F sCounted) [.tmp 38, .tmp 39, .tmp 41, .const (.int .i64 2)], none⟩,
 ⟨some 43, .mv (.tmp 14), none⟩,
 ⟨some 44, .append (.tmp 42) (.tmp 43) 1 1, none⟩,
 ⟨some 12, .mv (.tmp 44), none⟩])
 (.ret))))
def ir_sValue_2 (F : Nat → Nat) : IC := (.seq (.blk [⟨some 47, .fad (.tmp 11) 1, none⟩,
 ⟨some 48, .ld (.tmp 47), none⟩,
 ⟨some 49, .call (F sWhole) [.tmp 48], none⟩,
 ⟨some 15, .mv (.tmp 49), none⟩])
 (.seq (.seq (.blk [⟨some 50, .mv (.tmp 2), none⟩])
 (.cond (.tmp 50)
 (.blk [⟨some 15, .mv (.const (.slice none 0 0)), none⟩])
 (.skip)))
 (.seq (.blk [⟨some 51, .mv (.tmp 4), none⟩,
 ⟨some 52, .mv (.tmp 2), none⟩,
 ⟨some 53, .mv (.tmp 15), none⟩,
 ⟨some 54, .len (.tmp 53), none⟩,
 ⟨some 55, .call (F sCounted) [.tmp 51, .tmp 52, .tmp 54, .const (.int .i64 4)], none⟩,
 ⟨some 56, .mv (.tmp 15), none⟩,
 ⟨some 57, .append (.tmp 55) (.tmp 56) 1 1, none⟩,
 ⟨some 12, .mv (.tmp 57), none⟩])
 (.ret))))
def ir_sValue_3 (F : Nat → Nat) : IC := (.seq (.blk [⟨some 33, .bin .eql (.tmp 16) (.const (.int .i64 8)), none⟩,
 ⟨some 32, .mv (.tmp 33), none⟩])
 (.cond (.tmp 32)
 (ir_sValue_1 F)
 (.seq (.blk [⟨some 46, .bin .eql (.tmp 16) (.const (.int .i64 9)), none⟩,
 ⟨some 45, .mv (.tmp 46), none⟩])
 (.cond (.tmp 45)
 (ir_sValue_2 F)
 (.seq (.blk [⟨some 59, .bin .eql (.tmp 16) (.const (.int .i64 10)), none⟩,
 ⟨some 58, .mv (.tmp 59), none⟩])
 (.cond (.tmp 58)
 (.seq (.blk [⟨some 60, .mv (.tmp 1), none⟩,
 ⟨some 61, .mv (.tmp 3), none⟩,
 ⟨some 62, .mv (.tmp 4), none⟩,
 ⟨some 63, .ldn (.tmp 11) 5, none⟩,
 ⟨some 64, .call (F sPart) [.tmp 60, .tmp 61, .tmp 62, .tmp 63], none⟩,
 ⟨some 12, .mv (.tmp 64), none⟩])
 (.ret))
 (.skip)))))))
def ir_sValue_4 (F : Nat → Nat) : IC := (.seq (.blk [⟨some 18, .bin .eql (.tmp 16) (.const (.int .i64 0)), none⟩,
 ⟨some 17, .mv (.tmp 18), none⟩])
 (.cond (.tmp 17)
 (.seq (.blk [⟨some 19, .fad (.tmp 11) 0, none⟩,
 ⟨some 20, .ld (.tmp 19), none⟩,
 ⟨some 21, .bin .and (.tmp 20) (.const (.int .i64 1)), none⟩,
 ⟨some 22, .conv .u8 (.tmp 21), none⟩,
 ⟨some 23, .bslice 1 [.int .u8 0] [(0, 1, .tmp 22)], none⟩,
 ⟨some 12, .mv (.tmp 23), none⟩])
 (.ret))
 (.seq (.blk [⟨some 25, .bin .eql (.tmp 16) (.const (.int .i64 7)), none⟩,
 ⟨some 24, .mv (.tmp 25), none⟩])
 (.cond (.tmp 24)
 (.seq (.blk [⟨some 26, .mkslice (.const (.int .i64 16)) (.const (.int .i64 16)) 1 [.int .u8 0], none⟩,
 ⟨some 13, .mv (.tmp 26), none⟩])
 (.seq (.blk [⟨some 27, .mv (.tmp 13), none⟩,
 ⟨some 28, .fad (.tmp 11) 1, none⟩,
 ⟨some 29, .ld (.tmp 28), none⟩,
 ⟨some 30, .copy (.tmp 27) (.tmp 29) 1, none⟩])
 (.seq (.blk [⟨some 31, .mv (.tmp 13), none⟩,
 ⟨some 12, .mv (.tmp 31), none⟩])
 (.ret))))
 (ir_sValue_3 F)))))
def ir_sValue (F : Nat → Nat) : IC × List RV × Nat := (.seq (.blk [⟨some 11, .box (.tmp 5), none⟩,
 ⟨some 12, .mv (.const (.slice none 0 0)), none⟩])
 (.seq (.seq (.blk [⟨some 16, .mv (.tmp 0), none⟩])
 (.block 0 (ir_sValue_4 F)))
 (.seq (.drw [⟨⟨some 65, .fad (.tmp 11) 0, none⟩, false, []⟩,
 ⟨⟨some 66, .ld (.tmp 65), none⟩, false, []⟩,
 ⟨⟨some 67, .mv (.tmp 0), none⟩, false, []⟩,
 ⟨⟨some 68, .call (F sWidth) [.tmp 67], none⟩, true, []⟩,
 ⟨⟨some 69, .call (F sFixed) [.tmp 66, .tmp 68], none⟩, true, [3]⟩,
 ⟨⟨some 12, .mv (.tmp 69), none⟩, false, [3, 4]⟩]
 [])
 (.ret))),
 [.tmp 12], 70)
end Go.Msk

namespace Go.Msk
open Go.RowKit
set_option maxRecDepth 100000
def knownP (fs : List FD) : Nat := fs.foldl (fun n f => if f.tag ≥ 0 then max n (f.tag.toNat + 1) else n) 0
def insU (k : Nat) (b : List UInt8) : List (Nat × List UInt8) → List (Nat × List UInt8)
  | [] => [(k, b)]
  | (k', b') :: r => if k' < k then (k', b') :: insU k b r else if k' = k then (k', b') :: r else (k, b) :: (k', b') :: r
def unkStep (least : Nat) (out : List (Nat × List UInt8)) (t : Nat × List UInt8) : List (Nat × List UInt8) := if t.1 < least then out else insU t.1 t.2 out
def unknownP (fs : List FD) (u : List (Nat × List UInt8)) : List (Nat × List UInt8) := (u.take 32767).foldl (unkStep (knownP fs)) []
def posU (k : Nat) : List (Nat × List UInt8) → Nat
  | [] => 0
  | (k', _) :: r => if k' < k then posU k r + 1 else 0
theorem posU_le (k : Nat) : ∀ l, posU k l ≤ l.length
  | [] => Nat.le_refl _
  | (k', b) :: r => by simp only [posU]; split <;> simp [posU_le k r]
theorem posU_lt {k : Nat} : ∀ {l : List (Nat × List UInt8)} {i : Nat}, i < posU k l → ∃ t, l[i]? = some t ∧ t.1 < k
  | [], i, h => by simp [posU] at h
  | (k', b) :: r, 0, h => by
    simp only [posU] at h
    split at h
    · rename_i hk; exact ⟨_, rfl, hk⟩
    · omega
  | (k', b) :: r, i + 1, h => by
    simp only [posU] at h
    split at h
    · simpa using posU_lt (l := r) (i := i) (by omega)
    · omega
theorem posU_ge {k : Nat} : ∀ {l : List (Nat × List UInt8)} {t : Nat × List UInt8}, l[posU k l]? = some t → ¬ t.1 < k
  | [], t, h => by simp [posU] at h
  | (k', b) :: r, t, h => by
    simp only [posU] at h
    split at h
    · simp only [List.getElem?_cons_succ] at h; exact posU_ge h
    · rename_i hk; simp only [List.getElem?_cons_zero, Option.some.injEq] at h; subst h; exact hk
theorem insU_pos (k : Nat) (b : List UInt8) : ∀ l, insU k b l = if (l[posU k l]?).map (·.1) = some k then l else l.take (posU k l) ++ (k, b) :: l.drop (posU k l)
  | [] => by simp [insU, posU]
  | (k', b') :: r => by
    simp only [insU, posU]
    by_cases h : k' < k
    · simp only [h, if_true, List.getElem?_cons_succ, List.take_succ_cons, List.drop_succ_cons, List.cons_append]
      rw [insU_pos k b r]
      split <;> rfl
    · simp only [h, if_false, List.getElem?_cons_zero, Option.map_some, Option.some.injEq, List.take_zero, List.drop_zero, List.nil_append]
theorem knownP_lt {fs : List FD} (h : ∀ f ∈ fs, f.tag < 2147483648) : knownP fs < 2147483649 := by
  have : ∀ (l : List FD) (n : Nat), n < 2147483649 → (∀ f ∈ l, f.tag < 2147483648) → l.foldl (fun n f => if f.tag ≥ 0 then max n (f.tag.toNat + 1) else n) n < 2147483649 := by
    intro l
    induction l with
    | nil => intro n h _; exact h
    | cons f l ih =>
      intro n hn hl
      simp only [List.foldl_cons]
      refine ih _ ?_ fun g hg => hl g (List.mem_cons_of_mem _ hg)
      have := hl f List.mem_cons_self
      split
      · omega
      · exact hn
  exact this fs 0 (by omega) h
theorem knownP_snoc (l : List FD) (f : FD) : knownP (l ++ [f]) = if f.tag ≥ 0 then max (knownP l) (f.tag.toNat + 1) else knownP l := by
  simp [knownP, List.foldl_append]
theorem take_succ_of {α : Type} {l : List α} {j : Nat} {x : α} (h : l[j]? = some x) : l.take (j + 1) = l.take j ++ [x] := by
  rw [List.take_add_one, h]; rfl
theorem flat_setAt {n : Nat} {css : List (List Value)} {rest es : List Value} {k : Nat} (h2 : ∀ c ∈ css, c.length = n) (he : es.length = n) (hk : k < css.length) : splice (css.flatten ++ rest) (k * n) es = (css.set k es).flatten ++ rest := by
  induction css generalizing k with
  | nil => simp at hk
  | cons c css ih =>
    have hc := h2 c List.mem_cons_self
    cases k with
    | zero =>
      simp only [Nat.zero_mul, List.set_cons_zero, List.flatten_cons, splice, List.take_zero, List.nil_append, Nat.zero_add, List.append_assoc]
      rw [he, ← hc, List.drop_left]
    | succ k =>
      have := ih (k := k) (fun x hx => h2 x (List.mem_cons_of_mem _ hx)) (by simpa using hk)
      simp only [List.set_cons_succ, List.flatten_cons, List.append_assoc] at this ⊢
      rw [← this]
      simp only [splice]
      have e : (k + 1) * n = c.length + k * n := by rw [hc, Nat.add_mul]; omega
      rw [e, List.take_length_add_append, Nat.add_assoc, List.drop_length_add_append, List.append_assoc]
section
variable {P : Program} {F : Nat → Nat}
attribute [local simp] gOk updo upd ev RK.val? isShift intBin Addr.add_mk args0 Value.cells undef
theorem known_call (hm : P.follows .mixedOrders = true) (h : liftF P (F sKnown) = some (ir_sKnown F)) {w : World} {v : Value} {fs : List FD} {css : List (List Value)} (hv : SlC anyB w v fs.length css.flatten) (hr : RepFL anyB w fs css) (hlen : fs.length < 2147483648) (ht : ∀ f ∈ fs, f.tag < 2147483648) :
    Calls P (F sKnown) [v].toArray w fun e w' => e = .returned (.int .u32 (knownP fs)) ∧ Mod [] w w' := by
  unfold ir_sKnown at h
  refine call_of h hm (by simp) ?_
  clear h
  obtain ⟨vb, vc, ev'⟩ := hv.shape
  rw [wpC_seq, wpC_blk]
  refine go1 rfl rfl (wpR_done ?_)
  rw [wpC_seq, wpC_blk]
  refine go1 rfl rfl (wpR_done ?_)
  rw [wpC_seq, wpC_seq, wpC_blk]
  iterate 3 (apply go1 rfl; (· simp [ev'] <;> rfl))
  refine wpR_done ?_
  refine rangeLoop (n := fs.length) (fun j σ w' => σ 6 = v ∧ σ 8 = .int .i64 (j : Nat) ∧ σ 7 = .int .i64 fs.length ∧ σ 3 = .int .u32 (knownP (fs.take j) : Nat) ∧ Mod [] w w') (by omega) (by omega) (fun j σ w h => ⟨h.2.1, h.2.2.1⟩) ?_ ?_ ?_
  · simp [knownP, ev', Mod.refl]
  · rintro j σ w1 hj ⟨h6, h8, h7, h3, hm1⟩
    obtain ⟨f, hf⟩ : ∃ f, fs[j]? = some f := ⟨fs[j], by simp [hj]⟩
    obtain ⟨cs, hcs, hrep⟩ := hr.nth hf
    obtain ⟨a, c, ea, hjn, hcell⟩ := hv.flat hr.length hr.eight hcs
    have htag := ht f (List.mem_of_getElem? hf)
    have hcell1 : cellsAt w1 (a.add (j * 8)) 0 8 = some cs := cellsAt_below hm1.below _ _ _ hcell
    unfold ir_sKnown_1
    rw [wpC_seq, wpC_blk]
    refine go1 (v := .pointer (some (a.add (j * 8)))) rfl (by simp [h6, ea, h8, hjn]) ?_
    refine go1 (v := .agg cs.toArray) rfl (by simp [hcell1]) ?_
    refine goAlloc fun w2 hb2 hm2 => ?_
    refine goSt (b := w1.heap.size) (v := .agg cs.toArray) (by simp) (by simp) hb2 (by simp [hrep.eight]) rfl (by simpa using hrep.oneCell) fun w3 hb3 hm3 => ?_
    have hm13 : Mod [] w1 w3 := Mod.drop (b := w1.heap.size) (S := []) (hm2.nil.trans hm3) (Nat.le_refl _)
    refine wpR_done ?_
    have c3 := fun k => hb3.cell k
    rw [wpC_seq, wpC_blk]
    cases hrep with
    | @mk kind frm to null tag dfl of sub sv css' h1 h2 =>
    iterate 3 (apply go1 rfl; (· simp [c3] <;> rfl))
    refine wpR_done ?_
    simp only [FD.tag] at htag
    by_cases e1 : tag ≥ 0
    · rw [wpC_cond_t (by simp [e1]), wpC_blk]
      refine go1 (v := .int .u32 (knownP (fs.take j) : Nat)) rfl (by simp [h3]) ?_
      iterate 2 (apply go1 rfl; (· simp [c3] <;> rfl))
      have hk := knownP_lt (fs := fs.take j) fun f hf => ht f (List.mem_of_mem_take hf)
      refine go1 (v := .int .u32 (tag.toNat : Nat)) rfl (by
        simp only [RK.val?, ev, updo, upd, if_true]
        rw [show tag = ((tag.toNat : Nat) : Int) by omega, u32_nat (by omega)]; simp) ?_
      refine go1 (v := .int .u32 ((tag.toNat + 1 : Nat) : Int)) rfl (by
        simp only [RK.val?, ev, updo, upd, if_true, isShift, decide_true, Bool.or_true, intBin]
        rw [show (tag.toNat : Int) + 1 = ((tag.toNat + 1 : Nat) : Int) by omega, u32_nat (by omega)]) ?_
      refine go1 (v := .int .u32 ((max (knownP (fs.take j)) (tag.toNat + 1) : Nat) : Int)) rfl (by
        simp only [RK.val?, ev, updo, upd, if_true]
        simp
        split <;> omega) ?_
      refine go1 rfl rfl (goEnd ?_)
      simp only [rngP]
      refine ⟨by simp [h8], by simp [h6], by simp, by simp [h7], ?_, hm1.trans hm13⟩
      rw [take_succ_of hf, knownP_snoc]
      simp [FD.tag, e1]
    · rw [wpC_cond_f (by simp; omega), wpC_skip]
      simp only [rngP]
      refine ⟨by simp [h8], by simp [h6], by simp, by simp [h7], ?_, hm1.trans hm13⟩
      rw [take_succ_of hf, knownP_snoc]
      simp [FD.tag, e1, h3]
  · rintro σ w1 ⟨h6, h8, h7, h3, hm1⟩
    simp only [thenC]
    rw [wpC_seq, wpC_blk]
    refine go1 rfl rfl (go1 rfl rfl (wpR_done (ret1 (v := .int .u32 (knownP fs)) (by simp [h3]) ⟨rfl, hm1⟩)))
end
end Go.Msk

namespace Go.Msk
open Go.RowKit
set_option maxRecDepth 100000
section
variable {P : Program}
theorem LRaw2.mod {w w' : World} {n0 : Nat} {lv : Value} {css : List (List Value)} {S : List Nat} (h : LRaw2 w n0 lv css) (hm : Mod S w w') (hS : ∀ b, own lv = some b → b ∉ S) : LRaw2 w' n0 lv css :=
  ⟨h.two, h.sl.imp id fun ⟨BA, cap, rest, g1, g2, g3, g4, g5⟩ => ⟨BA, cap, rest, g1, g2, g3, g4.mod hm (hS _ (by rw [g1]; rfl)), g5⟩⟩
theorem LRaw2.own {w : World} {n0 : Nat} {lv : Value} {css : List (List Value)} (h : LRaw2 w n0 lv css) {b : Nat} (hb : own lv = some b) : n0 ≤ b ∧ b < w.heap.size := by
  rcases h.sl with ⟨rfl, -⟩ | ⟨BA, cap, rest, rfl, -, h3, h4, -⟩
  · simp [Msk.own] at hb
  · simp only [Msk.own, Option.some.injEq] at hb; subst hb; exact ⟨h3, h4.lt⟩
theorem LRaw2.slcN {w : World} {n0 : Nat} {lv : Value} {css : List (List Value)} (h : LRaw2 w n0 lv css) : SlC (fun b => n0 ≤ b) w lv css.length css.flatten := by
  rcases h.sl with ⟨rfl, rfl⟩ | ⟨BA, cap, rest, rfl, h2, h3, h4, -⟩
  · exact SlC.nil
  · refine ⟨_, cap, rfl, h2, fun h => by simp at h, fun a ha _ => ?_⟩
    simp only [Option.some.injEq] at ha; subst ha
    refine ⟨h3, h4.lt, ?_⟩
    have := h4.cells.take css.flatten.length
    simpa using this
end
end Go.Msk

namespace Go.Msk
open Go.RowKit
set_option maxRecDepth 100000
theorem RepU.take {ok : Nat → Prop} {w : World} : ∀ {l : List (Nat × List UInt8)} {css : List (List Value)} (_ : RepU ok w l css) (k : Nat), RepU ok w (l.take k) (css.take k)
  | _, _, .nil, k => by simp; exact .nil
  | _, _, .cons h1 h2, 0 => by simp; exact .nil
  | _, _, .cons h1 h2, k + 1 => by simp only [List.take_succ_cons]; exact .cons h1 (h2.take k)
theorem RepU.drop {ok : Nat → Prop} {w : World} : ∀ {l : List (Nat × List UInt8)} {css : List (List Value)} (_ : RepU ok w l css) (k : Nat), RepU ok w (l.drop k) (css.drop k)
  | _, _, .nil, k => by simp; exact .nil
  | _, _, .cons h1 h2, 0 => by simp only [List.drop_zero]; exact .cons h1 h2
  | _, _, .cons h1 h2, k + 1 => by simp only [List.drop_succ_cons]; exact h2.drop k
theorem SlC.lowN {w : World} {v : Value} {n : Nat} {cs : List Value} (h : SlC anyB w v n cs) : SlC (fun b => b < w.heap.size) w v n cs := h.mod (Mod.refl [] w) (by simp) fun _ hb _ => hb
theorem RepU.lowN {w : World} {l : List (Nat × List UInt8)} {cs : List (List Value)} (h : RepU anyB w l cs) : RepU (fun b => b < w.heap.size) w l cs := h.mod (Mod.refl [] w) (by simp) fun _ hb _ => hb
theorem RepU.any {ok : Nat → Prop} {w : World} {l : List (Nat × List UInt8)} {cs : List (List Value)} (h : RepU ok w l cs) : RepU anyB w l cs := h.mod (Mod.refl [] w) (by simp) fun _ _ _ => trivial
theorem RepU.oneCell {ok : Nat → Prop} {w : World} {l : List (Nat × List UInt8)} {css : List (List Value)} (h : RepU ok w l css) : ∀ c ∈ css, ∀ v ∈ c, v.oneCell' = true := by
  induction h with
  | nil => intro c hc; simp at hc
  | cons h _ ih =>
    intro c hc v hv
    rcases List.mem_cons.1 hc with rfl | hc
    · simp only [List.mem_cons, List.not_mem_nil, or_false] at hv
      rcases hv with rfl | rfl
      · rfl
      · exact h.one
    · exact ih c hc v hv
theorem set_shift {α : Type} {l : List α} {m : Nat} {x y : α} (h : l[m]? = some y) : (l.take (m + 1) ++ x :: l.drop (m + 1)).set (m + 1) y = l.take m ++ y :: l.drop m := by
  have hl : m < l.length := (List.getElem?_eq_some_iff.1 h).1
  have e1 : (l.take (m + 1)).length = m + 1 := by simp; omega
  have : l.take (m + 1) = l.take m ++ [y] := take_succ_of h
  rw [List.set_append, if_neg (by omega), e1, Nat.sub_self, List.set_cons_zero, this, List.append_assoc]
  have e2 : l.drop m = y :: l.drop (m + 1) := by
    rw [List.drop_eq_getElem_cons hl]
    congr 1
    exact (List.getElem?_eq_some_iff.1 h).2
  rw [e2]; rfl
theorem set_mid {α : Type} {l : List α} {m : Nat} {x y : α} (h : m ≤ l.length) : (l.take m ++ x :: l.drop m).set m y = l.take m ++ y :: l.drop m := by
  have e1 : (l.take m).length = m := by simp; omega
  rw [List.set_append, if_neg (by omega), e1, Nat.sub_self, List.set_cons_zero]
theorem mid_get {α : Type} {l : List α} {m j : Nat} {x : α} (hm : m ≤ l.length) (hj : j < m) : (l.take m ++ x :: l.drop m)[j]? = l[j]? := by
  rw [List.getElem?_append_left (by simp; omega), List.getElem?_take, if_pos hj]
section
variable {P : Program} {F : Nat → Nat}
attribute [local simp] gOk updo upd ev RK.val? isShift intBin Addr.add_mk args0 Value.cells undef
theorem unk_cond {σ : Sl} {w : World} {N i k tb : Nat} {lv sv : Value} {ucs : List (List Value)} {out : List (Nat × List UInt8)} {Q : Exit → Sl → World → Prop} (h6 : σ 6 = lv) (h8 : σ 8 = .pointer (some ⟨tb, 0, none⟩)) (h9 : σ 9 = .int .i64 (i : Nat))
    (hraw : LRaw2 w N lv ucs) (hrep : RepU (fun b => b < N) w out ucs) (htb : Blk w tb [.int .u32 (k : Nat), sv])
    (hQ : ∀ σ' w', (∀ s, s < 23 → σ' s = σ s) → σ' 36 = .bool (match out[i]? with | some t => decide (t.1 < k) | none => false) → Mod [] w w' → Q .normal σ' w') : wpC P (ir_sUnknown_1 F) Q σ w := by
  have hm : Mod [] w w.drew := Mod.drew _ _
  have ct := fun k => (htb.mod hm (by simp)).cell k
  have hlen := hrep.length
  have hsl := (hraw.slcN.any).keep hm
  obtain ⟨b, c, e6⟩ := hsl.shape
  unfold ir_sUnknown_1
  simp only [wpC]
  refine wpD_pure rfl ?_
  simp only [List.map_cons, List.map_nil, List.append_nil]
  refine go1 (v := .int .i64 (i : Nat)) rfl (by simp [h9]) ?_
  refine go1 (v := lv) rfl (by simp [h6]) ?_
  refine go1 (v := .int .i64 (ucs.length : Nat)) rfl (by simp [e6]) ?_
  refine go1 (v := .bool (decide (i < out.length))) rfl (by simp [hlen]) ?_
  refine go1 (v := .bool (decide (i < out.length))) rfl (by simp) ?_
  by_cases hi : i < out.length
  · obtain ⟨t, ht⟩ : ∃ t, out[i]? = some t := ⟨out[i], by simp [hi]⟩
    obtain ⟨v, hv1, hv2⟩ := hrep.nth ht
    obtain ⟨p, cc, ep, hj, hcell0, hcell1⟩ := hsl.pair rfl hraw.two hv1
    refine go1 (v := lv) (by simp [hi]) (by simp [h6]) ?_
    refine go1 (v := .int .i64 (i : Nat)) (by simp [hi]) (by simp [h9]) ?_
    refine go1 (v := .pointer (some (p.add (i * 2)))) (by simp [hi]) (by simp [ep]; omega) ?_
    refine go1 (v := .pointer (some ((p.add (i * 2)).add 0))) (by simp [hi]) (by simp) ?_
    refine go1 (v := .int .u32 (t.1 : Nat)) (by simp [hi]) (by simp [hcell0]) ?_
    refine go1 (v := .pointer (some ⟨tb, 0, none⟩)) (by simp [hi]) (by simp [h8]) ?_
    refine go1 (v := .int .u32 (k : Nat)) (by simp [hi]) (by simp [ct]) ?_
    refine go1 (v := .bool (decide (t.1 < k))) (by simp [hi]) (by simp) ?_
    refine go1 (v := .bool (decide (t.1 < k))) rfl (by simp [hi]) ?_
    refine goEnd (hQ _ _ ?_ (by simp [ht]) hm)
    intro s hs
    simp only [updo, upd]
    repeat rw [if_neg (by omega)]
  · have ht : out[i]? = none := by simp; omega
    iterate 8 (refine go0 (by simp [hi]) ?_)
    refine go1 (v := .bool false) rfl (by simp [hi]) ?_
    refine goEnd (hQ _ _ ?_ (by simp [ht]) hm)
    intro s hs
    simp only [updo, upd]
    repeat rw [if_neg (by omega)]
theorem unk_find {σ : Sl} {w : World} {N k tb : Nat} {lv sv : Value} {ucs : List (List Value)} {out : List (Nat × List UInt8)} {Q : Exit → Sl → World → Prop} (h6 : σ 6 = lv) (h8 : σ 8 = .pointer (some ⟨tb, 0, none⟩)) (h9 : σ 9 = .int .i64 0)
    (hraw : LRaw2 w N lv ucs) (hrep : RepU (fun b => b < N) w out ucs) (htb : Blk w tb [.int .u32 (k : Nat), sv]) (hlen : out.length < 2147483648)
    (hQ : ∀ σ' w', (∀ s, s < 23 → s ≠ 9 → σ' s = σ s) → σ' 9 = .int .i64 (posU k out : Nat) → Mod [] w w' → Q .normal σ' w') :
    wpC P (.block 2 (.loop (.seq (.seq (ir_sUnknown_1 F)
                    (.cond (.tmp 36)
                      (.skip)
                      (.exit 2)))
                  (.block 3 (.blk [⟨(some (37)), .mv (.tmp 9), none⟩,
                      ⟨(some (38)), .bin .add (.tmp 37) (.const (.int .i64 1)), none⟩,
                      ⟨(some (9)), .mv (.tmp 38), none⟩]))))) Q σ w := by
  rw [wpC_block, wpC_loop]
  refine ⟨fun σ1 w1 => ∃ i, i ≤ posU k out ∧ σ1 9 = .int .i64 (i : Nat) ∧ (∀ s, s < 23 → s ≠ 9 → σ1 s = σ s) ∧ Mod [] w w1, fun σ1 _ => posU k out - (match σ1 9 with | .int _ j => j.toNat | _ => 0), ⟨0, Nat.zero_le _, h9, fun _ _ _ => rfl, Mod.refl _ _⟩, ?_⟩
  rintro σ1 w1 ⟨i, hi, k9, hfr, hm1⟩
  rw [wpC_seq, wpC_seq]
  refine unk_cond (lv := lv) (by rw [hfr 6 (by omega) (by omega)]; exact h6) (by rw [hfr 8 (by omega) (by omega)]; exact h8) k9 (hraw.mod hm1 (by simp)) (hrep.mod hm1 (by simp) fun _ _ h => h) (htb.mod hm1 (by simp)) fun σ2 w2 hfr2 h36 hm2 => ?_
  simp only [thenC]
  have hfr' : ∀ s, s < 23 → s ≠ 9 → σ2 s = σ s := fun s h1 h2 => by rw [hfr2 s h1]; exact hfr s h1 h2
  by_cases hlt : i < posU k out
  · obtain ⟨t, ht, htk⟩ := posU_lt hlt
    rw [wpC_cond_t (by rw [ev, h36, ht]; simp [htk]), wpC_skip]
    simp only [thenC]
    rw [wpC_block, wpC_blk]
    have hle := posU_le k out
    refine go1 (v := .int .i64 (i : Nat)) rfl (by simp [hfr2, k9]) ?_
    refine go1 (v := .int .i64 ((i + 1 : Nat) : Int)) rfl (by
      simp only [RK.val?, ev, updo, upd, if_true, isShift, decide_true, Bool.or_true, intBin]
      rw [show (i : Int) + 1 = ((i + 1 : Nat) : Int) by omega, i64_nat (by omega)]) ?_
    refine go1 (v := .int .i64 ((i + 1 : Nat) : Int)) rfl (by simp) (goEnd ?_)
    simp only [inBlockC, thenC]
    refine ⟨⟨i + 1, by omega, by simp, fun s h1 h2 => ?_, hm1.trans hm2⟩, ?_⟩
    · rw [← hfr' s h1 h2]; simp only [updo, upd]
      repeat rw [if_neg (by omega)]
    · simp only [updo, upd, if_true, k9, Int.toNat_natCast]
      have : posU k out - (i + 1) < posU k out - i := by omega
      exact this
  · have : i = posU k out := by omega
    subst this
    have hf : σ2 36 = .bool false := by
      rw [h36]
      cases ht : out[posU k out]? with
      | none => rfl
      | some t => simp [posU_ge ht]
    rw [wpC_cond_f (by rw [ev, hf])]
    simp only [wpC, thenC, inBlockC, if_true]
    exact hQ σ2 w2 hfr' (by rw [hfr2 9 (by omega)]; exact k9) (hm1.trans hm2)
theorem unk_skip {σ : Sl} {w : World} {N k tb least i : Nat} {lv sv : Value} {ucs : List (List Value)} {out : List (Nat × List UInt8)} {Q : Exit → Sl → World → Prop} (h5 : σ 5 = .int .u32 (least : Nat)) (h6 : σ 6 = lv) (h8 : σ 8 = .pointer (some ⟨tb, 0, none⟩)) (h9 : σ 9 = .int .i64 (i : Nat))
    (hraw : LRaw2 w N lv ucs) (hrep : RepU (fun b => b < N) w out ucs) (htb : Blk w tb [.int .u32 (k : Nat), sv])
    (hQ : ∀ σ' w', (∀ s, s < 23 → σ' s = σ s) → σ' 58 = .bool (decide (k < least) || decide ((out[i]?).map (·.1) = some k)) → Mod [] w w' → Q .normal σ' w') : wpC P (ir_sUnknown_2 F) Q σ w := by
  have hm : Mod [] w w.drew := Mod.drew _ _
  have ct := fun k => (htb.mod hm (by simp)).cell k
  have hlen := hrep.length
  have hsl := (hraw.slcN.any).keep hm
  obtain ⟨b, c, e6⟩ := hsl.shape
  unfold ir_sUnknown_2
  simp only [wpC]
  refine wpD_pure rfl ?_
  simp only [List.map_cons, List.map_nil, List.append_nil]
  refine go1 (v := .pointer (some ⟨tb, 0, none⟩)) rfl (by simp [h8]) ?_
  refine go1 (v := .int .u32 (k : Nat)) rfl (by simp [ct]) ?_
  refine go1 (v := .int .u32 (least : Nat)) rfl (by simp [h5]) ?_
  refine go1 (v := .bool (decide (k < least))) rfl (by simp) ?_
  refine go1 (v := .bool (decide (k < least))) rfl (by simp) ?_
  by_cases hk : k < least
  · iterate 14 (refine go0 (by simp [hk]) ?_)
    refine go1 (v := .bool true) rfl (by simp [hk]) ?_
    refine goEnd (hQ _ _ ?_ (by simp [hk]) hm)
    intro s hs
    simp only [updo, upd]
    repeat rw [if_neg (by omega)]
  · refine go1 (v := .int .i64 (i : Nat)) (by simp [hk]) (by simp [h9]) ?_
    refine go1 (v := lv) (by simp [hk]) (by simp [h6]) ?_
    refine go1 (v := .int .i64 (ucs.length : Nat)) (by simp [hk]) (by simp [e6]) ?_
    refine go1 (v := .bool (decide (i < out.length))) (by simp [hk]) (by simp [hlen]) ?_
    refine go1 (v := .bool (decide (i < out.length))) (by simp [hk]) (by simp) ?_
    by_cases hi : i < out.length
    · obtain ⟨t, ht⟩ : ∃ t, out[i]? = some t := ⟨out[i], by simp [hi]⟩
      obtain ⟨v, hv1, hv2⟩ := hrep.nth ht
      obtain ⟨p, cc, ep, hj, hcell0, hcell1⟩ := hsl.pair rfl hraw.two hv1
      refine go1 (v := lv) (by simp [hi]) (by simp [h6]) ?_
      refine go1 (v := .int .i64 (i : Nat)) (by simp [hi]) (by simp [h9]) ?_
      refine go1 (v := .pointer (some (p.add (i * 2)))) (by simp [hi]) (by simp [ep]; omega) ?_
      refine go1 (v := .pointer (some ((p.add (i * 2)).add 0))) (by simp [hi]) (by simp) ?_
      refine go1 (v := .int .u32 (t.1 : Nat)) (by simp [hi]) (by simp [hcell0]) ?_
      refine go1 (v := .pointer (some ⟨tb, 0, none⟩)) (by simp [hi]) (by simp [h8]) ?_
      refine go1 (v := .int .u32 (k : Nat)) (by simp [hi]) (by simp [ct]) ?_
      refine go1 (v := .bool (decide (t.1 = k))) (by simp [hi]) (by
        simp
        by_cases e : t.1 = k
        · simp [e]
        · have : ¬ ((t.1 : Int) = k) := by omega
          simp [e, this]) ?_
      refine go1 (v := .bool (decide (t.1 = k))) (by simp [hk]) (by simp [hi]) ?_
      refine go1 (v := .bool (decide (t.1 = k))) rfl (by simp [hk]) ?_
      refine goEnd (hQ _ _ ?_ (by simp [ht, hk]) hm)
      intro s hs
      simp only [updo, upd]
      repeat rw [if_neg (by omega)]
    · have ht : out[i]? = none := by simp; omega
      iterate 8 (refine go0 (by simp [hi]) ?_)
      refine go1 (v := .bool false) (by simp [hk]) (by simp [hi]) ?_
      refine go1 (v := .bool false) rfl (by simp [hk]) ?_
      refine goEnd (hQ _ _ ?_ (by simp [ht, hk]) hm)
      intro s hs
      simp only [updo, upd]
      repeat rw [if_neg (by omega)]
theorem unk_shift {σ : Sl} {w : World} {i n B cap : Nat} {ucs : List (List Value)} {z rest : List Value} {Q : Exit → Sl → World → Prop} (h6 : σ 6 = .slice (some ⟨B, 0, none⟩) (n + 1) cap) (h9 : σ 9 = .int .i64 (i : Nat)) (hi : i ≤ n) (hn : ucs.length = n) (hbig : n < 2147483648)
    (h2 : ∀ c ∈ ucs, c.length = 2) (hone : ∀ c ∈ ucs, ∀ v ∈ c, v.oneCell' = true) (hz : z.length = 2) (hb : Blk w B ((ucs ++ [z]).flatten ++ rest))
    (hQ : ∀ σ' w' x, (∀ s, s < 63 → s ≠ 10 → σ' s = σ s) → x.length = 2 → Blk w' B ((ucs.take i ++ x :: ucs.drop i).flatten ++ rest) → Mod [B] w w' → Q .normal σ' w') : wpC P (ir_sUnknown_3 F) Q σ w := by
  unfold ir_sUnknown_3
  rw [wpC_seq, wpC_blk]
  refine go1 (v := .slice (some ⟨B, 0, none⟩) (n + 1) cap) rfl (by simp [h6]) ?_
  refine go1 (v := .int .i64 ((n + 1 : Nat) : Int)) rfl (by simp) ?_
  refine go1 (v := .int .i64 (n : Nat)) rfl (by
    simp only [RK.val?, ev, updo, upd, if_true, isShift, decide_true, Bool.or_true, intBin]
    rw [show ((n + 1 : Nat) : Int) - 1 = (n : Int) by omega, i64_nat (by omega)]) ?_
  refine go1 (v := .int .i64 (n : Nat)) rfl (by simp) (wpR_done ?_)
  rw [wpC_block, wpC_loop]
  refine ⟨fun σ1 w1 => ∃ m x, i ≤ m ∧ m ≤ n ∧ σ1 10 = .int .i64 (m : Nat) ∧ (∀ s, s < 63 → s ≠ 10 → σ1 s = σ s) ∧ x.length = 2 ∧ Blk w1 B ((ucs.take m ++ x :: ucs.drop m).flatten ++ rest) ∧ Mod [B] w w1,
    fun σ1 _ => (match σ1 10 with | .int _ j => j.toNat | _ => 0), ⟨n, z, hi, Nat.le_refl _, by simp, fun s h1 h2 => ?_, hz, ?_, Mod.refl _ _⟩, ?_⟩
  · simp only [updo, upd]
    repeat rw [if_neg (by omega)]
  · rw [List.take_of_length_le (by omega), List.drop_eq_nil_of_le (by omega)]; exact hb
  · rintro σ1 w1 ⟨m, x, him, hmn, k10, hfr, hx, hbl, hm1⟩
    rw [wpC_seq, wpC_seq, wpC_blk]
    refine go1 (v := .int .i64 (m : Nat)) rfl (by simp [k10]) ?_
    refine go1 (v := .int .i64 (i : Nat)) rfl (by simp [hfr, h9]) ?_
    refine go1 (v := .bool (decide (m > i))) rfl (by simp) (wpR_done ?_)
    by_cases hlt : m > i
    · rw [wpC_cond_t (by simp [hlt]), wpC_skip]
      simp only [thenC]
      rw [wpC_seq, wpC_block, wpC_blk]
      obtain ⟨m, rfl⟩ : ∃ k, m = k + 1 := ⟨m - 1, by omega⟩
      obtain ⟨y, hy⟩ : ∃ y, ucs[m]? = some y := ⟨ucs[m], by simp <;> omega⟩
      have hall : ∀ c ∈ ucs.take (m + 1) ++ x :: ucs.drop (m + 1), c.length = 2 := by
        intro c hc
        rcases List.mem_append.1 hc with hc | hc
        · exact h2 c (List.mem_of_mem_take hc)
        · rcases List.mem_cons.1 hc with rfl | hc
          · exact hx
          · exact h2 c (List.mem_of_mem_drop hc)
      have hy2 : y.length = 2 := h2 y (List.mem_of_getElem? hy)
      have hcell : cellsAt w1 ⟨B, m * 2, none⟩ 0 2 = some y := by
        have hc := hbl.cells.take (ucs.take (m + 1) ++ x :: ucs.drop (m + 1)).flatten.length
        rw [List.take_left] at hc
        have := flat_cells hc hall (j := m) (by rw [mid_get (by omega) (by omega)]; exact hy)
        simp only [Nat.zero_add] at this
        exact cellsAt_of' this hy2
      have f6 : σ1 6 = .slice (some ⟨B, 0, none⟩) (n + 1) cap := by rw [hfr 6 (by omega) (by omega)]; exact h6
      refine go1 (v := .slice (some ⟨B, 0, none⟩) (n + 1) cap) rfl (by simp [f6]) ?_
      refine go1 (v := .int .i64 ((m + 1 : Nat) : Int)) rfl (by simp [k10]) ?_
      refine go1 (v := .slice (some ⟨B, 0, none⟩) (n + 1) cap) rfl (by simp [f6]) ?_
      refine go1 (v := .int .i64 ((m + 1 : Nat) : Int)) rfl (by simp [k10]) ?_
      refine go1 (v := .int .i64 (m : Nat)) rfl (by
        simp only [RK.val?, ev, updo, upd, if_true, isShift, decide_true, Bool.or_true, intBin]
        rw [show ((m + 1 : Nat) : Int) - 1 = (m : Int) by omega, i64_nat (by omega)]) ?_
      refine go1 (v := .pointer (some ⟨B, m * 2, none⟩)) rfl (by simp; omega) ?_
      refine go1 (v := .agg y.toArray) rfl (by simp [hcell]) ?_
      refine go1 (v := .pointer (some ⟨B, (m + 1) * 2, none⟩)) rfl (by simp; omega) ?_
      refine wpR_run ?_
      have hfl : ((ucs.take (m + 1) ++ x :: ucs.drop (m + 1)).flatten).length = (n + 1) * 2 := by
        rw [flatten_length hall]
        simp; omega
      have hput := hbl.put (o := (m + 1) * 2) (vs := y) (by simp only [List.length_append, hfl]; omega)
      rw [flat_setAt hall hy2 (by simp; omega), set_shift hy] at hput
      have hmput : Mod [B] w1 (putCells w1 ⟨B, (m + 1) * 2, none⟩ 0 y) := Mod.put (by simp)
      simp only [RK.run, ev, updo, upd, if_true]
      refine ⟨by simpa using hy2, stOk_many hbl (by simp only [List.length_append, hfl]; simp [hy2]; omega) (by simpa using hone y (List.mem_of_getElem? hy)), ?_⟩
      refine goEnd ?_
      simp only [inBlockC, thenC]
      rw [wpC_blk]
      refine go1 (v := .int .i64 ((m + 1 : Nat) : Int)) rfl (by simp [k10]) ?_
      refine go1 (v := .int .i64 (m : Nat)) rfl (by
        simp only [RK.val?, ev, updo, upd, if_true, isShift, decide_true, Bool.or_true, intBin]
        rw [show ((m + 1 : Nat) : Int) - 1 = (m : Int) by omega, i64_nat (by omega)]) ?_
      refine go1 (v := .int .i64 (m : Nat)) rfl (by simp) (goEnd ?_)
      simp only [thenC]
      refine ⟨⟨m, y, by omega, by omega, by simp, fun s h1 h2 => ?_, hy2, by simpa using hput, hm1.trans (by simpa using hmput)⟩, ?_⟩
      · rw [← hfr s h1 h2]; simp only [updo, upd]
        repeat rw [if_neg (by omega)]
      · simp [k10]
    · have : m = i := by omega
      subst this
      rw [wpC_cond_f (by simp)]
      simp only [wpC, thenC, inBlockC, if_true]
      refine hQ _ w1 x (fun s h1 h2 => ?_) hx hbl hm1
      rw [← hfr s h1 h2]; simp only [updo, upd]
      repeat rw [if_neg (by omega)]
end
end Go.Msk

namespace Go.Msk
open Go.RowKit
set_option maxRecDepth 100000
theorem insU_length (k : Nat) (b : List UInt8) : ∀ l, (insU k b l).length ≤ l.length + 1
  | [] => by simp [insU]
  | (k', b') :: r => by
    have := insU_length k b r
    simp only [insU]; repeat' split
    all_goals simp
    omega
theorem unk_length (least : Nat) : ∀ (u out : List (Nat × List UInt8)), (u.foldl (unkStep least) out).length ≤ out.length + u.length
  | [], out => by simp
  | t :: u, out => by
    have h1 := unk_length least u (unkStep least out t)
    have h2 : (unkStep least out t).length ≤ out.length + 1 := by
      unfold unkStep; split
      · omega
      · exact insU_length _ _ _
    simp only [List.foldl_cons, List.length_cons]; omega
theorem two_one {k : Nat} {sv : Value} (h : sv.oneCell' = true) : ∀ y ∈ (Value.agg #[.int .u32 (k : Nat), sv]).cells.toList, y.oneCell' = true := by
  intro y hy
  have : y = .int .u32 (k : Nat) ∨ y = sv := by simpa [Value.cells] using hy
  rcases this with rfl | rfl
  · rfl
  · exact h
structure UQ (w0 w : World) (lv : Value) (out : List (Nat × List UInt8)) (ucs : List (List Value)) : Prop where
  raw : LRaw2 w w0.heap.size lv ucs
  rep : RepU (fun b => b < w0.heap.size) w out ucs
  mod : Mod [] w0 w
theorem UQ.keep {w0 w w' : World} {lv : Value} {out : List (Nat × List UInt8)} {ucs : List (List Value)} (h : UQ w0 w lv out ucs) (hm : Mod [] w w') : UQ w0 w' lv out ucs :=
  ⟨h.raw.mod hm (by simp), h.rep.mod hm (by simp) fun _ _ h => h, h.mod.trans hm⟩
section
variable {P : Program} {F : Nat → Nat}
attribute [local simp] gOk updo upd ev RK.val? isShift intBin Addr.add_mk args0 Value.cells undef
theorem unk_body {σ : Sl} {w0 w : World} {j least n k : Nat} {lv sv : Value} {b : List UInt8} {ucs : List (List Value)} {out : List (Nat × List UInt8)} {a : Addr} {c : Nat} {Q : Exit → Sl → World → Prop} (h5 : σ 5 = .int .u32 (least : Nat)) (h6 : σ 6 = lv) (h17 : σ 17 = .slice (some a) n c) (h19 : σ 19 = .int .i64 (j : Nat)) (hj : j < n)
    (hq : UQ w0 w lv out ucs) (hcell : cellsAt w (a.add (j * 2)) 0 2 = some [.int .u32 (k : Nat), sv]) (hsv : SlC (fun b => b < w0.heap.size) w sv b.length (u8s b)) (hout : out.length < 2147483647)
    (hQ : ∀ σ' w' lv' ucs', (∀ s, s < 23 → s ≠ 6 → s ≠ 8 → s ≠ 9 → s ≠ 10 → s ≠ 21 → s ≠ 22 → σ' s = σ s) → σ' 6 = lv' → UQ w0 w' lv' (unkStep least out (k, b)) ucs' → Q (.exit 1) σ' w' ∧ Q .normal σ' w') : wpC P (ir_sUnknown_4 F) Q σ w := by
  unfold ir_sUnknown_4
  rw [wpC_seq, wpC_blk]
  refine go1 (v := .pointer (some (a.add (j * 2)))) rfl (by simp [h17, h19, hj]) ?_
  refine go1 (v := .agg #[.int .u32 (k : Nat), sv]) rfl (by simp [hcell]) ?_
  refine goAlloc fun w1 hb1 hm1 => ?_
  refine goSt (b := w.heap.size) (v := .agg #[.int .u32 (k : Nat), sv]) (by simp) (by simp) hb1 rfl rfl (two_one hsv.one) fun w2 hb2 hm2 => ?_
  have hm02 : Mod [] w w2 := Mod.drop (b := w.heap.size) (S := []) (hm1.nil.trans hm2) (Nat.le_refl _)
  have hq2 := hq.keep hm02
  have hsv2 : SlC (fun b => b < w0.heap.size) w2 sv b.length (u8s b) := hsv.mod hm02 (by simp) fun _ _ h => h
  refine wpR_done ?_
  rw [wpC_seq, wpC_blk]
  refine go1 rfl rfl (wpR_done ?_)
  rw [wpC_seq]
  refine unk_find (k := k) (tb := w.heap.size) (sv := sv) (lv := lv) (by simp [h6]) (by simp) (by simp) hq2.raw hq2.rep (by simpa using hb2) (by omega) fun σ1 w3 hfr h9 hm3 => ?_
  have hq3 := hq2.keep hm3
  have f5 : σ1 5 = .int .u32 (least : Nat) := by rw [hfr 5 (by omega) (by omega)]; simp [h5]
  have f6 : σ1 6 = lv := by rw [hfr 6 (by omega) (by omega)]; simp [h6]
  have f8 : σ1 8 = .pointer (some ⟨w.heap.size, 0, none⟩) := by rw [hfr 8 (by omega) (by omega)]; simp
  simp only [thenC]
  rw [wpC_seq, wpC_seq]
  have hb3 : Blk w3 w.heap.size [.int .u32 (k : Nat), sv] := Blk.mod (by simpa using hb2) hm3 (by simp)
  refine unk_skip (least := least) (k := k) (tb := w.heap.size) (sv := sv) (lv := lv) f5 f6 f8 h9 hq3.raw hq3.rep hb3 fun σ2 w4 hfr2 h58 hm4 => ?_
  have hq4 := hq3.keep hm4
  have hb4 := hb3.mod hm4 (by simp)
  simp only [thenC]
  have hfr12 : ∀ s, s < 23 → s ≠ 8 → s ≠ 9 → s ≠ 21 → s ≠ 22 → σ2 s = σ s := by
    intro s h1 h2 h3 h4 h5
    rw [hfr2 s h1, hfr s h1 h3]
    simp only [updo, upd]
    repeat rw [if_neg (by omega)]
  by_cases hk : k < least
  · rw [wpC_cond_t (by rw [ev, h58]; simp [hk])]
    simp only [wpC, thenC]
    refine (hQ σ2 w4 lv ucs (fun s h1 _ h2 h3 _ h4 h5 => hfr12 s h1 h2 h3 h4 h5) (by rw [hfr12 6 (by omega) (by omega) (by omega) (by omega) (by omega)]; exact h6) ?_).1
    unfold unkStep; rw [if_pos hk]; exact hq4
  · by_cases he : (out[posU k out]?).map (·.1) = some k
    · rw [wpC_cond_t (by rw [ev, h58]; simp [he])]
      simp only [wpC, thenC]
      refine (hQ σ2 w4 lv ucs (fun s h1 _ h2 h3 _ h4 h5 => hfr12 s h1 h2 h3 h4 h5) (by rw [hfr12 6 (by omega) (by omega) (by omega) (by omega) (by omega)]; exact h6) ?_).1
      unfold unkStep; rw [if_neg hk, insU_pos, if_pos he]; exact hq4
    · rw [wpC_cond_f (by rw [ev, h58]; simp [hk, he]), wpC_skip]
      simp only [thenC]
      rw [wpC_seq, wpC_blk]
      have hlen := hq4.rep.length
      have hpos := posU_le k out
      refine go1 (v := lv) rfl (by simp [hfr2, f6]) ?_
      refine go1 (v := .agg #[.int .u32 0, .slice none 0 0]) rfl rfl ?_
      refine goOne (cs := [.int .u32 0, .slice none 0 0]) (by simp) rfl rfl fun w5 hbz hm5 => ?_
      have hq5 := hq4.keep hm5
      refine wpR_run ?_
      refine append_two (lv := lv) (css := ucs) (by simp []) hq5.raw hq5.mod.size (by simp) hbz rfl (by simp [Value.oneCell']) (by omega) fun lv' w6 hraw6 hown => ?_
      have hm06 : Mod [] w0 w6 ∧ RepU (fun b => b < w0.heap.size) w6 out ucs ∧ (∀ b, b < w0.heap.size ∨ b = w.heap.size → b < w5.heap.size → w6.heap[b]? = w5.heap[b]?) := by
        rcases hown with ⟨⟨ho, hm6⟩, -⟩ | ⟨ho, hm6⟩
        · have hge : ∀ b, own lv = some b → w0.heap.size ≤ b ∧ b < w.heap.size := fun b hb => ⟨(hq.raw.own hb).1, (hq.raw.own hb).2⟩
          refine ⟨?_, hq5.rep.mod hm6 (fun b hb hc => by have := hge b (by simpa using hb); omega) fun _ _ h => h, fun b hb hlt => hm6.block b hlt fun hc => by have := hge b (by simpa using hc); omega⟩
          cases ho : own lv with
          | none => rw [ho] at hm6; exact hq5.mod.trans hm6.nil
          | some b =>
            rw [ho] at hm6
            exact Mod.drop (b := b) (S := []) ((hq5.mod.nil).trans (hm6.mono (by simp))) (hge b ho).1
        · exact ⟨hq5.mod.trans hm6, hq5.rep.mod hm6 (by simp) fun _ _ h => h, fun b hb hlt => hm6.block b hlt (by simp)⟩
      obtain ⟨k1, k2, k3⟩ := hm06
      have htb6 : Blk w6 w.heap.size [.int .u32 (k : Nat), sv] := by
        have := hb4.mod hm5 (by simp)
        exact this.of_heap (k3 _ (.inr rfl) this.lt)
      have hsv6 : SlC (fun b => b < w0.heap.size) w6 sv b.length (u8s b) := by
        have h5 : SlC (fun b => b < w0.heap.size) w5 sv b.length (u8s b) := hsv.mod ((hm02.trans hm3).trans (hm4.trans hm5)) (by simp) fun _ _ h => h
        obtain ⟨base, cp, e1, e2, e3, e4⟩ := h5
        refine ⟨base, cp, e1, e2, e3, fun a ha hc => ?_⟩
        obtain ⟨q1, q2, q3⟩ := e4 a ha hc
        exact ⟨q1, Nat.lt_of_lt_of_le q1 k1.size, q3.of_eq (k3 _ (.inl q1) q2)⟩
      rcases hraw6.sl with ⟨-, hnil⟩ | ⟨B, cap, rest, elv, hcap, hB, hblk, hrest⟩
      · simp at hnil
      refine go1 (v := lv') rfl (by simp) (wpR_done ?_)
      rw [wpC_seq]
      refine unk_shift (B := B) (cap := cap) (n := out.length) (i := posU k out) (ucs := ucs) (z := [.int .u32 0, .slice none 0 0]) (rest := rest) (by simp [elv, hlen]) (by simp [hfr2, h9]) hpos hlen.symm (by omega) hq4.raw.two hq4.rep.oneCell rfl (by simpa using hblk) fun σ3 w7 x hfr3 hx hblk7 hm7 => ?_
      simp only [thenC]
      rw [wpC_blk]
      have htB : w.heap.size ≠ B := by
        intro e
        have := hown
        rcases this with ⟨⟨ho, -⟩, -⟩ | ⟨ho, -⟩
        · rw [elv] at ho
          have h1 : own lv = some B := by rw [← ho]; rfl
          have := (hq.raw.own h1).2; omega
        · rw [elv] at ho
          simp only [own, Option.some.injEq] at ho
          have := hbz.lt; have := hm02.size; have := hm3.size; have := hm4.size; have := hm5.size
          have := hb4.lt; omega
      have htb7 : Blk w7 w.heap.size [.int .u32 (k : Nat), sv] := htb6.mod hm7 (by simpa using htB)
      have g6 : σ3 6 = .slice (some ⟨B, 0, none⟩) (out.length + 1) cap := by rw [hfr3 6 (by omega) (by omega)]; simp [elv, hlen]
      have g8 : σ3 8 = .pointer (some ⟨w.heap.size, 0, none⟩) := by rw [hfr3 8 (by omega) (by omega)]; simp [hfr2, f8]
      have g9 : σ3 9 = .int .i64 (posU k out : Nat) := by rw [hfr3 9 (by omega) (by omega)]; simp [hfr2, h9]
      have hct := cellsAt_of' htb7.cells (n := 2) rfl
      refine go1 (v := .slice (some ⟨B, 0, none⟩) (out.length + 1) cap) rfl (by simp [g6]) ?_
      refine go1 (v := .int .i64 (posU k out : Nat)) rfl (by simp [g9]) ?_
      refine go1 (v := .agg #[.int .u32 (k : Nat), sv]) rfl (by simp [g8, hct]) ?_
      refine go1 (v := .pointer (some ⟨B, posU k out * 2, none⟩)) rfl (by simp; omega) ?_
      have hall : ∀ c ∈ ucs.take (posU k out) ++ x :: ucs.drop (posU k out), c.length = 2 := by
        intro c hc
        rcases List.mem_append.1 hc with hc | hc
        · exact hq4.raw.two c (List.mem_of_mem_take hc)
        · rcases List.mem_cons.1 hc with rfl | hc
          · exact hx
          · exact hq4.raw.two c (List.mem_of_mem_drop hc)
      have hlen7 : (ucs.take (posU k out) ++ x :: ucs.drop (posU k out)).length = ucs.length + 1 := by simp; omega
      have hfl : ((ucs.take (posU k out) ++ x :: ucs.drop (posU k out)).flatten).length = (ucs.length + 1) * 2 := by rw [flatten_length hall, hlen7]
      have hput := hblk7.put (o := posU k out * 2) (vs := [.int .u32 (k : Nat), sv]) (by simp only [List.length_append, hfl]; simp; omega)
      rw [flat_setAt hall rfl (by rw [hlen7]; omega), set_mid (by omega)] at hput
      have hmput : Mod [B] w7 (putCells w7 ⟨B, posU k out * 2, none⟩ 0 [.int .u32 (k : Nat), sv]) := Mod.put (by simp)
      refine wpR_run ?_
      simp only [RK.run, ev, updo, upd, if_true]
      refine ⟨rfl, stOk_many hblk7 (by simp only [List.length_append, hfl]; simp; omega) (two_one hsv.one), ?_⟩
      refine goEnd ?_
      simp only [Value.cells]
      have hm08 : Mod [] w0 (putCells w7 ⟨B, posU k out * 2, none⟩ 0 [.int .u32 (k : Nat), sv]) := Mod.drop (b := B) (S := []) (k1.nil.trans (hm7.trans hmput)) hB
      refine (hQ _ _ (.slice (some ⟨B, 0, none⟩) (out.length + 1) cap) (ucs.take (posU k out) ++ [.int .u32 (k : Nat), sv] :: ucs.drop (posU k out)) (fun s s1 s2 s3 s4 s5 s6 s7 => ?_) ?_ ⟨⟨?_, .inr ⟨B, cap, rest, ?_, ?_, hB, hput, ?_⟩⟩, ?_, hm08⟩).2
      · simp only [upd]
        repeat rw [if_neg (by omega)]
        rw [hfr3 s (by omega) s5]
        simp only [updo, upd]
        repeat rw [if_neg (by omega)]
        exact hfr12 s s1 s3 s4 s6 s7
      · simp [g6]
      · intro c hc
        rcases List.mem_append.1 hc with hc | hc
        · exact hq4.raw.two c (List.mem_of_mem_take hc)
        · rcases List.mem_cons.1 hc with rfl | hc
          · rfl
          · exact hq4.raw.two c (List.mem_of_mem_drop hc)
      · simp; omega
      · simp at hcap ⊢; omega
      · simp at hrest ⊢; omega
      · have e : unkStep least out (k, b) = out.take (posU k out) ++ (k, b) :: out.drop (posU k out) := by
          unfold unkStep; rw [if_neg hk, insU_pos, if_neg he]
        rw [e]
        have hmB : Mod [B] w6 (putCells w7 ⟨B, posU k out * 2, none⟩ 0 [.int .u32 (k : Nat), sv]) := hm7.trans hmput
        have hr := k2.mod (ok' := fun b => b < w0.heap.size) hmB (by simp; omega) fun _ _ h => h
        exact (hr.take _).append (.cons (hsv6.mod hmB (by simp; omega) fun _ _ h => h) (hr.drop _))
theorem unknown_call (hm : P.follows .mixedOrders = true) (h : liftF P (F sUnknown) = some (ir_sUnknown F)) (hk : liftF P (F sKnown) = some (ir_sKnown F)) {w : World} {v uv : Value} {fs : List FD} {css uss : List (List Value)} {u : List (Nat × List UInt8)}
    (hv : SlC anyB w v fs.length css.flatten) (hr : RepFL anyB w fs css) (hlen : fs.length < 2147483648) (ht : ∀ f ∈ fs, f.tag < 2147483648) (hu : SlC anyB w uv u.length uss.flatten) (hur : RepU anyB w u uss) :
    Calls P (F sUnknown) [v, uv].toArray w fun e w' => ∃ lv ucs, e = .returned lv ∧ SlC anyB w' lv (unknownP fs u).length ucs.flatten ∧ RepU anyB w' (unknownP fs u) ucs ∧ Mod [] w w' := by
  unfold ir_sUnknown at h
  refine call_of h hm (by simp) ?_
  clear h
  rw [wpC_seq, wpC_blk]
  refine go1 rfl rfl (wpR_done ?_)
  rw [wpC_seq, wpC_blk]
  refine go1 (v := v) rfl (by simp) ?_
  refine goCall rfl (vs := [v]) (by simp) (known_call hm hk hv hr hlen ht) ?_
  rintro e w1 ⟨rfl, hm1⟩
  refine ⟨_, rfl, go1 rfl rfl (wpR_done ?_)⟩
  rw [wpC_seq, wpC_blk]
  refine go1 rfl rfl (wpR_done ?_)
  rw [wpC_seq, wpC_seq, wpC_blk]
  have hu1 := hu.keep hm1
  obtain ⟨ub, uc, eu⟩ := hu.shape
  refine go1 (v := uv) rfl (by simp) ?_
  refine go1 (v := uv) rfl (by simp) ?_
  refine go1 (v := .int .i64 u.length) rfl (by simp [eu]) ?_
  refine go1 (v := .int .i64 ((min u.length 32767 : Nat) : Int)) rfl (by simp [min_nat]) ?_
  obtain ⟨tv, e1, h1⟩ := slice_head (x := .tmp 13) (y := .tmp 16) (sz := 2) (k := min u.length 32767)
    (σ := updo (updo (updo (updo (updo (updo (updo (updo (updo (args0 [v, uv]) (some 4) (.slice none 0 0)) (some 11) v) (some 12) (.int .u32 (knownP fs : Nat))) (some 5) (.int .u32 (knownP fs : Nat))) (some 6) (.slice none 0 0)) (some 13) uv) (some 14) uv) (some 15) (.int .i64 u.length)) (some 16) (.int .i64 ((min u.length 32767 : Nat) : Int)))
    (by simp) (by simp) hu1 (by omega)
  rw [flatten_take _ _ hur.two] at h1
  obtain ⟨tb, tc, etv⟩ := h1.shape
  refine go1 (v := tv) rfl e1 ?_
  refine go1 (v := .int .i64 ((min u.length 32767 : Nat) : Int)) rfl (by simp [etv]) ?_
  refine go1 rfl rfl (wpR_done ?_)
  have hN : w.heap.size ≤ w1.heap.size := hm1.size
  have hlo : RepU (fun b => b < w1.heap.size) w1 (u.take (min u.length 32767)) (uss.take (min u.length 32767)) := ((hur.keep hm1).lowN).take _
  have eu2 : u.take (min u.length 32767) = u.take 32767 := by
    by_cases hl : u.length ≤ 32767
    · rw [Nat.min_eq_left hl, List.take_of_length_le (Nat.le_refl _), List.take_of_length_le hl]
    · rw [Nat.min_eq_right (by omega)]
  refine rangeLoop (n := min u.length 32767) (fun j σ w' => σ 17 = tv ∧ σ 19 = .int .i64 (j : Nat) ∧ σ 18 = .int .i64 ((min u.length 32767 : Nat) : Int) ∧ σ 5 = .int .u32 (knownP fs : Nat) ∧ ∃ ucs, UQ w1 w' (σ 6) (((u.take 32767).take j).foldl (unkStep (knownP fs)) []) ucs)
    (by omega) (by omega) (fun j σ w h => ⟨h.2.1, h.2.2.1⟩) ?_ ?_ ?_
  · refine ⟨by simp, by simp, by simp, by simp, [], ⟨⟨by simp, .inl ⟨by simp, rfl⟩⟩, by simp; exact .nil, Mod.refl _ _⟩⟩
  · rintro j σ w2 hj ⟨h17, h19, h18, h5, ucs, hq⟩
    have hjl : j < (u.take 32767).length := by rw [← eu2]; simp; omega
    obtain ⟨t, ht'⟩ : ∃ t, (u.take 32767)[j]? = some t := ⟨_, List.getElem?_eq_getElem hjl⟩
    obtain ⟨sv, hcs, hsv⟩ := hlo.nth (t := t) (by rw [eu2]; exact ht')
    obtain ⟨a, c, ea, hjn, hcell⟩ := h1.flat (by have := hur.length; simp; omega) (fun c hc => hur.two c (List.mem_of_mem_take hc)) hcs
    rw [etv] at ea
    simp only [Value.slice.injEq, true_and] at ea
    obtain ⟨ea, ec⟩ := ea
    subst ea
    have hcell2 := cellsAt_below hq.mod.below _ _ _ hcell
    have hsv2 : SlC (fun b => b < w1.heap.size) w2 sv t.2.length (u8s t.2) := hsv.mod hq.mod (by simp) fun _ _ h => h
    have hol : (((u.take 32767).take j).foldl (unkStep (knownP fs)) []).length < 2147483647 := by
      have := unk_length (knownP fs) ((u.take 32767).take j) []
      simp at this; omega
    refine unk_body (w0 := w1) (least := knownP fs) (k := t.1) (b := t.2) (n := min u.length 32767) (lv := σ 6) (a := a) (c := tc) (by simp [h5]) (by simp) (by simp [h17, etv]) (by simp [h19]) hj hq hcell2 hsv2 hol fun σ' w' lv' ucs' hfr e6 hq' => ?_
    have key : σ' 19 = .int .i64 (j : Nat) ∧ (upd (upd σ' 83 (.int .i64 ((j + 1 : Nat) : Int))) 19 (.int .i64 ((j + 1 : Nat) : Int))) 17 = tv ∧ (upd (upd σ' 83 (.int .i64 ((j + 1 : Nat) : Int))) 19 (.int .i64 ((j + 1 : Nat) : Int))) 19 = .int .i64 ((j + 1 : Nat) : Int) ∧
        (upd (upd σ' 83 (.int .i64 ((j + 1 : Nat) : Int))) 19 (.int .i64 ((j + 1 : Nat) : Int))) 18 = .int .i64 ((min u.length 32767 : Nat) : Int) ∧ (upd (upd σ' 83 (.int .i64 ((j + 1 : Nat) : Int))) 19 (.int .i64 ((j + 1 : Nat) : Int))) 5 = .int .u32 (knownP fs : Nat) ∧
        ∃ ucs, UQ w1 w' ((upd (upd σ' 83 (.int .i64 ((j + 1 : Nat) : Int))) 19 (.int .i64 ((j + 1 : Nat) : Int))) 6) (((u.take 32767).take (j + 1)).foldl (unkStep (knownP fs)) []) ucs := by
      have g : ∀ s, s < 23 → s ≠ 6 → s ≠ 8 → s ≠ 9 → s ≠ 10 → s ≠ 21 → s ≠ 22 → s ≠ 20 → σ' s = σ s := fun s s1 s2 s3 s4 s5 s6 s7 s8 => by
        rw [hfr s s1 s2 s3 s4 s5 s6 s7]; simp [upd, s8]
      refine ⟨by rw [g 19 (by omega) (by omega) (by omega) (by omega) (by omega) (by omega) (by omega) (by omega)]; exact h19, ?_, by simp, ?_, ?_, ucs', ?_⟩
      · simp only [upd]; rw [if_neg (by omega), if_neg (by omega), g 17 (by omega) (by omega) (by omega) (by omega) (by omega) (by omega) (by omega) (by omega)]; exact h17
      · simp only [upd]; rw [if_neg (by omega), if_neg (by omega), g 18 (by omega) (by omega) (by omega) (by omega) (by omega) (by omega) (by omega) (by omega)]; exact h18
      · simp only [upd]; rw [if_neg (by omega), if_neg (by omega), g 5 (by omega) (by omega) (by omega) (by omega) (by omega) (by omega) (by omega) (by omega)]; exact h5
      · rw [take_succ_of ht', List.foldl_append]
        simp only [upd, List.foldl_cons, List.foldl_nil]
        rw [if_neg (by omega), if_neg (by omega), e6]
        exact hq'
    exact ⟨by simp only [rngP, if_true]; exact key, by simp only [rngP]; exact key⟩
  · rintro σ w2 ⟨h17, h19, h18, h5, ucs, hq⟩
    have e : (u.take 32767).take (min u.length 32767) = u.take 32767 := List.take_of_length_le (by simp; omega)
    rw [e] at hq
    simp only [thenC]
    rw [wpC_seq, wpC_blk]
    refine go1 (v := σ 6) rfl (by simp) ?_
    refine go1 (v := σ 6) rfl (by simp) (wpR_done (ret1 (v := σ 6) (by simp) ⟨_, ucs, rfl, ?_, hq.rep.any, hm1.trans hq.mod⟩))
    have := hq.raw.slcN.any
    rw [hq.rep.length.symm] at this
    exact this
end
end Go.Msk
