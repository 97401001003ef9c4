/- A small language of resolved operations, and what the generic and the generated functions do in it (part 9). -/
import Derived.Test.YtfoljfjkifiboaaFh

namespace Go.Msk
open Go.RowKit
set_option maxRecDepth 100000
def behCode (newp setv rf ap : FuncId) : IC × List RV × Nat :=
  (.seq (.blk [⟨some 6, .mv (.const (.slice none 0 0)), none⟩, ⟨some 7, .mv (.const (.bool false)), none⟩])
    (.seq (.blk [⟨some 9, .call newp [], none⟩, ⟨some 8, .mv (.tmp 9), none⟩])
    (.seq (.blk [⟨some 10, .mv (.tmp 8), none⟩, ⟨some 11, .mv (.tmp 0), none⟩, ⟨some 12, .conv .i16 (.tmp 11), none⟩, ⟨some 13, .call setv [.tmp 10, .tmp 12], none⟩])
    (.seq (.seq (.blk [⟨some 14, .mv (.tmp 8), none⟩, ⟨some 15, .mv (.tmp 2), none⟩, ⟨some 16, .append (.const (.slice none 0 0)) (.tmp 15) 1 1, none⟩, ⟨some 17, .call rf [.tmp 14, .tmp 16], none⟩, ⟨some 18, .isnil .ic true (.tmp 17), none⟩])
      (.cond (.tmp 18) (.seq (.blk [⟨some 6, .mv (.const (.slice none 0 0)), none⟩, ⟨some 7, .mv (.const (.bool false)), none⟩]) .ret) .skip))
    (.seq (.blk [⟨some 19, .mv (.tmp 8), none⟩, ⟨some 20, .mv (.tmp 1), none⟩, ⟨some 21, .append (.const (.slice none 0 0)) (.tmp 20) 1 1, none⟩, ⟨some 22, .call ap [.tmp 19, .tmp 21], none⟩, ⟨some 6, .mv (.tmp 22), none⟩, ⟨some 7, .mv (.const (.bool true)), none⟩])
    .ret)))), [.tmp 6, .tmp 7], 23)
section
variable {P : Program}
attribute [local simp] gOk updo upd ev RK.val? isShift intBin Addr.add_mk args0 Value.cells undef
end
end Go.Msk

namespace Go.Msk
open Go.RowKit
set_option maxRecDepth 100000
section
variable {P : Program} {F : Nat → Nat}
attribute [local simp] gOk updo upd ev RK.val? isShift intBin Addr.add_mk args0 Value.cells undef
theorem width_call (hm : P.follows .mixedOrders = true) (h : liftF P (F sWidth) = some (ir_sWidth F)) {w : World} {k : Int} :
    Calls P (F sWidth) [.int .i64 k].toArray w fun e w' => e = .returned (.int .i64 (widthP k)) ∧ w' = w := by
  unfold ir_sWidth at h
  refine call_of h hm (by simp) ?_
  clear h
  by_cases h1 : k = 1
  · simp [wpC, wpR, RI.wp, RK.run, thenC, inBlockC, postC, rvals, RV.val, h1, tup_one, widthP]
  · by_cases h2 : k = 2
    · simp [wpC, wpR, RI.wp, RK.run, thenC, inBlockC, postC, rvals, RV.val, h2, tup_one, widthP]
    · by_cases h5 : k = 5
      · simp [wpC, wpR, RI.wp, RK.run, thenC, inBlockC, postC, rvals, RV.val, h5, tup_one, widthP]
      · by_cases h3 : k = 3
        · simp [wpC, wpR, RI.wp, RK.run, thenC, inBlockC, postC, rvals, RV.val, h3, tup_one, widthP]
        · simp [wpC, wpR, RI.wp, RK.run, thenC, inBlockC, postC, rvals, RV.val, beq_eq_false_iff_ne.2 h1, beq_eq_false_iff_ne.2 h2, beq_eq_false_iff_ne.2 h3, beq_eq_false_iff_ne.2 h5, h1, h2, h3, h5, tup_one, widthP]
theorem app1 {x y : Operand} {d1 d2 : Nat} {w w0 : World} {σ : Sl} {v : Value} {l : List UInt8} {b : UInt8} {r : List RI} {Q : Sl → World → Prop} (_hx : ev (upd σ d1 v) x = ev σ x) (_hv : ev σ x = v) (hd : DRaw w w0.heap.size v l) (hm : Mod [] w0 w) (hy : ev σ y = .int .u8 b.toNat)
    (hx2 : ∀ u, ev (upd σ d1 u) x = v) (hl : l.length + 1 ≤ lim) (hQ : ∀ u w' v', DRaw w' w0.heap.size v' (l ++ [b]) → Mod [] w0 w' → wpR P r (upd (upd σ d1 u) d2 v') w' Q) :
    wpR P (⟨some d1, .bslice 1 [.int .u8 0] [(0, 1, y)], none⟩ :: ⟨some d2, .append x (.tmp d1) 1 1, none⟩ :: r) σ w Q := by
  refine goC rfl ?_
  refine bsliceB_run (bs := [b]) (by simp only [List.map_cons, List.map_nil, hy]; rfl) rfl fun u w1 hs hm1 => ?_
  refine goC rfl ?_
  refine append_run (n0 := w0.heap.size) (v := v) (hx2 u) (hd.keep hm1) (hm.trans hm1).size (k := [b]) (by simpa using hs) (by simpa using hl) fun v' w2 ha => ?_
  exact hQ u w2 v' ha.raw (ha.mod0 (hd.keep hm1) (hm.trans hm1))
theorem fixed_call (hm : P.follows .mixedOrders = true) (h : liftF P (F sFixed) = some (ir_sFixed F)) {w : World} {n : Int} {k : Nat} (hk : k ≤ 8) :
    Calls P (F sFixed) [.int .i64 n, .int .i64 (k : Nat)].toArray w (BytesR w (beI k n)) := by
  unfold ir_sFixed at h
  refine call_of h hm (by simp) ?_
  clear h
  rw [wpC_seq, wpC_blk]
  refine go1 rfl rfl (wpR_done ?_)
  rw [wpC_seq, wpC_blk]
  refine go1 rfl rfl (wpR_done ?_)
  rw [wpC_seq, wpC_seq, wpC_blk]
  iterate 3 (apply go1 rfl; (· simp <;> rfl))
  refine wpR_done ?_
  rw [wpC_block, wpC_loop]
  refine ⟨fun σ w' => ∃ (m : Nat) (pre : List UInt8), m ≤ k ∧ beI k n = pre ++ beI m n ∧ σ 0 = .int .i64 n ∧ σ 6 = .int .i64 ((m : Int) - 1) ∧ DRaw w' w.heap.size (σ 5) pre ∧ Mod [] w w',
    fun σ _ => match σ 6 with | .int _ j => (j + 1).toNat | _ => 0, ?_, ?_⟩
  · refine ⟨k, [], Nat.le_refl _, rfl, by simp, ?_, by simpa using DRaw.nil w _, Mod.refl _ _⟩
    simp only [updo, upd, if_true]
    congr 1
    simp only [IntKind.wrap, IntKind.bits, IntKind.signed]; simp <;> omega
  · rintro σ w1 ⟨m, pre, hmk, hpre, h0, h6, hd, hm1⟩
    have hlen : pre.length + m = k := by
      have := congrArg List.length hpre
      simp only [beI_length, List.length_append] at this; omega
    rw [wpC_seq, wpC_seq, wpC_blk]
    refine go1 (v := .int .i64 ((m : Int) - 1)) rfl (by simp [h6]) ?_
    refine go1 (v := .bool (decide ((m : Int) - 1 ≥ 0))) rfl (by simp) ?_
    refine wpR_done ?_
    cases m with
    | zero =>
      rw [wpC_cond_f (by simp)]
      refine wpC_exit_out3 ?_
      simp only [thenC]
      rw [wpC_seq, wpC_blk]
      refine go1 (v := σ 5) rfl (by simp) ?_
      refine go1 (v := σ 5) rfl (by simp) ?_
      refine wpR_done (ret1 (v := σ 5) (by simp) ⟨_, rfl, ?_, hm1⟩)
      rw [hpre]; simpa [beI] using hd
    | succ m =>
      rw [wpC_cond_t (by simp), wpC_skip]
      simp only [thenC]
      rw [wpC_seq, wpC_block, wpC_blk]
      refine go1 (v := σ 5) rfl (by simp) ?_
      refine go1 (v := .int .i64 n) rfl (by simp [h0]) ?_
      refine go1 (v := .int .i64 (m : Nat)) rfl (by simp [h6]) ?_
      refine go1 (v := .int .i64 ((8 * m : Nat) : Int)) rfl (by
        simp only [RK.val?, ev, updo, upd, isShift, decide_true, Bool.or_true, if_true, intBin]
        rw [show (8 : Int) * (m : Nat) = ((8 * m : Nat) : Int) by omega, i64_nat (by omega)]) ?_
      refine go1 (v := .int .i64 (n / 256 ^ m)) rfl (by
        simp only [RK.val?, ev, updo, upd, isShift, Bool.true_or, if_true, if_false, show (14 : Nat) ≠ 16 by decide, show (14 : Nat) ≠ 15 by decide]
        rw [shr_i64 n (8 * m) (by omega), pow_256]) ?_
      refine go1 (v := .int .u8 ((UInt8.ofNat (n / 256 ^ m % 256).toNat).toNat : Int)) rfl (by
        simp only [RK.val?, ev, updo, upd, if_true]
        rw [u8vz]) ?_
      refine app1 (v := σ 5) (w0 := w) (b := UInt8.ofNat (n / 256 ^ m % 256).toNat) (by simp) (by simp) hd hm1 (by simp) (by simp) (by unfold lim; omega) fun u w2 v' hd2 hm2 => ?_
      refine go1 (v := v') rfl (by simp) ?_
      refine goEnd ?_
      simp only [thenC, inBlockC]
      rw [wpC_blk]
      refine go1 (v := .int .i64 (m : Nat)) rfl (by simp [h6]) ?_
      refine go1 (v := .int .i64 ((m : Int) - 1)) rfl (by
        simp only [RK.val?, ev, updo, upd, isShift, decide_true, Bool.or_true, if_true, intBin]
        congr 2
        simp only [IntKind.wrap, IntKind.bits, IntKind.signed]; simp <;> omega) ?_
      refine go1 (v := .int .i64 ((m : Int) - 1)) rfl (by simp) ?_
      refine wpR_done ⟨⟨m, pre ++ [UInt8.ofNat (n / 256 ^ m % 256).toNat], by omega, ?_, by simp [h0], by simp, by simpa using hd2, hm2⟩, ?_⟩
      · rw [hpre, beI]; simp
      · simp [h6]
theorem uvarint_call (hm : P.follows .mixedOrders = true) (h : liftF P (F sUvarint) = some (ir_sUvarint F)) {w : World} {n : Nat} (hn : n < 18446744073709551616) :
    Calls P (F sUvarint) [.int .u64 (n : Nat)].toArray w (BytesR w (uvE n)) := by
  unfold ir_sUvarint at h
  refine call_of h hm (by simp) ?_
  clear h
  rw [wpC_seq, wpC_blk]
  refine go1 rfl rfl (wpR_done ?_)
  rw [wpC_seq, wpC_blk]
  refine go1 rfl rfl (wpR_done ?_)
  rw [wpC_seq, wpC_block, wpC_loop]
  refine ⟨fun σ w' => ∃ (m : Nat) (pre : List UInt8), m ≤ n ∧ uvE n = pre ++ uvE m ∧ pre.length ≤ n - m ∧ pre.length + m ≤ n ∧ pre.length ≤ 64 ∧ m * 2 ^ pre.length ≤ n ∧ σ 0 = .int .u64 (m : Nat) ∧ DRaw w' w.heap.size (σ 3) pre ∧ Mod [] w w',
    fun σ _ => match σ 0 with | .int _ j => j.toNat | _ => 0, ?_, ?_⟩
  · exact ⟨n, [], Nat.le_refl _, rfl, by simp, by simp, by simp, by simp, by simp, by simpa using DRaw.nil w _, Mod.refl _ _⟩
  · rintro σ w1 ⟨m, pre, hmn, hpre, hl1, hl2, hl64, hpow, h0, hd, hm1⟩
    rw [wpC_seq, wpC_seq, wpC_blk]
    refine go1 (v := .int .u64 (m : Nat)) rfl (by simp [h0]) ?_
    refine go1 (v := .bool (decide ((m : Int) > 127))) rfl (by simp) ?_
    refine wpR_done ?_
    by_cases hs : m < 128
    · rw [wpC_cond_f (by simp; omega)]
      refine wpC_exit_out3 ?_
      simp only [thenC]
      rw [wpC_seq, wpC_blk]
      refine go1 (v := σ 3) rfl (by simp) ?_
      refine go1 (v := .int .u64 (m : Nat)) rfl (by simp [h0]) ?_
      refine go1 (v := .int .u8 ((UInt8.ofNat m).toNat : Int)) rfl (by
        simp only [RK.val?, ev, updo, upd, if_true]
        rw [u8_conv (by omega)]) ?_
      refine app1 (v := σ 3) (w0 := w) (b := UInt8.ofNat m) (by simp) (by simp) hd hm1 (by simp) (by simp) (by unfold lim; omega) fun u w2 v' hd2 hm2 => ?_
      refine go1 (v := v') rfl (by simp) ?_
      refine wpR_done (ret1 (v := v') (by simp) ⟨_, rfl, ?_, hm2⟩)
      rw [hpre, uvE_small hs]; exact hd2
    · rw [wpC_cond_t (by simp; omega), wpC_skip]
      simp only [thenC]
      rw [wpC_block, wpC_seq, wpC_blk]
      have h256 : m % 128 + 128 < 256 := by omega
      refine go1 (v := σ 3) rfl (by simp) ?_
      refine go1 (v := .int .u64 (m : Nat)) rfl (by simp [h0]) ?_
      refine go1 (v := .int .u64 ((m % 128 : Nat) : Int)) rfl (by simp only [RK.val?, ev, updo, upd, if_true, isShift, decide_true, Bool.or_true, and127_u64 (n := m) (by omega)]) ?_
      refine go1 (v := .int .u8 ((m % 128 : Nat) : Int)) rfl (by
        simp only [RK.val?, ev, updo, upd, if_true]
        rw [u8_conv (by omega)]
        simp; omega) ?_
      refine go1 (v := .int .u8 ((m % 128 + 128 : Nat) : Int)) rfl (by simp only [RK.val?, ev, updo, upd, if_true, isShift, decide_true, Bool.or_true, or128_u8 (x := m % 128) (by omega)]) ?_
      have e8 : Value.int .u8 ((m % 128 + 128 : Nat) : Int) = .int .u8 ((UInt8.ofNat (m % 128 + 128)).toNat : Int) := by simp; omega
      rw [e8]
      have hp64 : pre.length < 64 := by
        rcases Nat.lt_or_ge pre.length 64 with h | h
        · exact h
        · have : pre.length = 64 := by omega
          rw [this] at hpow
          have : 128 * 2 ^ 64 ≤ m * 2 ^ 64 := Nat.mul_le_mul_right _ (by omega)
          omega
      refine app1 (v := σ 3) (w0 := w) (b := UInt8.ofNat (m % 128 + 128)) (by simp) (by simp) hd hm1 (by simp) (by simp) (by unfold lim; omega) fun u w2 v' hd2 hm2 => ?_
      refine go1 (v := v') rfl (by simp) ?_
      refine wpR_done ?_
      rw [wpC_blk]
      refine go1 (v := .int .u64 (m : Nat)) rfl (by simp [h0]) ?_
      refine go1 (v := .int .u64 ((m / 128 : Nat) : Int)) rfl (by
        simp only [RK.val?, ev, updo, upd, if_true, isShift, Bool.true_or]
        have := shr_u64 m 7 (by omega)
        simpa using this) ?_
      refine go1 (v := .int .u64 ((m / 128 : Nat) : Int)) rfl (by simp) ?_
      refine goEnd ?_
      simp only [inBlockC, thenC]
      refine ⟨⟨m / 128, pre ++ [UInt8.ofNat (m % 128 + 128)], by omega, ?_, ?_, ?_, ?_, ?_, by simp, by simpa using hd2, hm2⟩, ?_⟩
      · rw [hpre, uvE_big (by omega)]; simp
      · simp; omega
      · simp; omega
      · simp; omega
      · simp only [List.length_append, List.length_cons, List.length_nil, Nat.zero_add, Nat.pow_succ]
        have : m / 128 * (2 ^ pre.length * 2) ≤ m * 2 ^ pre.length := by
          rw [Nat.mul_comm (2 ^ pre.length) 2, ← Nat.mul_assoc]
          exact Nat.mul_le_mul_right _ (by omega)
        omega
      · simp [h0]; omega
theorem counted_call (hm : P.follows .mixedOrders = true) (h : liftF P (F sCounted) = some (ir_sCounted F)) (hu : liftF P (F sUvarint) = some (ir_sUvarint F)) (hf : liftF P (F sFixed) = some (ir_sFixed F)) {w : World} {flex null : Bool} {n size : Nat} (hn : n < 9223372036854775807) (hs : size ≤ 8) :
    Calls P (F sCounted) [.bool flex, .bool null, .int .i64 (n : Nat), .int .i64 (size : Nat)].toArray w (BytesR w (countedP flex null n size)) := by
  unfold ir_sCounted at h
  refine call_of h hm (by simp) ?_
  clear h
  rw [wpC_seq, wpC_blk]
  refine go1 rfl rfl (wpR_done ?_)
  rw [wpC_seq, wpC_block, wpC_seq, wpC_blk]
  cases flex with
  | true =>
    cases null with
    | true =>
      iterate 5 (first | (apply go1; (· simp); (· simp <;> rfl)) | (apply go0; (· simp)))
      refine wpR_done ?_
      rw [wpC_cond_t (by simp), wpC_seq, wpC_blk]
      refine goC rfl ?_
      simp only [RK.run]
      rw [show fillL (zrep 1 [.int .u8 0]) _ = some (u8s [0]) from rfl]
      intro T
      have hb := Blk.new w (u8s [0]) T
      refine go1 rfl rfl (wpR_done ?_)
      repeat first | refine retThen ?_ | refine retBlk ?_
      refine ret1 (v := .slice (some ⟨w.heap.size, 0, none⟩) 1 1) (by simp) ⟨_, rfl, ?_, Mod.alloc _ _ _⟩
      exact ⟨.inr ⟨w.heap.size, 1, [], rfl, Nat.le_refl _, Nat.le_refl _, by simpa [countedP] using hb, rfl⟩⟩
    | false =>
      iterate 5 (first | (apply go1; (· simp); (· simp <;> rfl)) | (apply go0; (· simp)))
      refine wpR_done ?_
      rw [wpC_cond_f (by simp), wpC_seq, wpC_blk]
      iterate 2 (first | (apply go1; (· simp); (· simp <;> rfl)) | (apply go0; (· simp)))
      refine wpR_done ?_
      rw [wpC_cond_t (by simp), wpC_seq, wpC_blk]
      refine go1 (v := .int .i64 (n : Nat)) rfl (by simp) ?_
      refine go1 (v := .int .u64 (n : Nat)) rfl (by simp [u64_natS (n := n) (by omega)]) ?_
      refine go1 (v := .int .u64 ((n + 1 : Nat) : Int)) rfl (by
        simp only [RK.val?, ev, updo, upd, if_true, isShift, decide_true, Bool.or_true, intBin]
        rw [show (n : Int) + 1 = ((n + 1 : Nat) : Int) by omega, u64_natS (by omega)]) ?_
      refine goCall rfl (vs := [.int .u64 ((n + 1 : Nat) : Int)]) (by simp) (uvarint_call hm hu (by omega)) ?_
      rintro e w' ⟨v, rfl, h1, h2⟩
      refine ⟨v, rfl, go1 (v := v) rfl (by simp) (wpR_done ?_)⟩
      repeat first | refine retThen ?_ | refine retBlk ?_
      exact ret1 (v := v) (by simp) ⟨v, rfl, h1, h2⟩
  | false =>
    iterate 5 (first | (apply go1; (· simp); (· simp <;> rfl)) | (apply go0; (· simp)))
    refine wpR_done ?_
    rw [wpC_cond_f (by simp), wpC_seq, wpC_blk]
    iterate 2 (first | (apply go1; (· simp); (· simp <;> rfl)) | (apply go0; (· simp)))
    refine wpR_done ?_
    rw [wpC_cond_f (by simp), wpC_seq, wpC_blk]
    iterate 2 (first | (apply go1; (· simp); (· simp <;> rfl)) | (apply go0; (· simp)))
    refine wpR_done ?_
    cases null with
    | true =>
      rw [wpC_cond_t (by simp), wpC_seq, wpC_blk]
      refine go1 (v := .int .i64 (size : Nat)) rfl (by simp) ?_
      refine goCall rfl (vs := [.int .i64 (-1), .int .i64 (size : Nat)]) (by simp) (fixed_call hm hf hs) ?_
      rintro e w' ⟨v, rfl, h1, h2⟩
      refine ⟨v, rfl, go1 (v := v) rfl (by simp) (wpR_done ?_)⟩
      repeat first | refine retThen ?_ | refine retBlk ?_
      exact ret1 (v := v) (by simp) ⟨v, rfl, h1, h2⟩
    | false =>
      rw [wpC_cond_f (by simp), wpC_skip]
      simp only [thenC, inBlockC]
      rw [wpC_seq, wpC_blk]
      refine go1 (v := .int .i64 (n : Nat)) rfl (by simp) ?_
      refine go1 (v := .int .i64 (size : Nat)) rfl (by simp) ?_
      refine goCall rfl (vs := [.int .i64 (n : Nat), .int .i64 (size : Nat)]) (by simp) (fixed_call hm hf hs) ?_
      rintro e w' ⟨v, rfl, h1, h2⟩
      refine ⟨v, rfl, go1 (v := v) rfl (by simp) (wpR_done ?_)⟩
      exact ret1 (v := v) (by simp) ⟨v, rfl, h1, h2⟩
end
end Go.Msk

namespace Go.Msk
open Go.RowKit
set_option maxRecDepth 100000
def ir_sKnown_1 (_F : Nat → Nat) : IC := (.seq (.blk [⟨some 10, .iad (.tmp 6) (.tmp 8) 8, none⟩,
 ⟨some 11, .ldn (.tmp 10) 8, none⟩,
 ⟨some 5, .alloc [.int .i64 0, .int .i64 0, .int .i64 0, .int .i64 0, .int .i64 0, .int .i64 0, .int .i64 0, .slice none 0 0], none⟩,
 ⟨none, .st (.tmp 5) 8 (.tmp 11), none⟩])
 (.seq (.blk [⟨some 12, .fad (.tmp 5) 4, none⟩,
 ⟨some 13, .ld (.tmp 12), none⟩,
 ⟨some 14, .bin .geq (.tmp 13) (.const (.int .i64 0)), none⟩])
 (.cond (.tmp 14)
 (.blk [⟨some 15, .mv (.tmp 3), none⟩,
 ⟨some 16, .fad (.tmp 5) 4, none⟩,
 ⟨some 17, .ld (.tmp 16), none⟩,
 ⟨some 18, .conv .u32 (.tmp 17), none⟩,
 ⟨some 19, .bin .add (.tmp 18) (.const (.int .u32 1)), none⟩,
 ⟨some 20, .mm true (.tmp 15) (.tmp 19), none⟩,
 ⟨some 3, .mv (.tmp 20), none⟩])
 (.skip))))
def ir_sKnown (F : Nat → Nat) : IC × List RV × Nat := (.seq (.blk [⟨some 2, .mv (.const (.int .u32 0)), none⟩])
 (.seq (.blk [⟨some 3, .mv (.const (.int .u32 0)), none⟩])
 (.seq (.seq (.blk [⟨some 6, .mv (.tmp 0), none⟩,
 ⟨some 7, .len (.tmp 6), none⟩,
 ⟨some 8, .mv (.const (.int .i64 0)), none⟩])
 (.block 0 (.loop (.seq (.blk [⟨some 9, .bin .lss (.tmp 8) (.tmp 7), none⟩])
 (.seq (.cond (.tmp 9)
 (.skip)
 (.exit 0))
 (.seq (.block 1 (ir_sKnown_1 F))
 (.blk [⟨some 21, .bin .add (.tmp 8) (.const (.int .i64 1)), none⟩,
 ⟨some 8, .mv (.tmp 21), none⟩])))))))
 (.seq (.blk [⟨some 22, .mv (.tmp 3), none⟩,
 ⟨some 2, .mv (.tmp 22), none⟩])
 (.ret)))),
 [.tmp 2], 23)
def ir_sUnknown_1 (_F : Nat → Nat) : IC := (.drw [⟨⟨some 23, .mv (.tmp 9), none⟩, false, []⟩,
 ⟨⟨some 24, .mv (.tmp 6), none⟩, false, []⟩,
 ⟨⟨some 25, .len (.tmp 24), none⟩, false, []⟩,
 ⟨⟨some 26, .bin .lss (.tmp 23) (.tmp 25), none⟩, false, []⟩,
 ⟨⟨some 27, .mv (.tmp 26), none⟩, false, []⟩,
 ⟨⟨some 28, .mv (.tmp 6), some (27, true)⟩, false, []⟩,
 ⟨⟨some 29, .mv (.tmp 9), some (27, true)⟩, false, []⟩,
 ⟨⟨some 30, .iad (.tmp 28) (.tmp 29) 2, some (27, true)⟩, false, []⟩,
 ⟨⟨some 31, .fad (.tmp 30) 0, some (27, true)⟩, false, []⟩,
 ⟨⟨some 32, .ld (.tmp 31), some (27, true)⟩, false, []⟩,
 ⟨⟨some 33, .fad (.tmp 8) 0, some (27, true)⟩, false, []⟩,
 ⟨⟨some 34, .ld (.tmp 33), some (27, true)⟩, false, []⟩,
 ⟨⟨some 35, .bin .lss (.tmp 32) (.tmp 34), some (27, true)⟩, false, []⟩,
 ⟨⟨some 36, .pick (.tmp 27) (.tmp 35) (.const (.bool false)), none⟩, false, []⟩]
 [])
def ir_sUnknown_2 (_F : Nat → Nat) : IC := (.drw [⟨⟨some 39, .fad (.tmp 8) 0, none⟩, false, []⟩,
 ⟨⟨some 40, .ld (.tmp 39), none⟩, false, []⟩,
 ⟨⟨some 41, .mv (.tmp 5), none⟩, false, []⟩,
 ⟨⟨some 42, .bin .lss (.tmp 40) (.tmp 41), none⟩, false, []⟩,
 ⟨⟨some 43, .mv (.tmp 42), none⟩, false, []⟩,
 ⟨⟨some 44, .mv (.tmp 9), some (43, false)⟩, false, []⟩,
 ⟨⟨some 45, .mv (.tmp 6), some (43, false)⟩, false, []⟩,
 ⟨⟨some 46, .len (.tmp 45), some (43, false)⟩, false, []⟩,
 ⟨⟨some 47, .bin .lss (.tmp 44) (.tmp 46), some (43, false)⟩, false, []⟩,
 ⟨⟨some 48, .mv (.tmp 47), some (43, false)⟩, false, []⟩,
 ⟨⟨some 49, .mv (.tmp 6), some (48, true)⟩, false, []⟩,
 ⟨⟨some 50, .mv (.tmp 9), some (48, true)⟩, false, []⟩,
 ⟨⟨some 51, .iad (.tmp 49) (.tmp 50) 2, some (48, true)⟩, false, []⟩,
 ⟨⟨some 52, .fad (.tmp 51) 0, some (48, true)⟩, false, []⟩,
 ⟨⟨some 53, .ld (.tmp 52), some (48, true)⟩, false, []⟩,
 ⟨⟨some 54, .fad (.tmp 8) 0, some (48, true)⟩, false, []⟩,
 ⟨⟨some 55, .ld (.tmp 54), some (48, true)⟩, false, []⟩,
 ⟨⟨some 56, .bin .eql (.tmp 53) (.tmp 55), some (48, true)⟩, false, []⟩,
 ⟨⟨some 57, .pick (.tmp 48) (.tmp 56) (.const (.bool false)), some (43, false)⟩, false, []⟩,
 ⟨⟨some 58, .pick (.tmp 43) (.const (.bool true)) (.tmp 57), none⟩, false, []⟩]
 [])
def ir_sUnknown_3 (_F : Nat → Nat) : IC := (.seq (.blk [⟨some 63, .mv (.tmp 6), none⟩,
 ⟨some 64, .len (.tmp 63), none⟩,
 ⟨some 65, .bin .sub (.tmp 64) (.const (.int .i64 1)), none⟩,
 ⟨some 10, .mv (.tmp 65), none⟩])
 (.block 4 (.loop (.seq (.seq (.blk [⟨some 66, .mv (.tmp 10), none⟩,
 ⟨some 67, .mv (.tmp 9), none⟩,
 ⟨some 68, .bin .gtr (.tmp 66) (.tmp 67), none⟩])
 (.cond (.tmp 68)
 (.skip)
 (.exit 4)))
 (.seq (.block 5 (.blk [⟨some 71, .mv (.tmp 6), none⟩,
 ⟨some 72, .mv (.tmp 10), none⟩,
 ⟨some 73, .mv (.tmp 6), none⟩,
 ⟨some 74, .mv (.tmp 10), none⟩,
 ⟨some 75, .bin .sub (.tmp 74) (.const (.int .i64 1)), none⟩,
 ⟨some 76, .iad (.tmp 73) (.tmp 75) 2, none⟩,
 ⟨some 77, .ldn (.tmp 76) 2, none⟩,
 ⟨some 78, .iad (.tmp 71) (.tmp 72) 2, none⟩,
 ⟨none, .st (.tmp 78) 2 (.tmp 77), none⟩]))
 (.blk [⟨some 69, .mv (.tmp 10), none⟩,
 ⟨some 70, .bin .sub (.tmp 69) (.const (.int .i64 1)), none⟩,
 ⟨some 10, .mv (.tmp 70), none⟩]))))))
def ir_sUnknown_4 (F : Nat → Nat) : IC := (.seq (.blk [⟨some 21, .iad (.tmp 17) (.tmp 19) 2, none⟩,
 ⟨some 22, .ldn (.tmp 21) 2, none⟩,
 ⟨some 8, .alloc [.int .u32 0, .slice none 0 0], none⟩,
 ⟨none, .st (.tmp 8) 2 (.tmp 22), none⟩])
 (.seq (.blk [⟨some 9, .mv (.const (.int .i64 0)), none⟩])
 (.seq (.block 2 (.loop (.seq (.seq (ir_sUnknown_1 F)
 (.cond (.tmp 36)
 (.skip)
 (.exit 2)))
 (.block 3 (.blk [⟨some 37, .mv (.tmp 9), none⟩,
 ⟨some 38, .bin .add (.tmp 37) (.const (.int .i64 1)), none⟩,
 ⟨some 9, .mv (.tmp 38), none⟩])))))
 (.seq (.seq (ir_sUnknown_2 F)
 (.cond (.tmp 58)
 (.exit 1)
 (.skip)))
 (.seq (.blk [⟨some 59, .mv (.tmp 6), none⟩,
 ⟨some 60, .build [.int .u32 0, .slice none 0 0] [], none⟩,
 ⟨some 61, .bslice 1 [.int .u32 0, .slice none 0 0] [(0, 2, .tmp 60)], none⟩,
 ⟨some 62, .append (.tmp 59) (.tmp 61) 2 32, none⟩,
 ⟨some 6, .mv (.tmp 62), none⟩])
 (.seq (ir_sUnknown_3 F)
 (.blk [⟨some 79, .mv (.tmp 6), none⟩,
 ⟨some 80, .mv (.tmp 9), none⟩,
 ⟨some 81, .ldn (.tmp 8) 2, none⟩,
 ⟨some 82, .iad (.tmp 79) (.tmp 80) 2, none⟩,
 ⟨none, .st (.tmp 82) 2 (.tmp 81), none⟩])))))))
def ir_sUnknown (F : Nat → Nat) : IC × List RV × Nat := (.seq (.blk [⟨some 4, .mv (.const (.slice none 0 0)), none⟩])
 (.seq (.blk [⟨some 11, .mv (.tmp 0), none⟩,
 ⟨some 12, .call (F sKnown) [.tmp 11], none⟩,
 ⟨some 5, .mv (.tmp 12), none⟩])
 (.seq (.blk [⟨some 6, .mv (.const (.slice none 0 0)), none⟩])
 (.seq (.seq (.blk [⟨some 13, .mv (.tmp 1), none⟩,
 ⟨some 14, .mv (.tmp 1), none⟩,
 ⟨some 15, .len (.tmp 14), none⟩,
 ⟨some 16, .mm false (.tmp 15) (.const (.int .i64 32767)), none⟩,
 ⟨some 17, .slice (.tmp 13) none (some (.tmp 16)) none 2, none⟩,
 ⟨some 18, .len (.tmp 17), none⟩,
 ⟨some 19, .mv (.const (.int .i64 0)), none⟩])
 (.block 0 (.loop (.seq (.blk [⟨some 20, .bin .lss (.tmp 19) (.tmp 18), none⟩])
 (.seq (.cond (.tmp 20)
 (.skip)
 (.exit 0))
 (.seq (.block 1 (ir_sUnknown_4 F))
 (.blk [⟨some 83, .bin .add (.tmp 19) (.const (.int .i64 1)), none⟩,
 ⟨some 19, .mv (.tmp 83), none⟩])))))))
 (.seq (.blk [⟨some 84, .mv (.tmp 6), none⟩,
 ⟨some 4, .mv (.tmp 84), none⟩])
 (.ret))))),
 [.tmp 4], 85)
def ir_susual__1 (_F : Nat → Nat) : IC := (.seq (.blk [⟨some 26, .mv (.tmp 24), none⟩,
 ⟨some 27, .iad (.tmp 22) (.tmp 24) 1, none⟩,
 ⟨some 28, .ld (.tmp 27), none⟩,
 ⟨some 5, .mv (.tmp 26), none⟩,
 ⟨some 6, .mv (.tmp 28), none⟩])
 (.seq (.blk [⟨some 29, .mv (.tmp 5), none⟩,
 ⟨some 30, .bin .lss (.tmp 29) (.const (.int .i64 16)), none⟩,
 ⟨some 31, .mv (.tmp 30), none⟩,
 ⟨some 32, .mv (.tmp 6), some (31, true)⟩,
 ⟨some 33, .bin .neq (.tmp 32) (.const (.int .u8 0)), some (31, true)⟩,
 ⟨some 34, .pick (.tmp 31) (.tmp 33) (.const (.bool false)), none⟩])
 (.cond (.tmp 34)
 (.seq (.blk [⟨some 4, .mv (.const (.bool false)), none⟩])
 (.ret))
 (.skip))))
def ir_susual__2 (F : Nat → Nat) : IC := (.seq (.blk [⟨some 61, .mv (.tmp 59), none⟩,
 ⟨some 62, .iad (.tmp 57) (.tmp 59) 8, none⟩,
 ⟨some 63, .ldn (.tmp 62) 8, none⟩,
 ⟨some 8, .alloc [.int .i64 0, .int .i64 0, .int .i64 0, .int .i64 0, .int .i64 0, .int .i64 0, .int .i64 0, .slice none 0 0], none⟩,
 ⟨some 7, .mv (.tmp 61), none⟩,
 ⟨none, .st (.tmp 8) 8 (.tmp 63), none⟩])
 (.seq (.drw [⟨⟨some 64, .ldn (.tmp 8) 8, none⟩, false, []⟩,
 ⟨⟨some 65, .ldn (.tmp 3) 5, none⟩, false, []⟩,
 ⟨⟨some 66, .mv (.tmp 7), none⟩, false, []⟩,
 ⟨⟨some 67, .call (F sAt) [.tmp 65, .tmp 66], none⟩, true, []⟩,
 ⟨⟨some 68, .call (F susual_) [.tmp 64, .tmp 67], none⟩, true, [3]⟩,
 ⟨⟨some 69, .lnot (.tmp 68), none⟩, false, [3, 4]⟩]
 [])
 (.cond (.tmp 69)
 (.seq (.blk [⟨some 4, .mv (.const (.bool false)), none⟩])
 (.ret))
 (.skip))))
def ir_susual__3 (F : Nat → Nat) : IC := (.seq (.seq (.blk [⟨some 56, .fad (.tmp 2) 7, none⟩,
 ⟨some 57, .ld (.tmp 56), none⟩,
 ⟨some 58, .len (.tmp 57), none⟩,
 ⟨some 59, .mv (.const (.int .i64 0)), none⟩])
 (.block 3 (.loop (.seq (.blk [⟨some 60, .bin .lss (.tmp 59) (.tmp 58), none⟩])
 (.seq (.cond (.tmp 60)
 (.skip)
 (.exit 3))
 (.seq (.block 4 (ir_susual__2 F))
 (.blk [⟨some 70, .bin .add (.tmp 59) (.const (.int .i64 1)), none⟩,
 ⟨some 59, .mv (.tmp 70), none⟩])))))))
 (.seq (.blk [⟨some 71, .fad (.tmp 2) 7, none⟩,
 ⟨some 72, .ld (.tmp 71), none⟩,
 ⟨some 73, .fad (.tmp 3) 4, none⟩,
 ⟨some 74, .ld (.tmp 73), none⟩,
 ⟨some 75, .call (F sUnknown) [.tmp 72, .tmp 74], none⟩,
 ⟨some 76, .len (.tmp 75), none⟩,
 ⟨some 77, .bin .eql (.tmp 76) (.const (.int .i64 0)), none⟩,
 ⟨some 4, .mv (.tmp 77), none⟩])
 (.ret)))
def ir_susual__4 (F : Nat → Nat) : IC := (.seq (.seq (.blk [⟨some 37, .bin .eql (.tmp 10) (.const (.int .i64 8)), none⟩,
 ⟨some 36, .mv (.tmp 37), none⟩])
 (.cond (.tmp 36)
 (.skip)
 (.blk [⟨some 38, .bin .eql (.tmp 10) (.const (.int .i64 9)), none⟩,
 ⟨some 36, .mv (.tmp 38), none⟩])))
 (.cond (.tmp 36)
 (.seq (.seq (.blk [⟨some 39, .fad (.tmp 2) 3, none⟩,
 ⟨some 40, .ld (.tmp 39), none⟩,
 ⟨some 41, .bin .geq (.tmp 40) (.const (.int .i64 0)), none⟩])
 (.cond (.tmp 41)
 (.seq (.blk [⟨some 42, .fad (.tmp 3) 2, none⟩,
 ⟨some 43, .ld (.tmp 42), none⟩,
 ⟨some 4, .mv (.tmp 43), none⟩])
 (.ret))
 (.skip)))
 (.seq (.blk [⟨some 44, .fad (.tmp 3) 1, none⟩,
 ⟨some 45, .ld (.tmp 44), none⟩,
 ⟨some 46, .len (.tmp 45), none⟩,
 ⟨some 47, .bin .eql (.tmp 46) (.const (.int .i64 0)), none⟩,
 ⟨some 4, .mv (.tmp 47), none⟩])
 (.ret)))
 (.seq (.blk [⟨some 49, .bin .eql (.tmp 10) (.const (.int .i64 11)), none⟩,
 ⟨some 48, .mv (.tmp 49), none⟩])
 (.cond (.tmp 48)
 (.seq (.blk [⟨some 50, .fad (.tmp 3) 3, none⟩,
 ⟨some 51, .ld (.tmp 50), none⟩,
 ⟨some 52, .len (.tmp 51), none⟩,
 ⟨some 53, .bin .eql (.tmp 52) (.const (.int .i64 0)), none⟩,
 ⟨some 4, .mv (.tmp 53), none⟩])
 (.ret))
 (.seq (.blk [⟨some 55, .bin .eql (.tmp 10) (.const (.int .i64 10)), none⟩,
 ⟨some 54, .mv (.tmp 55), none⟩])
 (.cond (.tmp 54)
 (ir_susual__3 F)
 (.skip)))))))
def ir_susual__5 (F : Nat → Nat) : IC := (.seq (.blk [⟨some 12, .bin .eql (.tmp 10) (.const (.int .i64 0)), none⟩,
 ⟨some 11, .mv (.tmp 12), none⟩])
 (.cond (.tmp 11)
 (.seq (.blk [⟨some 13, .fad (.tmp 3) 0, none⟩,
 ⟨some 14, .ld (.tmp 13), none⟩,
 ⟨some 15, .bin .and (.tmp 14) (.const (.int .i64 1)), none⟩,
 ⟨some 16, .fad (.tmp 2) 5, none⟩,
 ⟨some 17, .ld (.tmp 16), none⟩,
 ⟨some 18, .bin .eql (.tmp 15) (.tmp 17), none⟩,
 ⟨some 4, .mv (.tmp 18), none⟩])
 (.ret))
 (.seq (.blk [⟨some 20, .bin .eql (.tmp 10) (.const (.int .i64 7)), none⟩,
 ⟨some 19, .mv (.tmp 20), none⟩])
 (.cond (.tmp 19)
 (.seq (.seq (.blk [⟨some 21, .fad (.tmp 3) 1, none⟩,
 ⟨some 22, .ld (.tmp 21), none⟩,
 ⟨some 23, .len (.tmp 22), none⟩,
 ⟨some 24, .mv (.const (.int .i64 0)), none⟩])
 (.block 1 (.loop (.seq (.blk [⟨some 25, .bin .lss (.tmp 24) (.tmp 23), none⟩])
 (.seq (.cond (.tmp 25)
 (.skip)
 (.exit 1))
 (.seq (.block 2 (ir_susual__1 F))
 (.blk [⟨some 35, .bin .add (.tmp 24) (.const (.int .i64 1)), none⟩,
 ⟨some 24, .mv (.tmp 35), none⟩])))))))
 (.seq (.blk [⟨some 4, .mv (.const (.bool true)), none⟩])
 (.ret)))
 (ir_susual__4 F)))))
def ir_susual__6 (F : Nat → Nat) : IC := (.drw [⟨⟨some 78, .fad (.tmp 3) 0, none⟩, false, []⟩,
 ⟨⟨some 79, .ld (.tmp 78), none⟩, false, []⟩,
 ⟨⟨some 80, .fad (.tmp 2) 0, none⟩, false, []⟩,
 ⟨⟨some 81, .ld (.tmp 80), none⟩, false, []⟩,
 ⟨⟨some 82, .call (F sWidth) [.tmp 81], none⟩, true, []⟩,
 ⟨⟨some 83, .call (F sFixed) [.tmp 79, .tmp 82], none⟩, true, [4]⟩,
 ⟨⟨some 84, .fad (.tmp 2) 5, none⟩, false, []⟩,
 ⟨⟨some 85, .ld (.tmp 84), none⟩, false, []⟩,
 ⟨⟨some 86, .fad (.tmp 2) 0, none⟩, false, []⟩,
 ⟨⟨some 87, .ld (.tmp 86), none⟩, false, []⟩,
 ⟨⟨some 88, .call (F sWidth) [.tmp 87], none⟩, true, [4, 5]⟩,
 ⟨⟨some 89, .call (F sFixed) [.tmp 85, .tmp 88], none⟩, true, [4, 5, 10]⟩,
 ⟨⟨some 90, .call (F sSame) [.tmp 83, .tmp 89], none⟩, true, [4, 5, 10, 11]⟩,
 ⟨⟨some 4, .mv (.tmp 90), none⟩, false, [4, 5, 10, 11, 12]⟩]
 [])
def ir_susual_ (F : Nat → Nat) : IC × List RV × Nat := (.seq (.blk [⟨some 2, .box (.tmp 0), none⟩,
 ⟨some 3, .box (.tmp 1), none⟩,
 ⟨some 4, .mv (.const (.bool false)), none⟩])
 (.seq (.seq (.blk [⟨some 9, .fad (.tmp 2) 0, none⟩,
 ⟨some 10, .ld (.tmp 9), none⟩])
 (.block 0 (ir_susual__5 F)))
 (.seq (ir_susual__6 F)
 (.ret))),
 [.tmp 4], 91)
def ir_sField_1 (F : Nat → Nat) : IC := (.seq (.blk [⟨some 33, .mv (.tmp 31), none⟩,
 ⟨some 12, .mv (.tmp 33), none⟩])
 (.drw [⟨⟨some 34, .mv (.tmp 11), none⟩, false, []⟩,
 ⟨⟨some 35, .fad (.tmp 4) 6, none⟩, false, []⟩,
 ⟨⟨some 36, .ld (.tmp 35), none⟩, false, []⟩,
 ⟨⟨some 37, .fad (.tmp 4) 7, none⟩, false, []⟩,
 ⟨⟨some 38, .ld (.tmp 37), none⟩, false, []⟩,
 ⟨⟨some 39, .mv (.tmp 1), none⟩, false, []⟩,
 ⟨⟨some 40, .mv (.tmp 2), none⟩, false, []⟩,
 ⟨⟨some 41, .mv (.tmp 10), none⟩, false, []⟩,
 ⟨⟨some 42, .mv (.tmp 12), none⟩, false, []⟩,
 ⟨⟨some 43, .iad (.tmp 41) (.tmp 42) 5, none⟩, false, []⟩,
 ⟨⟨some 44, .ldn (.tmp 43) 5, none⟩, false, []⟩,
 ⟨⟨some 45, .call (F sValue) [.tmp 36, .tmp 38, .const (.bool false), .tmp 39, .tmp 40, .tmp 44], none⟩, true, []⟩]
 [⟨some 46, .append (.tmp 34) (.tmp 45) 1 1, none⟩,
 ⟨some 11, .mv (.tmp 46), none⟩]))
def ir_sField_2 (F : Nat → Nat) : IC := (.seq (.blk [⟨some 20, .fad (.tmp 7) 3, none⟩,
 ⟨some 21, .ld (.tmp 20), none⟩,
 ⟨some 22, .call (F sThings) [.tmp 21], none⟩,
 ⟨some 10, .mv (.tmp 22), none⟩])
 (.seq (.seq (.blk [⟨some 23, .mv (.tmp 9), none⟩])
 (.cond (.tmp 23)
 (.blk [⟨some 10, .mv (.const (.slice none 0 0)), none⟩])
 (.skip)))
 (.seq (.blk [⟨some 24, .mv (.tmp 2), none⟩,
 ⟨some 25, .mv (.tmp 9), none⟩,
 ⟨some 26, .mv (.tmp 10), none⟩,
 ⟨some 27, .len (.tmp 26), none⟩,
 ⟨some 28, .call (F sCounted) [.tmp 24, .tmp 25, .tmp 27, .const (.int .i64 4)], none⟩,
 ⟨some 11, .mv (.tmp 28), none⟩])
 (.seq (.seq (.blk [⟨some 29, .mv (.tmp 10), none⟩,
 ⟨some 30, .len (.tmp 29), none⟩,
 ⟨some 31, .mv (.const (.int .i64 0)), none⟩])
 (.block 0 (.loop (.seq (.blk [⟨some 32, .bin .lss (.tmp 31) (.tmp 30), none⟩])
 (.seq (.cond (.tmp 32)
 (.skip)
 (.exit 0))
 (.seq (.block 1 (ir_sField_1 F))
 (.blk [⟨some 47, .bin .add (.tmp 31) (.const (.int .i64 1)), none⟩,
 ⟨some 31, .mv (.tmp 47), none⟩])))))))
 (.seq (.blk [⟨some 48, .mv (.tmp 11), none⟩,
 ⟨some 8, .mv (.tmp 48), none⟩])
 (.ret))))))
def ir_sField_3 (F : Nat → Nat) : IC := (.seq (.seq (.blk [⟨some 57, .mv (.tmp 9), none⟩])
 (.cond (.tmp 57)
 (.seq (.blk [⟨some 58, .call (F sFixed) [.const (.int .i64 (-1)), .const (.int .i64 1)], none⟩,
 ⟨some 8, .mv (.tmp 58), none⟩])
 (.ret))
 (.skip)))
 (.seq (.drw [⟨⟨some 59, .call (F sFixed) [.const (.int .i64 1), .const (.int .i64 1)], none⟩, true, []⟩,
 ⟨⟨some 60, .fad (.tmp 4) 7, none⟩, false, []⟩,
 ⟨⟨some 61, .ld (.tmp 60), none⟩, false, []⟩,
 ⟨⟨some 62, .mv (.tmp 1), none⟩, false, []⟩,
 ⟨⟨some 63, .mv (.tmp 2), none⟩, false, []⟩,
 ⟨⟨some 64, .ldn (.tmp 7) 5, none⟩, false, []⟩,
 ⟨⟨some 65, .call (F sPart) [.tmp 61, .tmp 62, .tmp 63, .tmp 64], none⟩, true, [0]⟩]
 [⟨some 66, .append (.tmp 59) (.tmp 65) 1 1, none⟩,
 ⟨some 8, .mv (.tmp 66), none⟩])
 (.ret)))
def ir_sField (F : Nat → Nat) : IC × List RV × Nat := (.seq (.blk [⟨some 4, .box (.tmp 0), none⟩,
 ⟨some 7, .box (.tmp 3), none⟩,
 ⟨some 8, .mv (.const (.slice none 0 0)), none⟩])
 (.seq (.blk [⟨some 13, .ldn (.tmp 4) 8, none⟩,
 ⟨some 14, .mv (.tmp 1), none⟩,
 ⟨some 15, .ldn (.tmp 7) 5, none⟩,
 ⟨some 16, .call (F sNull) [.tmp 13, .tmp 14, .tmp 15], none⟩,
 ⟨some 9, .mv (.tmp 16), none⟩])
 (.seq (.seq (.blk [⟨some 17, .fad (.tmp 4) 0, none⟩,
 ⟨some 18, .ld (.tmp 17), none⟩,
 ⟨some 19, .bin .eql (.tmp 18) (.const (.int .i64 11)), none⟩])
 (.cond (.tmp 19)
 (ir_sField_2 F)
 (.skip)))
 (.seq (.seq (.blk [⟨some 49, .fad (.tmp 4) 0, none⟩,
 ⟨some 50, .ld (.tmp 49), none⟩,
 ⟨some 51, .bin .eql (.tmp 50) (.const (.int .i64 10)), none⟩,
 ⟨some 52, .mv (.tmp 51), none⟩,
 ⟨some 53, .fad (.tmp 4) 3, some (52, true)⟩,
 ⟨some 54, .ld (.tmp 53), some (52, true)⟩,
 ⟨some 55, .bin .geq (.tmp 54) (.const (.int .i64 0)), some (52, true)⟩,
 ⟨some 56, .pick (.tmp 52) (.tmp 55) (.const (.bool false)), none⟩])
 (.cond (.tmp 56)
 (ir_sField_3 F)
 (.skip)))
 (.seq (.blk [⟨some 67, .fad (.tmp 4) 0, none⟩,
 ⟨some 68, .ld (.tmp 67), none⟩,
 ⟨some 69, .fad (.tmp 4) 7, none⟩,
 ⟨some 70, .ld (.tmp 69), none⟩,
 ⟨some 71, .mv (.tmp 9), none⟩,
 ⟨some 72, .mv (.tmp 1), none⟩,
 ⟨some 73, .mv (.tmp 2), none⟩,
 ⟨some 74, .ldn (.tmp 7) 5, none⟩,
 ⟨some 75, .call (F sValue) [.tmp 68, .tmp 70, .tmp 71, .tmp 72, .tmp 73, .tmp 74], none⟩,
 ⟨some 8, .mv (.tmp 75), none⟩])
 (.ret))))),
 [.tmp 8], 76)
def ir_sPart_1 (F : Nat → Nat) : IC := (.seq (.blk [⟨some 25, .mv (.tmp 23), none⟩,
 ⟨some 26, .iad (.tmp 21) (.tmp 23) 8, none⟩,
 ⟨some 27, .ldn (.tmp 26) 8, none⟩,
 ⟨some 13, .alloc [.int .i64 0, .int .i64 0, .int .i64 0, .int .i64 0, .int .i64 0, .int .i64 0, .int .i64 0, .slice none 0 0], none⟩,
 ⟨some 12, .mv (.tmp 25), none⟩,
 ⟨none, .st (.tmp 13) 8 (.tmp 27), none⟩])
 (.seq (.blk [⟨some 28, .fad (.tmp 13) 4, none⟩,
 ⟨some 29, .ld (.tmp 28), none⟩,
 ⟨some 30, .bin .lss (.tmp 29) (.const (.int .i64 0)), none⟩,
 ⟨some 31, .mv (.tmp 30), none⟩,
 ⟨some 32, .ldn (.tmp 13) 8, some (31, true)⟩,
 ⟨some 33, .mv (.tmp 1), some (31, true)⟩,
 ⟨some 34, .call (F sHas) [.tmp 32, .tmp 33], some (31, true)⟩,
 ⟨some 35, .pick (.tmp 31) (.tmp 34) (.const (.bool false)), none⟩])
 (.cond (.tmp 35)
 (.drw [⟨⟨some 36, .mv (.tmp 9), none⟩, false, []⟩,
 ⟨⟨some 37, .ldn (.tmp 13) 8, none⟩, false, []⟩,
 ⟨⟨some 38, .mv (.tmp 1), none⟩, false, []⟩,
 ⟨⟨some 39, .mv (.tmp 2), none⟩, false, []⟩,
 ⟨⟨some 40, .ldn (.tmp 7) 5, none⟩, false, []⟩,
 ⟨⟨some 41, .mv (.tmp 12), none⟩, false, []⟩,
 ⟨⟨some 42, .call (F sAt) [.tmp 40, .tmp 41], none⟩, true, []⟩,
 ⟨⟨some 43, .call (F sField) [.tmp 37, .tmp 38, .tmp 39, .tmp 42], none⟩, true, [6]⟩]
 [⟨some 44, .append (.tmp 36) (.tmp 43) 1 1, none⟩,
 ⟨some 9, .mv (.tmp 44), none⟩])
 (.skip))))
def ir_sPart_2 (F : Nat → Nat) : IC := (.drw [⟨⟨some 62, .fad (.tmp 16) 4, none⟩, false, []⟩,
 ⟨⟨some 63, .ld (.tmp 62), none⟩, false, []⟩,
 ⟨⟨some 64, .mv (.tmp 14), none⟩, false, []⟩,
 ⟨⟨some 65, .bin .eql (.tmp 63) (.tmp 64), none⟩, false, []⟩,
 ⟨⟨some 66, .mv (.tmp 65), none⟩, false, []⟩,
 ⟨⟨some 67, .ldn (.tmp 16) 8, some (66, true)⟩, false, []⟩,
 ⟨⟨some 68, .ldn (.tmp 7) 5, some (66, true)⟩, false, []⟩,
 ⟨⟨some 69, .mv (.tmp 15), some (66, true)⟩, false, []⟩,
 ⟨⟨some 70, .call (F sAt) [.tmp 68, .tmp 69], some (66, true)⟩, true, []⟩,
 ⟨⟨some 71, .call (F susual_) [.tmp 67, .tmp 70], some (66, true)⟩, true, [8]⟩,
 ⟨⟨some 72, .lnot (.tmp 71), some (66, true)⟩, false, [8, 9]⟩,
 ⟨⟨some 73, .pick (.tmp 66) (.tmp 72) (.const (.bool false)), none⟩, false, [8, 9]⟩]
 [])
def ir_sPart_3 (F : Nat → Nat) : IC := (.seq (.drw [⟨⟨some 74, .ldn (.tmp 16) 8, none⟩, false, []⟩,
 ⟨⟨some 75, .mv (.tmp 1), none⟩, false, []⟩,
 ⟨⟨some 76, .mv (.tmp 2), none⟩, false, []⟩,
 ⟨⟨some 77, .ldn (.tmp 7) 5, none⟩, false, []⟩,
 ⟨⟨some 78, .mv (.tmp 15), none⟩, false, []⟩,
 ⟨⟨some 79, .call (F sAt) [.tmp 77, .tmp 78], none⟩, true, []⟩,
 ⟨⟨some 80, .call (F sField) [.tmp 74, .tmp 75, .tmp 76, .tmp 79], none⟩, true, [5]⟩,
 ⟨⟨some 17, .mv (.tmp 80), none⟩, false, [5, 6]⟩]
 [])
 (.seq (.blk [⟨some 81, .mv (.tmp 10), none⟩,
 ⟨some 82, .mv (.tmp 14), none⟩,
 ⟨some 83, .conv .u64 (.tmp 82), none⟩,
 ⟨some 84, .call (F sUvarint) [.tmp 83], none⟩,
 ⟨some 85, .append (.tmp 81) (.tmp 84) 1 1, none⟩,
 ⟨some 86, .mv (.tmp 17), none⟩,
 ⟨some 87, .len (.tmp 86), none⟩,
 ⟨some 88, .conv .u64 (.tmp 87), none⟩,
 ⟨some 89, .call (F sUvarint) [.tmp 88], none⟩,
 ⟨some 90, .append (.tmp 85) (.tmp 89) 1 1, none⟩,
 ⟨some 91, .mv (.tmp 17), none⟩,
 ⟨some 92, .append (.tmp 90) (.tmp 91) 1 1, none⟩,
 ⟨some 10, .mv (.tmp 92), none⟩])
 (.blk [⟨some 93, .mv (.tmp 11), none⟩,
 ⟨some 94, .bin .add (.tmp 93) (.const (.int .i64 1)), none⟩,
 ⟨some 11, .mv (.tmp 94), none⟩])))
def ir_sPart_4 (F : Nat → Nat) : IC := (.seq (.blk [⟨some 54, .mv (.tmp 52), none⟩,
 ⟨some 14, .mv (.tmp 54), none⟩])
 (.seq (.blk [⟨some 55, .mv (.tmp 0), none⟩,
 ⟨some 56, .len (.tmp 55), none⟩,
 ⟨some 57, .mv (.const (.int .i64 0)), none⟩])
 (.block 4 (.loop (.seq (.blk [⟨some 58, .bin .lss (.tmp 57) (.tmp 56), none⟩])
 (.seq (.cond (.tmp 58)
 (.skip)
 (.exit 4))
 (.seq (.block 5 (.seq (.blk [⟨some 59, .mv (.tmp 57), none⟩,
 ⟨some 60, .iad (.tmp 55) (.tmp 57) 8, none⟩,
 ⟨some 61, .ldn (.tmp 60) 8, none⟩,
 ⟨some 16, .alloc [.int .i64 0, .int .i64 0, .int .i64 0, .int .i64 0, .int .i64 0, .int .i64 0, .int .i64 0, .slice none 0 0], none⟩,
 ⟨some 15, .mv (.tmp 59), none⟩,
 ⟨none, .st (.tmp 16) 8 (.tmp 61), none⟩])
 (.seq (ir_sPart_2 F)
 (.cond (.tmp 73)
 (ir_sPart_3 F)
 (.skip)))))
 (.blk [⟨some 95, .bin .add (.tmp 57) (.const (.int .i64 1)), none⟩,
 ⟨some 57, .mv (.tmp 95), none⟩]))))))))
def ir_sPart_5 (F : Nat → Nat) : IC := (.seq (.blk [⟨some 104, .iad (.tmp 100) (.tmp 102) 2, none⟩,
 ⟨some 105, .ldn (.tmp 104) 2, none⟩,
 ⟨some 19, .alloc [.int .u32 0, .slice none 0 0], none⟩,
 ⟨none, .st (.tmp 19) 2 (.tmp 105), none⟩])
 (.seq (.blk [⟨some 106, .fad (.tmp 19) 1, none⟩,
 ⟨some 107, .ld (.tmp 106), none⟩,
 ⟨some 108, .call (F sWhole) [.tmp 107], none⟩,
 ⟨some 20, .mv (.tmp 108), none⟩])
 (.seq (.blk [⟨some 109, .mv (.tmp 10), none⟩,
 ⟨some 110, .fad (.tmp 19) 0, none⟩,
 ⟨some 111, .ld (.tmp 110), none⟩,
 ⟨some 112, .conv .u64 (.tmp 111), none⟩,
 ⟨some 113, .call (F sUvarint) [.tmp 112], none⟩,
 ⟨some 114, .append (.tmp 109) (.tmp 113) 1 1, none⟩,
 ⟨some 115, .mv (.tmp 20), none⟩,
 ⟨some 116, .len (.tmp 115), none⟩,
 ⟨some 117, .conv .u64 (.tmp 116), none⟩,
 ⟨some 118, .call (F sUvarint) [.tmp 117], none⟩,
 ⟨some 119, .append (.tmp 114) (.tmp 118) 1 1, none⟩,
 ⟨some 120, .mv (.tmp 20), none⟩,
 ⟨some 121, .append (.tmp 119) (.tmp 120) 1 1, none⟩,
 ⟨some 10, .mv (.tmp 121), none⟩])
 (.blk [⟨some 122, .mv (.tmp 11), none⟩,
 ⟨some 123, .bin .add (.tmp 122) (.const (.int .i64 1)), none⟩,
 ⟨some 11, .mv (.tmp 123), none⟩]))))
def ir_sPart (F : Nat → Nat) : IC × List RV × Nat := (.seq (.blk [⟨some 7, .box (.tmp 3), none⟩,
 ⟨some 8, .mv (.const (.slice none 0 0)), none⟩])
 (.seq (.blk [⟨some 9, .mv (.const (.slice none 0 0)), none⟩,
 ⟨some 10, .mv (.const (.slice none 0 0)), none⟩])
 (.seq (.blk [⟨some 11, .mv (.const (.int .i64 0)), none⟩])
 (.seq (.seq (.blk [⟨some 21, .mv (.tmp 0), none⟩,
 ⟨some 22, .len (.tmp 21), none⟩,
 ⟨some 23, .mv (.const (.int .i64 0)), none⟩])
 (.block 0 (.loop (.seq (.blk [⟨some 24, .bin .lss (.tmp 23) (.tmp 22), none⟩])
 (.seq (.cond (.tmp 24)
 (.skip)
 (.exit 0))
 (.seq (.block 1 (ir_sPart_1 F))
 (.blk [⟨some 45, .bin .add (.tmp 23) (.const (.int .i64 1)), none⟩,
 ⟨some 23, .mv (.tmp 45), none⟩])))))))
 (.seq (.seq (.blk [⟨some 46, .mv (.tmp 2), none⟩,
 ⟨some 47, .lnot (.tmp 46), none⟩])
 (.cond (.tmp 47)
 (.seq (.blk [⟨some 48, .mv (.tmp 9), none⟩,
 ⟨some 8, .mv (.tmp 48), none⟩])
 (.ret))
 (.skip)))
 (.seq (.seq (.blk [⟨some 49, .mv (.tmp 0), none⟩,
 ⟨some 50, .call (F sKnown) [.tmp 49], none⟩,
 ⟨some 51, .conv .i64 (.tmp 50), none⟩,
 ⟨some 52, .mv (.const (.int .i64 0)), none⟩])
 (.block 2 (.loop (.seq (.blk [⟨some 53, .bin .lss (.tmp 52) (.tmp 51), none⟩])
 (.seq (.cond (.tmp 53)
 (.skip)
 (.exit 2))
 (.seq (.block 3 (ir_sPart_4 F))
 (.blk [⟨some 96, .bin .add (.tmp 52) (.const (.int .i64 1)), none⟩,
 ⟨some 52, .mv (.tmp 96), none⟩])))))))
 (.seq (.seq (.blk [⟨some 97, .mv (.tmp 0), none⟩,
 ⟨some 98, .fad (.tmp 7) 4, none⟩,
 ⟨some 99, .ld (.tmp 98), none⟩,
 ⟨some 100, .call (F sUnknown) [.tmp 97, .tmp 99], none⟩,
 ⟨some 101, .len (.tmp 100), none⟩,
 ⟨some 102, .mv (.const (.int .i64 0)), none⟩])
 (.block 6 (.loop (.seq (.blk [⟨some 103, .bin .lss (.tmp 102) (.tmp 101), none⟩])
 (.seq (.cond (.tmp 103)
 (.skip)
 (.exit 6))
 (.seq (.block 7 (ir_sPart_5 F))
 (.blk [⟨some 124, .bin .add (.tmp 102) (.const (.int .i64 1)), none⟩,
 ⟨some 102, .mv (.tmp 124), none⟩])))))))
 (.seq (.blk [⟨some 125, .mv (.tmp 9), none⟩,
 ⟨some 126, .mv (.tmp 11), none⟩,
 ⟨some 127, .conv .u64 (.tmp 126), none⟩,
 ⟨some 128, .call (F sUvarint) [.tmp 127], none⟩,
 ⟨some 129, .append (.tmp 125) (.tmp 128) 1 1, none⟩,
 ⟨some 130, .mv (.tmp 10), none⟩,
 ⟨some 131, .append (.tmp 129) (.tmp 130) 1 1, none⟩,
 ⟨some 8, .mv (.tmp 131), none⟩])
 (.ret)))))))),
 [.tmp 8], 132)
def ir_sWrite (F : Nat → Nat) : IC × List RV × Nat := (.seq (.blk [⟨some 3, .box (.tmp 0), none⟩,
 ⟨some 5, .box (.tmp 2), none⟩,
 ⟨some 6, .mv (.const (.slice none 0 0)), none⟩])
 (.seq (.blk [⟨some 7, .fad (.tmp 3) 0, none⟩,
 ⟨some 8, .ld (.tmp 7), none⟩,
 ⟨some 9, .mv (.tmp 1), none⟩,
 ⟨some 10, .fad (.tmp 3) 1, none⟩,
 ⟨some 11, .ld (.tmp 10), none⟩,
 ⟨some 12, .bin .geq (.tmp 11) (.const (.int .i64 0)), none⟩,
 ⟨some 13, .mv (.tmp 12), none⟩,
 ⟨some 14, .mv (.tmp 1), some (13, true)⟩,
 ⟨some 15, .fad (.tmp 3) 1, some (13, true)⟩,
 ⟨some 16, .ld (.tmp 15), some (13, true)⟩,
 ⟨some 17, .bin .geq (.tmp 14) (.tmp 16), some (13, true)⟩,
 ⟨some 18, .pick (.tmp 13) (.tmp 17) (.const (.bool false)), none⟩,
 ⟨some 19, .ldn (.tmp 5) 5, none⟩,
 ⟨some 20, .call (F sPart) [.tmp 8, .tmp 9, .tmp 18, .tmp 19], none⟩,
 ⟨some 6, .mv (.tmp 20), none⟩])
 (.ret)),
 [.tmp 6], 21)
def ir_sKept (F : Nat → Nat) : IC × List RV × Nat := (.seq (.blk [⟨some 3, .box (.tmp 0), none⟩,
 ⟨some 5, .box (.tmp 2), none⟩,
 ⟨some 6, .mv (.const (.slice none 0 0)), none⟩])
 (.seq (.drw [⟨⟨some 7, .mv (.tmp 1), none⟩, false, []⟩,
 ⟨⟨some 8, .call (F sFixed) [.tmp 7, .const (.int .i64 2)], none⟩, true, []⟩,
 ⟨⟨some 9, .ldn (.tmp 3) 2, none⟩, false, []⟩,
 ⟨⟨some 10, .mv (.tmp 1), none⟩, false, []⟩,
 ⟨⟨some 11, .ldn (.tmp 5) 5, none⟩, false, []⟩,
 ⟨⟨some 12, .call (F sWrite) [.tmp 9, .tmp 10, .tmp 11], none⟩, true, [1]⟩]
 [⟨some 13, .append (.tmp 8) (.tmp 12) 1 1, none⟩,
 ⟨some 6, .mv (.tmp 13), none⟩])
 (.ret)),
 [.tmp 6], 14)
def ir_sValue_1 (F : Nat → Nat) : IC := (.seq (.blk [⟨some 34, .fad (.tmp 11) 1, none⟩,
 ⟨some 35, .ld (.tmp 34), none⟩,
 ⟨some 36, .call (F sWhole) [.tmp 35], none⟩,
 ⟨some 14, .mv (.tmp 36), none⟩])
 (.seq (.seq (.blk [⟨some 37, .mv (.tmp 2), none⟩])
 (.cond (.tmp 37)
 (.blk [⟨some 14, .mv (.const (.slice none 0 0)), none⟩])
 (.skip)))
 (.seq (.blk [⟨some 38, .mv (.tmp 4), none⟩,
 ⟨some 39, .mv (.tmp 2), none⟩,
 ⟨some 40, .mv (.tmp 14), none⟩,
 ⟨some 41, .len (.tmp 40), none⟩,
 ⟨some 42, .call (F sCounted) [.tmp 38, .tmp 39, .tmp 41, .const (.int .i64 2)], none⟩,
 ⟨some 43, .mv (.tmp 14), none⟩,
 ⟨some 44, .append (.tmp 42) (.tmp 43) 1 1, none⟩,
 ⟨some 12, .mv (.tmp 44), none⟩])
 (.ret))))
def ir_sValue_2 (F : Nat → Nat) : IC := (.seq (.blk [⟨some 47, .fad (.tmp 11) 1, none⟩,
 ⟨some 48, .ld (.tmp 47), none⟩,
 ⟨some 49, .call (F sWhole) [.tmp 48], none⟩,
 ⟨some 15, .mv (.tmp 49), none⟩])
 (.seq (.seq (.blk [⟨some 50, .mv (.tmp 2), none⟩])
 (.cond (.tmp 50)
 (.blk [⟨some 15, .mv (.const (.slice none 0 0)), none⟩])
 (.skip)))
 (.seq (.blk [⟨some 51, .mv (.tmp 4), none⟩,
 ⟨some 52, .mv (.tmp 2), none⟩,
 ⟨some 53, .mv (.tmp 15), none⟩,
 ⟨some 54, .len (.tmp 53), none⟩,
 ⟨some 55, .call (F sCounted) [.tmp 51, .tmp 52, .tmp 54, .const (.int .i64 4)], none⟩,
 ⟨some 56, .mv (.tmp 15), none⟩,
 ⟨some 57, .append (.tmp 55) (.tmp 56) 1 1, none⟩,
 ⟨some 12, .mv (.tmp 57), none⟩])
 (.ret))))
def ir_sValue_3 (F : Nat → Nat) : IC := (.seq (.blk [⟨some 33, .bin .eql (.tmp 16) (.const (.int .i64 8)), none⟩,
 ⟨some 32, .mv (.tmp 33), none⟩])
 (.cond (.tmp 32)
 (ir_sValue_1 F)
 (.seq (.blk [⟨some 46, .bin .eql (.tmp 16) (.const (.int .i64 9)), none⟩,
 ⟨some 45, .mv (.tmp 46), none⟩])
 (.cond (.tmp 45)
 (ir_sValue_2 F)
 (.seq (.blk [⟨some 59, .bin .eql (.tmp 16) (.const (.int .i64 10)), none⟩,
 ⟨some 58, .mv (.tmp 59), none⟩])
 (.cond (.tmp 58)
 (.seq (.blk [⟨some 60, .mv (.tmp 1), none⟩,
 ⟨some 61, .mv (.tmp 3), none⟩,
 ⟨some 62, .mv (.tmp 4), none⟩,
 ⟨some 63, .ldn (.tmp 11) 5, none⟩,
 ⟨some 64, .call (F sPart) [.tmp 60, .tmp 61, .tmp 62, .tmp 63], none⟩,
 ⟨some 12, .mv (.tmp 64), none⟩])
 (.ret))
 (.skip)))))))
def ir_sValue_4 (F : Nat → Nat) : IC := (.seq (.blk [⟨some 18, .bin .eql (.tmp 16) (.const (.int .i64 0)), none⟩,
 ⟨some 17, .mv (.tmp 18), none⟩])
 (.cond (.tmp 17)
 (.seq (.blk [⟨some 19, .fad (.tmp 11) 0, none⟩,
 ⟨some 20, .ld (.tmp 19), none⟩,
 ⟨some 21, .bin .and (.tmp 20) (.const (.int .i64 1)), none⟩,
 ⟨some 22, .conv .u8 (.tmp 21), none⟩,
 ⟨some 23, .bslice 1 [.int .u8 0] [(0, 1, .tmp 22)], none⟩,
 ⟨some 12, .mv (.tmp 23), none⟩])
 (.ret))
 (.seq (.blk [⟨some 25, .bin .eql (.tmp 16) (.const (.int .i64 7)), none⟩,
 ⟨some 24, .mv (.tmp 25), none⟩])
 (.cond (.tmp 24)
 (.seq (.blk [⟨some 26, .mkslice (.const (.int .i64 16)) (.const (.int .i64 16)) 1 [.int .u8 0], none⟩,
 ⟨some 13, .mv (.tmp 26), none⟩])
 (.seq (.blk [⟨some 27, .mv (.tmp 13), none⟩,
 ⟨some 28, .fad (.tmp 11) 1, none⟩,
 ⟨some 29, .ld (.tmp 28), none⟩,
 ⟨some 30, .copy (.tmp 27) (.tmp 29) 1, none⟩])
 (.seq (.blk [⟨some 31, .mv (.tmp 13), none⟩,
 ⟨some 12, .mv (.tmp 31), none⟩])
 (.ret))))
 (ir_sValue_3 F)))))
def ir_sValue (F : Nat → Nat) : IC × List RV × Nat := (.seq (.blk [⟨some 11, .box (.tmp 5), none⟩,
 ⟨some 12, .mv (.const (.slice none 0 0)), none⟩])
 (.seq (.seq (.blk [⟨some 16, .mv (.tmp 0), none⟩])
 (.block 0 (ir_sValue_4 F)))
 (.seq (.drw [⟨⟨some 65, .fad (.tmp 11) 0, none⟩, false, []⟩,
 ⟨⟨some 66, .ld (.tmp 65), none⟩, false, []⟩,
 ⟨⟨some 67, .mv (.tmp 0), none⟩, false, []⟩,
 ⟨⟨some 68, .call (F sWidth) [.tmp 67], none⟩, true, []⟩,
 ⟨⟨some 69, .call (F sFixed) [.tmp 66, .tmp 68], none⟩, true, [3]⟩,
 ⟨⟨some 12, .mv (.tmp 69), none⟩, false, [3, 4]⟩]
 [])
 (.ret))),
 [.tmp 12], 70)
end Go.Msk

namespace Go.Msk
open Go.RowKit
set_option maxRecDepth 100000
def knownP (fs : List FD) : Nat := fs.foldl (fun n f => if f.tag ≥ 0 then max n (f.tag.toNat + 1) else n) 0
def insU (k : Nat) (b : List UInt8) : List (Nat × List UInt8) → List (Nat × List UInt8)
  | [] => [(k, b)]
  | (k', b') :: r => if k' < k then (k', b') :: insU k b r else if k' = k then (k', b') :: r else (k, b) :: (k', b') :: r
def unkStep (least : Nat) (out : List (Nat × List UInt8)) (t : Nat × List UInt8) : List (Nat × List UInt8) := if t.1 < least then out else insU t.1 t.2 out
def unknownP (fs : List FD) (u : List (Nat × List UInt8)) : List (Nat × List UInt8) := (u.take 32767).foldl (unkStep (knownP fs)) []
def posU (k : Nat) : List (Nat × List UInt8) → Nat
  | [] => 0
  | (k', _) :: r => if k' < k then posU k r + 1 else 0
theorem posU_le (k : Nat) : ∀ l, posU k l ≤ l.length
  | [] => Nat.le_refl _
  | (k', b) :: r => by simp only [posU]; split <;> simp [posU_le k r]
theorem posU_lt {k : Nat} : ∀ {l : List (Nat × List UInt8)} {i : Nat}, i < posU k l → ∃ t, l[i]? = some t ∧ t.1 < k
  | [], i, h => by simp [posU] at h
  | (k', b) :: r, 0, h => by
    simp only [posU] at h
    split at h
    · rename_i hk; exact ⟨_, rfl, hk⟩
    · omega
  | (k', b) :: r, i + 1, h => by
    simp only [posU] at h
    split at h
    · simpa using posU_lt (l := r) (i := i) (by omega)
    · omega
theorem posU_ge {k : Nat} : ∀ {l : List (Nat × List UInt8)} {t : Nat × List UInt8}, l[posU k l]? = some t → ¬ t.1 < k
  | [], t, h => by simp [posU] at h
  | (k', b) :: r, t, h => by
    simp only [posU] at h
    split at h
    · simp only [List.getElem?_cons_succ] at h; exact posU_ge h
    · rename_i hk; simp only [List.getElem?_cons_zero, Option.some.injEq] at h; subst h; exact hk
theorem insU_pos (k : Nat) (b : List UInt8) : ∀ l, insU k b l = if (l[posU k l]?).map (·.1) = some k then l else l.take (posU k l) ++ (k, b) :: l.drop (posU k l)
  | [] => by simp [insU, posU]
  | (k', b') :: r => by
    simp only [insU, posU]
    by_cases h : k' < k
    · simp only [h, if_true, List.getElem?_cons_succ, List.take_succ_cons, List.drop_succ_cons, List.cons_append]
      rw [insU_pos k b r]
      split <;> rfl
    · simp only [h, if_false, List.getElem?_cons_zero, Option.map_some, Option.some.injEq, List.take_zero, List.drop_zero, List.nil_append]
theorem knownP_lt {fs : List FD} (h : ∀ f ∈ fs, f.tag < 2147483648) : knownP fs < 2147483649 := by
  have : ∀ (l : List FD) (n : Nat), n < 2147483649 → (∀ f ∈ l, f.tag < 2147483648) → l.foldl (fun n f => if f.tag ≥ 0 then max n (f.tag.toNat + 1) else n) n < 2147483649 := by
    intro l
    induction l with
    | nil => intro n h _; exact h
    | cons f l ih =>
      intro n hn hl
      simp only [List.foldl_cons]
      refine ih _ ?_ fun g hg => hl g (List.mem_cons_of_mem _ hg)
      have := hl f List.mem_cons_self
      split
      · omega
      · exact hn
  exact this fs 0 (by omega) h
theorem knownP_snoc (l : List FD) (f : FD) : knownP (l ++ [f]) = if f.tag ≥ 0 then max (knownP l) (f.tag.toNat + 1) else knownP l := by
  simp [knownP, List.foldl_append]
theorem take_succ_of {α : Type} {l : List α} {j : Nat} {x : α} (h : l[j]? = some x) : l.take (j + 1) = l.take j ++ [x] := by
  rw [List.take_add_one, h]; rfl
theorem flat_setAt {n : Nat} {css : List (List Value)} {rest es : List Value} {k : Nat} (h2 : ∀ c ∈ css, c.length = n) (he : es.length = n) (hk : k < css.length) : splice (css.flatten ++ rest) (k * n) es = (css.set k es).flatten ++ rest := by
  induction css generalizing k with
  | nil => simp at hk
  | cons c css ih =>
    have hc := h2 c List.mem_cons_self
    cases k with
    | zero =>
      simp only [Nat.zero_mul, List.set_cons_zero, List.flatten_cons, splice, List.take_zero, List.nil_append, Nat.zero_add, List.append_assoc]
      rw [he, ← hc, List.drop_left]
    | succ k =>
      have := ih (k := k) (fun x hx => h2 x (List.mem_cons_of_mem _ hx)) (by simpa using hk)
      simp only [List.set_cons_succ, List.flatten_cons, List.append_assoc] at this ⊢
      rw [← this]
      simp only [splice]
      have e : (k + 1) * n = c.length + k * n := by rw [hc, Nat.add_mul]; omega
      rw [e, List.take_length_add_append, Nat.add_assoc, List.drop_length_add_append, List.append_assoc]
section
variable {P : Program} {F : Nat → Nat}
attribute [local simp] gOk updo upd ev RK.val? isShift intBin Addr.add_mk args0 Value.cells undef
theorem known_call (hm : P.follows .mixedOrders = true) (h : liftF P (F sKnown) = some (ir_sKnown F)) {w : World} {v : Value} {fs : List FD} {css : List (List Value)} (hv : SlC anyB w v fs.length css.flatten) (hr : RepFL anyB w fs css) (hlen : fs.length < 2147483648) (ht : ∀ f ∈ fs, f.tag < 2147483648) :
    Calls P (F sKnown) [v].toArray w fun e w' => e = .returned (.int .u32 (knownP fs)) ∧ Mod [] w w' := by
  unfold ir_sKnown at h
  refine call_of h hm (by simp) ?_
  clear h
  obtain ⟨vb, vc, ev'⟩ := hv.shape
  rw [wpC_seq, wpC_blk]
  refine go1 rfl rfl (wpR_done ?_)
  rw [wpC_seq, wpC_blk]
  refine go1 rfl rfl (wpR_done ?_)
  rw [wpC_seq, wpC_seq, wpC_blk]
  iterate 3 (apply go1 rfl; (· simp [ev'] <;> rfl))
  refine wpR_done ?_
  refine rangeLoop (n := fs.length) (fun j σ w' => σ 6 = v ∧ σ 8 = .int .i64 (j : Nat) ∧ σ 7 = .int .i64 fs.length ∧ σ 3 = .int .u32 (knownP (fs.take j) : Nat) ∧ Mod [] w w') (by omega) (by omega) (fun j σ w h => ⟨h.2.1, h.2.2.1⟩) ?_ ?_ ?_
  · simp [knownP, ev', Mod.refl]
  · rintro j σ w1 hj ⟨h6, h8, h7, h3, hm1⟩
    obtain ⟨f, hf⟩ : ∃ f, fs[j]? = some f := ⟨fs[j], by simp [hj]⟩
    obtain ⟨cs, hcs, hrep⟩ := hr.nth hf
    obtain ⟨a, c, ea, hjn, hcell⟩ := hv.flat hr.length hr.eight hcs
    have htag := ht f (List.mem_of_getElem? hf)
    have hcell1 : cellsAt w1 (a.add (j * 8)) 0 8 = some cs := cellsAt_below hm1.below _ _ _ hcell
    unfold ir_sKnown_1
    rw [wpC_seq, wpC_blk]
    refine go1 (v := .pointer (some (a.add (j * 8)))) rfl (by simp [h6, ea, h8, hjn]) ?_
    refine go1 (v := .agg cs.toArray) rfl (by simp [hcell1]) ?_
    refine goAlloc fun w2 hb2 hm2 => ?_
    refine goSt (b := w1.heap.size) (v := .agg cs.toArray) (by simp) (by simp) hb2 (by simp [hrep.eight]) rfl (by simpa using hrep.oneCell) fun w3 hb3 hm3 => ?_
    have hm13 : Mod [] w1 w3 := Mod.drop (b := w1.heap.size) (S := []) (hm2.nil.trans hm3) (Nat.le_refl _)
    refine wpR_done ?_
    have c3 := fun k => hb3.cell k
    rw [wpC_seq, wpC_blk]
    cases hrep with
    | @mk kind frm to null tag dfl of sub sv css' h1 h2 =>
    iterate 3 (apply go1 rfl; (· simp [c3] <;> rfl))
    refine wpR_done ?_
    simp only [FD.tag] at htag
    by_cases e1 : tag ≥ 0
    · rw [wpC_cond_t (by simp [e1]), wpC_blk]
      refine go1 (v := .int .u32 (knownP (fs.take j) : Nat)) rfl (by simp [h3]) ?_
      iterate 2 (apply go1 rfl; (· simp [c3] <;> rfl))
      have hk := knownP_lt (fs := fs.take j) fun f hf => ht f (List.mem_of_mem_take hf)
      refine go1 (v := .int .u32 (tag.toNat : Nat)) rfl (by
        simp only [RK.val?, ev, updo, upd, if_true]
        rw [show tag = ((tag.toNat : Nat) : Int) by omega, u32_nat (by omega)]; simp) ?_
      refine go1 (v := .int .u32 ((tag.toNat + 1 : Nat) : Int)) rfl (by
        simp only [RK.val?, ev, updo, upd, if_true, isShift, decide_true, Bool.or_true, intBin]
        rw [show (tag.toNat : Int) + 1 = ((tag.toNat + 1 : Nat) : Int) by omega, u32_nat (by omega)]) ?_
      refine go1 (v := .int .u32 ((max (knownP (fs.take j)) (tag.toNat + 1) : Nat) : Int)) rfl (by
        simp only [RK.val?, ev, updo, upd, if_true]
        simp
        split <;> omega) ?_
      refine go1 rfl rfl (goEnd ?_)
      simp only [rngP]
      refine ⟨by simp [h8], by simp [h6], by simp, by simp [h7], ?_, hm1.trans hm13⟩
      rw [take_succ_of hf, knownP_snoc]
      simp [FD.tag, e1]
    · rw [wpC_cond_f (by simp; omega), wpC_skip]
      simp only [rngP]
      refine ⟨by simp [h8], by simp [h6], by simp, by simp [h7], ?_, hm1.trans hm13⟩
      rw [take_succ_of hf, knownP_snoc]
      simp [FD.tag, e1, h3]
  · rintro σ w1 ⟨h6, h8, h7, h3, hm1⟩
    simp only [thenC]
    rw [wpC_seq, wpC_blk]
    refine go1 rfl rfl (go1 rfl rfl (wpR_done (ret1 (v := .int .u32 (knownP fs)) (by simp [h3]) ⟨rfl, hm1⟩)))
end
end Go.Msk

namespace Go.Msk
open Go.RowKit
set_option maxRecDepth 100000
section
variable {P : Program} {F : Nat → Nat}
attribute [local simp] bnd wpC wpR RI.wp gOk RK.run thenC inBlockC updo upd ev args0 postC rvals RV.val tup_one isShift
theorem append_two {σ : Sl} {w : World} {x y : Operand} {lv : Value} {css : List (List Value)} {es : List Value} {n0 sb : Nat} {K : Value → World → Prop} (hx : ev σ x = lv) (hraw : LRaw2 w n0 lv css) (hn0 : n0 ≤ w.heap.size)
    (hy : ev σ y = .slice (some ⟨sb, 0, none⟩) 1 1) (hsb : Blk w sb es) (h5 : es.length = 2) (hone : ∀ v ∈ es, v.oneCell' = true) (hl : css.length ≤ 2147483647)
    (hK : ∀ lv' w', LRaw2 w' n0 lv' (css ++ [es]) → (((own lv' = own lv ∧ Mod (own lv).toList w w') ∧ ∃ BA c, lv = .slice (some ⟨BA, 0, none⟩) css.length c ∧ css.length + 1 ≤ c) ∨ (own lv' = some w.heap.size ∧ Mod [] w w')) → K lv' w') : (RK.append x y 2 32).run P σ w K := by
  have hsrc : srcCells w 2 (.slice (some ⟨sb, 0, none⟩) 1 1) = some (1, es) := by
    simp only [srcCells, cellsAt_of' hsb.cells (n := 1 * 2) (by omega), Option.map_some]
  simp only [RK.run, hx, hy]
  have h5' : ∀ cs ∈ css ++ [es], cs.length = 2 := fun cs hc => by
    rcases List.mem_append.1 hc with hc | hc
    · exact hraw.two cs hc
    · simp only [List.mem_singleton] at hc; subst hc; exact h5
  have hfl : css.flatten.length = css.length * 2 := flatten_length hraw.two
  rcases hraw.sl with ⟨rfl, rfl⟩ | ⟨BA, cap, rest, rfl, h2, h3, h4, hr⟩
  · simp only [hsrc, appendRun]
    rw [if_neg (by omega)]
    refine ⟨by omega, by omega, ?_⟩
    intro T cap rest hc hr
    refine hK _ _ ⟨h5', .inr ⟨w.heap.size, cap, rest, rfl, by simpa using hc, hn0, ?_, by simpa using hr⟩⟩ (.inr ⟨rfl, (Mod.drew _ _).trans (Mod.alloc _ _ _)⟩)
    have := Blk.new w.drew (es ++ rest) T
    simpa using this
  · simp only [hsrc, appendRun]
    by_cases hc : css.length + 1 ≤ cap
    · rw [if_pos hc]
      simp only [Addr.add_mk, Nat.zero_add]
      refine ⟨stOk_many h4 (by simp only [List.length_append]; omega) hone, hK _ _ ⟨h5', .inr ⟨BA, cap, rest.drop 2, by simp, by simpa using hc, h3, ?_, by simp; omega⟩⟩ (.inl ⟨⟨rfl, by simpa [own] using Mod.put (by simp)⟩, BA, cap, rfl, hc⟩)⟩
      have hput := h4.put (o := css.length * 2) (vs := es) (by simp only [List.length_append]; omega)
      have : splice (css.flatten ++ rest) (css.length * 2) es = (css ++ [es]).flatten ++ rest.drop 2 := by
        rw [splice_end hfl, h5, flat_snoc, List.append_assoc]
      rwa [this] at hput
    · rw [if_neg hc]
      refine ⟨by omega, by omega, ?_⟩
      have hco : cellsAt w ⟨BA, 0, none⟩ 0 (css.length * 2) = some css.flatten := by
        have := h4.cells.take css.flatten.length
        rw [List.take_left] at this
        exact cellsAt_of' this hfl
      simp only [hco]
      intro T cap' rest' hc' hr'
      refine hK _ _ ⟨h5', .inr ⟨w.heap.size, cap', rest', by simp, by simpa using hc', hn0, ?_, by simpa using hr'⟩⟩ (.inr ⟨rfl, (Mod.drew _ _).trans (Mod.alloc _ _ _)⟩)
      have := Blk.new w.drew (css.flatten ++ (es ++ rest')) T
      simpa using this
structure GU (w3 w : World) (Ob : Nat) (n : Int) (sv lv uv : Value) (null : Bool) (N : Nat) (us : List (Nat × List UInt8)) (ucs : List (List Value)) : Prop where
  ob : Blk w Ob [.int .i64 n, sv, .bool null, lv, uv]
  raw : LRaw2 w w3.heap.size uv ucs
  rep : RepU (fun b => b < N) w us ucs
  mod : Mod [Ob] w3 w
  lob : Ob < w3.heap.size
  nob : N ≤ Ob
theorem RepU.append {ok : Nat → Prop} {w : World} {l l' : List (Nat × List UInt8)} {css css' : List (List Value)} (h : RepU ok w l css) (h' : RepU ok w l' css') : RepU ok w (l ++ l') (css ++ css') := by
  induction h with
  | nil => exact h'
  | cons h1 _ ih => exact .cons h1 ih
theorem RepU.two {ok : Nat → Prop} {w : World} {l : List (Nat × List UInt8)} {css : List (List Value)} (h : RepU ok w l css) : ∀ c ∈ css, c.length = 2 := by
  induction h with
  | nil => simp
  | cons h1 _ ih =>
    intro c hc
    rcases List.mem_cons.1 hc with rfl | hc
    · rfl
    · exact ih c hc
theorem RepU.length {ok : Nat → Prop} {w : World} {l : List (Nat × List UInt8)} {css : List (List Value)} (h : RepU ok w l css) : l.length = css.length := by
  induction h with
  | nil => rfl
  | cons h1 _ ih => simp [ih]
theorem RepU.nth {ok : Nat → Prop} {w : World} {l : List (Nat × List UInt8)} {css : List (List Value)} (h : RepU ok w l css) {j : Nat} {t : Nat × List UInt8} (ht : l[j]? = some t) : ∃ v, css[j]? = some [.int .u32 t.1, v] ∧ SlC ok w v t.2.length (u8s t.2) := by
  induction h generalizing j with
  | nil => simp at ht
  | cons h1 _ ih =>
    cases j with
    | zero => simp only [List.getElem?_cons_zero, Option.some.injEq] at ht; subst ht; exact ⟨_, rfl, h1⟩
    | succ j => simp only [List.getElem?_cons_succ] at ht ⊢; exact ih ht
def uzero : List Value := [.int .u32 0, .slice none 0 0]
end
end Go.Msk

namespace Go.Msk
open Go.RowKit
set_option maxRecDepth 100000
section
variable {P : Program}
theorem LRaw2.mod {w w' : World} {n0 : Nat} {lv : Value} {css : List (List Value)} {S : List Nat} (h : LRaw2 w n0 lv css) (hm : Mod S w w') (hS : ∀ b, own lv = some b → b ∉ S) : LRaw2 w' n0 lv css :=
  ⟨h.two, h.sl.imp id fun ⟨BA, cap, rest, g1, g2, g3, g4, g5⟩ => ⟨BA, cap, rest, g1, g2, g3, g4.mod hm (hS _ (by rw [g1]; rfl)), g5⟩⟩
theorem LRaw2.own {w : World} {n0 : Nat} {lv : Value} {css : List (List Value)} (h : LRaw2 w n0 lv css) {b : Nat} (hb : own lv = some b) : n0 ≤ b ∧ b < w.heap.size := by
  rcases h.sl with ⟨rfl, -⟩ | ⟨BA, cap, rest, rfl, -, h3, h4, -⟩
  · simp [Msk.own] at hb
  · simp only [Msk.own, Option.some.injEq] at hb; subst hb; exact ⟨h3, h4.lt⟩
theorem LRaw2.slcN {w : World} {n0 : Nat} {lv : Value} {css : List (List Value)} (h : LRaw2 w n0 lv css) : SlC (fun b => n0 ≤ b) w lv css.length css.flatten := by
  rcases h.sl with ⟨rfl, rfl⟩ | ⟨BA, cap, rest, rfl, h2, h3, h4, -⟩
  · exact SlC.nil
  · refine ⟨_, cap, rfl, h2, fun h => by simp at h, fun a ha _ => ?_⟩
    simp only [Option.some.injEq] at ha; subst ha
    refine ⟨h3, h4.lt, ?_⟩
    have := h4.cells.take css.flatten.length
    simpa using this
end
end Go.Msk

namespace Go.Msk
open Go.RowKit
set_option maxRecDepth 100000
theorem RepU.take {ok : Nat → Prop} {w : World} : ∀ {l : List (Nat × List UInt8)} {css : List (List Value)} (_ : RepU ok w l css) (k : Nat), RepU ok w (l.take k) (css.take k)
  | _, _, .nil, k => by simp; exact .nil
  | _, _, .cons h1 h2, 0 => by simp; exact .nil
  | _, _, .cons h1 h2, k + 1 => by simp only [List.take_succ_cons]; exact .cons h1 (h2.take k)
theorem RepU.drop {ok : Nat → Prop} {w : World} : ∀ {l : List (Nat × List UInt8)} {css : List (List Value)} (_ : RepU ok w l css) (k : Nat), RepU ok w (l.drop k) (css.drop k)
  | _, _, .nil, k => by simp; exact .nil
  | _, _, .cons h1 h2, 0 => by simp only [List.drop_zero]; exact .cons h1 h2
  | _, _, .cons h1 h2, k + 1 => by simp only [List.drop_succ_cons]; exact h2.drop k
theorem SlC.lowN {w : World} {v : Value} {n : Nat} {cs : List Value} (h : SlC anyB w v n cs) : SlC (fun b => b < w.heap.size) w v n cs := h.mod (Mod.refl [] w) (by simp) fun _ hb _ => hb
theorem RepU.any {ok : Nat → Prop} {w : World} {l : List (Nat × List UInt8)} {cs : List (List Value)} (h : RepU ok w l cs) : RepU anyB w l cs := h.mod (Mod.refl [] w) (by simp) fun _ _ _ => trivial
theorem RepU.oneCell {ok : Nat → Prop} {w : World} {l : List (Nat × List UInt8)} {css : List (List Value)} (h : RepU ok w l css) : ∀ c ∈ css, ∀ v ∈ c, v.oneCell' = true := by
  induction h with
  | nil => intro c hc; simp at hc
  | cons h _ ih =>
    intro c hc v hv
    rcases List.mem_cons.1 hc with rfl | hc
    · simp only [List.mem_cons, List.not_mem_nil, or_false] at hv
      rcases hv with rfl | rfl
      · rfl
      · exact h.one
    · exact ih c hc v hv
theorem set_shift {α : Type} {l : List α} {m : Nat} {x y : α} (h : l[m]? = some y) : (l.take (m + 1) ++ x :: l.drop (m + 1)).set (m + 1) y = l.take m ++ y :: l.drop m := by
  have hl : m < l.length := (List.getElem?_eq_some_iff.1 h).1
  have e1 : (l.take (m + 1)).length = m + 1 := by simp; omega
  have : l.take (m + 1) = l.take m ++ [y] := take_succ_of h
  rw [List.set_append, if_neg (by omega), e1, Nat.sub_self, List.set_cons_zero, this, List.append_assoc]
  have e2 : l.drop m = y :: l.drop (m + 1) := by
    rw [List.drop_eq_getElem_cons hl]
    congr 1
    exact (List.getElem?_eq_some_iff.1 h).2
  rw [e2]; rfl
theorem set_mid {α : Type} {l : List α} {m : Nat} {x y : α} (h : m ≤ l.length) : (l.take m ++ x :: l.drop m).set m y = l.take m ++ y :: l.drop m := by
  have e1 : (l.take m).length = m := by simp; omega
  rw [List.set_append, if_neg (by omega), e1, Nat.sub_self, List.set_cons_zero]
theorem mid_get {α : Type} {l : List α} {m j : Nat} {x : α} (hm : m ≤ l.length) (hj : j < m) : (l.take m ++ x :: l.drop m)[j]? = l[j]? := by
  rw [List.getElem?_append_left (by simp; omega), List.getElem?_take, if_pos hj]
section
variable {P : Program} {F : Nat → Nat}
attribute [local simp] gOk updo upd ev RK.val? isShift intBin Addr.add_mk args0 Value.cells undef
theorem unk_cond {σ : Sl} {w : World} {N i k tb : Nat} {lv sv : Value} {ucs : List (List Value)} {out : List (Nat × List UInt8)} {Q : Exit → Sl → World → Prop} (h6 : σ 6 = lv) (h8 : σ 8 = .pointer (some ⟨tb, 0, none⟩)) (h9 : σ 9 = .int .i64 (i : Nat))
    (hraw : LRaw2 w N lv ucs) (hrep : RepU (fun b => b < N) w out ucs) (htb : Blk w tb [.int .u32 (k : Nat), sv])
    (hQ : ∀ σ' w', (∀ s, s < 23 → σ' s = σ s) → σ' 36 = .bool (match out[i]? with | some t => decide (t.1 < k) | none => false) → Mod [] w w' → Q .normal σ' w') : wpC P (ir_sUnknown_1 F) Q σ w := by
  have hm : Mod [] w w.drew := Mod.drew _ _
  have ct := fun k => (htb.mod hm (by simp)).cell k
  have hlen := hrep.length
  have hsl := (hraw.slcN.any).keep hm
  obtain ⟨b, c, e6⟩ := hsl.shape
  unfold ir_sUnknown_1
  simp only [wpC]
  refine wpD_pure rfl ?_
  simp only [List.map_cons, List.map_nil, List.append_nil]
  refine go1 (v := .int .i64 (i : Nat)) rfl (by simp [h9]) ?_
  refine go1 (v := lv) rfl (by simp [h6]) ?_
  refine go1 (v := .int .i64 (ucs.length : Nat)) rfl (by simp [e6]) ?_
  refine go1 (v := .bool (decide (i < out.length))) rfl (by simp [hlen]) ?_
  refine go1 (v := .bool (decide (i < out.length))) rfl (by simp) ?_
  by_cases hi : i < out.length
  · obtain ⟨t, ht⟩ : ∃ t, out[i]? = some t := ⟨out[i], by simp [hi]⟩
    obtain ⟨v, hv1, hv2⟩ := hrep.nth ht
    obtain ⟨p, cc, ep, hj, hcell0, hcell1⟩ := hsl.pair rfl hraw.two hv1
    refine go1 (v := lv) (by simp [hi]) (by simp [h6]) ?_
    refine go1 (v := .int .i64 (i : Nat)) (by simp [hi]) (by simp [h9]) ?_
    refine go1 (v := .pointer (some (p.add (i * 2)))) (by simp [hi]) (by simp [ep]; omega) ?_
    refine go1 (v := .pointer (some ((p.add (i * 2)).add 0))) (by simp [hi]) (by simp) ?_
    refine go1 (v := .int .u32 (t.1 : Nat)) (by simp [hi]) (by simp [hcell0]) ?_
    refine go1 (v := .pointer (some ⟨tb, 0, none⟩)) (by simp [hi]) (by simp [h8]) ?_
    refine go1 (v := .int .u32 (k : Nat)) (by simp [hi]) (by simp [ct]) ?_
    refine go1 (v := .bool (decide (t.1 < k))) (by simp [hi]) (by simp) ?_
    refine go1 (v := .bool (decide (t.1 < k))) rfl (by simp [hi]) ?_
    refine goEnd (hQ _ _ ?_ (by simp [ht]) hm)
    intro s hs
    simp only [updo, upd]
    repeat rw [if_neg (by omega)]
  · have ht : out[i]? = none := by simp; omega
    iterate 8 (refine go0 (by simp [hi]) ?_)
    refine go1 (v := .bool false) rfl (by simp [hi]) ?_
    refine goEnd (hQ _ _ ?_ (by simp [ht]) hm)
    intro s hs
    simp only [updo, upd]
    repeat rw [if_neg (by omega)]
theorem unk_find {σ : Sl} {w : World} {N k tb : Nat} {lv sv : Value} {ucs : List (List Value)} {out : List (Nat × List UInt8)} {Q : Exit → Sl → World → Prop} (h6 : σ 6 = lv) (h8 : σ 8 = .pointer (some ⟨tb, 0, none⟩)) (h9 : σ 9 = .int .i64 0)
    (hraw : LRaw2 w N lv ucs) (hrep : RepU (fun b => b < N) w out ucs) (htb : Blk w tb [.int .u32 (k : Nat), sv]) (hlen : out.length < 2147483648)
    (hQ : ∀ σ' w', (∀ s, s < 23 → s ≠ 9 → σ' s = σ s) → σ' 9 = .int .i64 (posU k out : Nat) → Mod [] w w' → Q .normal σ' w') :
    wpC P (.block 2 (.loop (.seq (.seq (ir_sUnknown_1 F)
                    (.cond (.tmp 36)
                      (.skip)
                      (.exit 2)))
                  (.block 3 (.blk [⟨(some (37)), .mv (.tmp 9), none⟩,
                      ⟨(some (38)), .bin .add (.tmp 37) (.const (.int .i64 1)), none⟩,
                      ⟨(some (9)), .mv (.tmp 38), none⟩]))))) Q σ w := by
  rw [wpC_block, wpC_loop]
  refine ⟨fun σ1 w1 => ∃ i, i ≤ posU k out ∧ σ1 9 = .int .i64 (i : Nat) ∧ (∀ s, s < 23 → s ≠ 9 → σ1 s = σ s) ∧ Mod [] w w1, fun σ1 _ => posU k out - (match σ1 9 with | .int _ j => j.toNat | _ => 0), ⟨0, Nat.zero_le _, h9, fun _ _ _ => rfl, Mod.refl _ _⟩, ?_⟩
  rintro σ1 w1 ⟨i, hi, k9, hfr, hm1⟩
  rw [wpC_seq, wpC_seq]
  refine unk_cond (lv := lv) (by rw [hfr 6 (by omega) (by omega)]; exact h6) (by rw [hfr 8 (by omega) (by omega)]; exact h8) k9 (hraw.mod hm1 (by simp)) (hrep.mod hm1 (by simp) fun _ _ h => h) (htb.mod hm1 (by simp)) fun σ2 w2 hfr2 h36 hm2 => ?_
  simp only [thenC]
  have hfr' : ∀ s, s < 23 → s ≠ 9 → σ2 s = σ s := fun s h1 h2 => by rw [hfr2 s h1]; exact hfr s h1 h2
  by_cases hlt : i < posU k out
  · obtain ⟨t, ht, htk⟩ := posU_lt hlt
    rw [wpC_cond_t (by rw [ev, h36, ht]; simp [htk]), wpC_skip]
    simp only [thenC]
    rw [wpC_block, wpC_blk]
    have hle := posU_le k out
    refine go1 (v := .int .i64 (i : Nat)) rfl (by simp [hfr2, k9]) ?_
    refine go1 (v := .int .i64 ((i + 1 : Nat) : Int)) rfl (by
      simp only [RK.val?, ev, updo, upd, if_true, isShift, decide_true, Bool.or_true, intBin]
      rw [show (i : Int) + 1 = ((i + 1 : Nat) : Int) by omega, i64_nat (by omega)]) ?_
    refine go1 (v := .int .i64 ((i + 1 : Nat) : Int)) rfl (by simp) (goEnd ?_)
    simp only [inBlockC, thenC]
    refine ⟨⟨i + 1, by omega, by simp, fun s h1 h2 => ?_, hm1.trans hm2⟩, ?_⟩
    · rw [← hfr' s h1 h2]; simp only [updo, upd]
      repeat rw [if_neg (by omega)]
    · simp only [updo, upd, if_true, k9, Int.toNat_natCast]
      have : posU k out - (i + 1) < posU k out - i := by omega
      exact this
  · have : i = posU k out := by omega
    subst this
    have hf : σ2 36 = .bool false := by
      rw [h36]
      cases ht : out[posU k out]? with
      | none => rfl
      | some t => simp [posU_ge ht]
    rw [wpC_cond_f (by rw [ev, hf])]
    simp only [wpC, thenC, inBlockC, if_true]
    exact hQ σ2 w2 hfr' (by rw [hfr2 9 (by omega)]; exact k9) (hm1.trans hm2)
theorem unk_skip {σ : Sl} {w : World} {N k tb least i : Nat} {lv sv : Value} {ucs : List (List Value)} {out : List (Nat × List UInt8)} {Q : Exit → Sl → World → Prop} (h5 : σ 5 = .int .u32 (least : Nat)) (h6 : σ 6 = lv) (h8 : σ 8 = .pointer (some ⟨tb, 0, none⟩)) (h9 : σ 9 = .int .i64 (i : Nat))
    (hraw : LRaw2 w N lv ucs) (hrep : RepU (fun b => b < N) w out ucs) (htb : Blk w tb [.int .u32 (k : Nat), sv])
    (hQ : ∀ σ' w', (∀ s, s < 23 → σ' s = σ s) → σ' 58 = .bool (decide (k < least) || decide ((out[i]?).map (·.1) = some k)) → Mod [] w w' → Q .normal σ' w') : wpC P (ir_sUnknown_2 F) Q σ w := by
  have hm : Mod [] w w.drew := Mod.drew _ _
  have ct := fun k => (htb.mod hm (by simp)).cell k
  have hlen := hrep.length
  have hsl := (hraw.slcN.any).keep hm
  obtain ⟨b, c, e6⟩ := hsl.shape
  unfold ir_sUnknown_2
  simp only [wpC]
  refine wpD_pure rfl ?_
  simp only [List.map_cons, List.map_nil, List.append_nil]
  refine go1 (v := .pointer (some ⟨tb, 0, none⟩)) rfl (by simp [h8]) ?_
  refine go1 (v := .int .u32 (k : Nat)) rfl (by simp [ct]) ?_
  refine go1 (v := .int .u32 (least : Nat)) rfl (by simp [h5]) ?_
  refine go1 (v := .bool (decide (k < least))) rfl (by simp) ?_
  refine go1 (v := .bool (decide (k < least))) rfl (by simp) ?_
  by_cases hk : k < least
  · iterate 14 (refine go0 (by simp [hk]) ?_)
    refine go1 (v := .bool true) rfl (by simp [hk]) ?_
    refine goEnd (hQ _ _ ?_ (by simp [hk]) hm)
    intro s hs
    simp only [updo, upd]
    repeat rw [if_neg (by omega)]
  · refine go1 (v := .int .i64 (i : Nat)) (by simp [hk]) (by simp [h9]) ?_
    refine go1 (v := lv) (by simp [hk]) (by simp [h6]) ?_
    refine go1 (v := .int .i64 (ucs.length : Nat)) (by simp [hk]) (by simp [e6]) ?_
    refine go1 (v := .bool (decide (i < out.length))) (by simp [hk]) (by simp [hlen]) ?_
    refine go1 (v := .bool (decide (i < out.length))) (by simp [hk]) (by simp) ?_
    by_cases hi : i < out.length
    · obtain ⟨t, ht⟩ : ∃ t, out[i]? = some t := ⟨out[i], by simp [hi]⟩
      obtain ⟨v, hv1, hv2⟩ := hrep.nth ht
      obtain ⟨p, cc, ep, hj, hcell0, hcell1⟩ := hsl.pair rfl hraw.two hv1
      refine go1 (v := lv) (by simp [hi]) (by simp [h6]) ?_
      refine go1 (v := .int .i64 (i : Nat)) (by simp [hi]) (by simp [h9]) ?_
      refine go1 (v := .pointer (some (p.add (i * 2)))) (by simp [hi]) (by simp [ep]; omega) ?_
      refine go1 (v := .pointer (some ((p.add (i * 2)).add 0))) (by simp [hi]) (by simp) ?_
      refine go1 (v := .int .u32 (t.1 : Nat)) (by simp [hi]) (by simp [hcell0]) ?_
      refine go1 (v := .pointer (some ⟨tb, 0, none⟩)) (by simp [hi]) (by simp [h8]) ?_
      refine go1 (v := .int .u32 (k : Nat)) (by simp [hi]) (by simp [ct]) ?_
      refine go1 (v := .bool (decide (t.1 = k))) (by simp [hi]) (by
        simp
        by_cases e : t.1 = k
        · simp [e]
        · have : ¬ ((t.1 : Int) = k) := by omega
          simp [e, this]) ?_
      refine go1 (v := .bool (decide (t.1 = k))) (by simp [hk]) (by simp [hi]) ?_
      refine go1 (v := .bool (decide (t.1 = k))) rfl (by simp [hk]) ?_
      refine goEnd (hQ _ _ ?_ (by simp [ht, hk]) hm)
      intro s hs
      simp only [updo, upd]
      repeat rw [if_neg (by omega)]
    · have ht : out[i]? = none := by simp; omega
      iterate 8 (refine go0 (by simp [hi]) ?_)
      refine go1 (v := .bool false) (by simp [hk]) (by simp [hi]) ?_
      refine go1 (v := .bool false) rfl (by simp [hk]) ?_
      refine goEnd (hQ _ _ ?_ (by simp [ht, hk]) hm)
      intro s hs
      simp only [updo, upd]
      repeat rw [if_neg (by omega)]
theorem unk_shift {σ : Sl} {w : World} {i n B cap : Nat} {ucs : List (List Value)} {z rest : List Value} {Q : Exit → Sl → World → Prop} (h6 : σ 6 = .slice (some ⟨B, 0, none⟩) (n + 1) cap) (h9 : σ 9 = .int .i64 (i : Nat)) (hi : i ≤ n) (hn : ucs.length = n) (hbig : n < 2147483648)
    (h2 : ∀ c ∈ ucs, c.length = 2) (hone : ∀ c ∈ ucs, ∀ v ∈ c, v.oneCell' = true) (hz : z.length = 2) (hb : Blk w B ((ucs ++ [z]).flatten ++ rest))
    (hQ : ∀ σ' w' x, (∀ s, s < 63 → s ≠ 10 → σ' s = σ s) → x.length = 2 → Blk w' B ((ucs.take i ++ x :: ucs.drop i).flatten ++ rest) → Mod [B] w w' → Q .normal σ' w') : wpC P (ir_sUnknown_3 F) Q σ w := by
  unfold ir_sUnknown_3
  rw [wpC_seq, wpC_blk]
  refine go1 (v := .slice (some ⟨B, 0, none⟩) (n + 1) cap) rfl (by simp [h6]) ?_
  refine go1 (v := .int .i64 ((n + 1 : Nat) : Int)) rfl (by simp) ?_
  refine go1 (v := .int .i64 (n : Nat)) rfl (by
    simp only [RK.val?, ev, updo, upd, if_true, isShift, decide_true, Bool.or_true, intBin]
    rw [show ((n + 1 : Nat) : Int) - 1 = (n : Int) by omega, i64_nat (by omega)]) ?_
  refine go1 (v := .int .i64 (n : Nat)) rfl (by simp) (wpR_done ?_)
  rw [wpC_block, wpC_loop]
  refine ⟨fun σ1 w1 => ∃ m x, i ≤ m ∧ m ≤ n ∧ σ1 10 = .int .i64 (m : Nat) ∧ (∀ s, s < 63 → s ≠ 10 → σ1 s = σ s) ∧ x.length = 2 ∧ Blk w1 B ((ucs.take m ++ x :: ucs.drop m).flatten ++ rest) ∧ Mod [B] w w1,
    fun σ1 _ => (match σ1 10 with | .int _ j => j.toNat | _ => 0), ⟨n, z, hi, Nat.le_refl _, by simp, fun s h1 h2 => ?_, hz, ?_, Mod.refl _ _⟩, ?_⟩
  · simp only [updo, upd]
    repeat rw [if_neg (by omega)]
  · rw [List.take_of_length_le (by omega), List.drop_eq_nil_of_le (by omega)]; exact hb
  · rintro σ1 w1 ⟨m, x, him, hmn, k10, hfr, hx, hbl, hm1⟩
    rw [wpC_seq, wpC_seq, wpC_blk]
    refine go1 (v := .int .i64 (m : Nat)) rfl (by simp [k10]) ?_
    refine go1 (v := .int .i64 (i : Nat)) rfl (by simp [hfr, h9]) ?_
    refine go1 (v := .bool (decide (m > i))) rfl (by simp) (wpR_done ?_)
    by_cases hlt : m > i
    · rw [wpC_cond_t (by simp [hlt]), wpC_skip]
      simp only [thenC]
      rw [wpC_seq, wpC_block, wpC_blk]
      obtain ⟨m, rfl⟩ : ∃ k, m = k + 1 := ⟨m - 1, by omega⟩
      obtain ⟨y, hy⟩ : ∃ y, ucs[m]? = some y := ⟨ucs[m], by simp <;> omega⟩
      have hall : ∀ c ∈ ucs.take (m + 1) ++ x :: ucs.drop (m + 1), c.length = 2 := by
        intro c hc
        rcases List.mem_append.1 hc with hc | hc
        · exact h2 c (List.mem_of_mem_take hc)
        · rcases List.mem_cons.1 hc with rfl | hc
          · exact hx
          · exact h2 c (List.mem_of_mem_drop hc)
      have hy2 : y.length = 2 := h2 y (List.mem_of_getElem? hy)
      have hcell : cellsAt w1 ⟨B, m * 2, none⟩ 0 2 = some y := by
        have hc := hbl.cells.take (ucs.take (m + 1) ++ x :: ucs.drop (m + 1)).flatten.length
        rw [List.take_left] at hc
        have := flat_cells hc hall (j := m) (by rw [mid_get (by omega) (by omega)]; exact hy)
        simp only [Nat.zero_add] at this
        exact cellsAt_of' this hy2
      have f6 : σ1 6 = .slice (some ⟨B, 0, none⟩) (n + 1) cap := by rw [hfr 6 (by omega) (by omega)]; exact h6
      refine go1 (v := .slice (some ⟨B, 0, none⟩) (n + 1) cap) rfl (by simp [f6]) ?_
      refine go1 (v := .int .i64 ((m + 1 : Nat) : Int)) rfl (by simp [k10]) ?_
      refine go1 (v := .slice (some ⟨B, 0, none⟩) (n + 1) cap) rfl (by simp [f6]) ?_
      refine go1 (v := .int .i64 ((m + 1 : Nat) : Int)) rfl (by simp [k10]) ?_
      refine go1 (v := .int .i64 (m : Nat)) rfl (by
        simp only [RK.val?, ev, updo, upd, if_true, isShift, decide_true, Bool.or_true, intBin]
        rw [show ((m + 1 : Nat) : Int) - 1 = (m : Int) by omega, i64_nat (by omega)]) ?_
      refine go1 (v := .pointer (some ⟨B, m * 2, none⟩)) rfl (by simp; omega) ?_
      refine go1 (v := .agg y.toArray) rfl (by simp [hcell]) ?_
      refine go1 (v := .pointer (some ⟨B, (m + 1) * 2, none⟩)) rfl (by simp; omega) ?_
      refine wpR_run ?_
      have hfl : ((ucs.take (m + 1) ++ x :: ucs.drop (m + 1)).flatten).length = (n + 1) * 2 := by
        rw [flatten_length hall]
        simp; omega
      have hput := hbl.put (o := (m + 1) * 2) (vs := y) (by simp only [List.length_append, hfl]; omega)
      rw [flat_setAt hall hy2 (by simp; omega), set_shift hy] at hput
      have hmput : Mod [B] w1 (putCells w1 ⟨B, (m + 1) * 2, none⟩ 0 y) := Mod.put (by simp)
      simp only [RK.run, ev, updo, upd, if_true]
      refine ⟨by simpa using hy2, stOk_many hbl (by simp only [List.length_append, hfl]; simp [hy2]; omega) (by simpa using hone y (List.mem_of_getElem? hy)), ?_⟩
      refine goEnd ?_
      simp only [inBlockC, thenC]
      rw [wpC_blk]
      refine go1 (v := .int .i64 ((m + 1 : Nat) : Int)) rfl (by simp [k10]) ?_
      refine go1 (v := .int .i64 (m : Nat)) rfl (by
        simp only [RK.val?, ev, updo, upd, if_true, isShift, decide_true, Bool.or_true, intBin]
        rw [show ((m + 1 : Nat) : Int) - 1 = (m : Int) by omega, i64_nat (by omega)]) ?_
      refine go1 (v := .int .i64 (m : Nat)) rfl (by simp) (goEnd ?_)
      simp only [thenC]
      refine ⟨⟨m, y, by omega, by omega, by simp, fun s h1 h2 => ?_, hy2, by simpa using hput, hm1.trans (by simpa using hmput)⟩, ?_⟩
      · rw [← hfr s h1 h2]; simp only [updo, upd]
        repeat rw [if_neg (by omega)]
      · simp [k10]
    · have : m = i := by omega
      subst this
      rw [wpC_cond_f (by simp)]
      simp only [wpC, thenC, inBlockC, if_true]
      refine hQ _ w1 x (fun s h1 h2 => ?_) hx hbl hm1
      rw [← hfr s h1 h2]; simp only [updo, upd]
      repeat rw [if_neg (by omega)]
end
end Go.Msk
