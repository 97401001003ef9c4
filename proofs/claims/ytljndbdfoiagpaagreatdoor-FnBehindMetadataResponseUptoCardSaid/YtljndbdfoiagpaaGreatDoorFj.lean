/- A small language of resolved operations, and what the generic and the generated functions do in it (part 10). -/
import Derived.Test.YtljndbdfoiagpaaGreatDoorFi

namespace Go.Msk
open Go.RowKit
set_option maxRecDepth 100000
theorem tab8_get {m : Nat} (h : m < 256) : ∃ b : UInt8, tab8.data.toList[m]? = some b ∧ b.toNat = t8 m := by
  have hl : tab8.data.toList.length = 256 := by decide +kernel
  refine ⟨tab8.data.toList[m]'(by omega), List.getElem?_eq_getElem _, ?_⟩
  unfold t8
  rw [List.getD_eq_getElem?_getD, List.getElem?_eq_getElem (by omega)]; rfl
theorem tabU_get {m : Nat} (h : m < 256) : ∃ b : UInt8, tabU.data.toList[m]? = some b ∧ b.toNat = tU m := by
  have hl : tabU.data.toList.length = 256 := by decide +kernel
  refine ⟨tabU.data.toList[m]'(by omega), List.getElem?_eq_getElem _, ?_⟩
  unfold tU
  rw [List.getD_eq_getElem?_getD, List.getElem?_eq_getElem (by omega)]; rfl
theorem t8_le {m : Nat} (h : m < 256) : t8 m ≤ 8 := by
  have key : ((List.range 256).all fun m => decide (t8 m ≤ 8)) = true := by decide +kernel
  rw [List.all_eq_true] at key
  simpa using key m (List.mem_range.2 h)
theorem bl_le {n : Nat} (h : n < 4294967296) : bl n ≤ 32 := by
  unfold bl
  repeat' split
  · have := t8_le (m := n / 16777216) (by omega); omega
  · have := t8_le (m := n / 65536) (by omega); omega
  · have := t8_le (m := n / 256) (by omega); omega
  · have := t8_le (m := n) (by omega); omega
theorem uvE_5 {n : Nat} (h : 268435456 ≤ n) (h2 : n < 34359738368) : uvE n = [UInt8.ofNat (n % 128 + 128), UInt8.ofNat (n / 2 ^ 7 % 128 + 128), UInt8.ofNat (n / 2 ^ 14 % 128 + 128), UInt8.ofNat (n / 2 ^ 21 % 128 + 128), UInt8.ofNat (n / 2 ^ 28)] := by
  have e1 : n / 128 / 128 = n / 2 ^ 14 := by rw [Nat.div_div_eq_div_mul]
  have e2 : n / 128 / 128 / 128 = n / 2 ^ 21 := by rw [Nat.div_div_eq_div_mul, Nat.div_div_eq_div_mul]
  have e3 : n / 128 / 128 / 128 / 128 = n / 2 ^ 28 := by rw [Nat.div_div_eq_div_mul, Nat.div_div_eq_div_mul, Nat.div_div_eq_div_mul]
  rw [uvE_big (by omega), uvE_big (by omega), uvE_big (by omega), uvE_big (by omega), uvE_small (by omega), e3, e2, e1]
theorem uvE_4 {n : Nat} (h : 2097152 ≤ n) (h2 : n < 268435456) : uvE n = [UInt8.ofNat (n % 128 + 128), UInt8.ofNat (n / 2 ^ 7 % 128 + 128), UInt8.ofNat (n / 2 ^ 14 % 128 + 128), UInt8.ofNat (n / 2 ^ 21)] := by
  have e1 : n / 128 / 128 = n / 2 ^ 14 := by rw [Nat.div_div_eq_div_mul]
  have e2 : n / 128 / 128 / 128 = n / 2 ^ 21 := by rw [Nat.div_div_eq_div_mul, Nat.div_div_eq_div_mul]
  rw [uvE_big (by omega), uvE_big (by omega), uvE_big (by omega), uvE_small (by omega), e2, e1]
theorem uvE_3 {n : Nat} (h : 16384 ≤ n) (h2 : n < 2097152) : uvE n = [UInt8.ofNat (n % 128 + 128), UInt8.ofNat (n / 2 ^ 7 % 128 + 128), UInt8.ofNat (n / 2 ^ 14)] := by
  have e1 : n / 128 / 128 = n / 2 ^ 14 := by rw [Nat.div_div_eq_div_mul]
  rw [uvE_big (by omega), uvE_big (by omega), uvE_small (by omega), e1]
theorem uvE_2 {n : Nat} (h : 128 ≤ n) (h2 : n < 16384) : uvE n = [UInt8.ofNat (n % 128 + 128), UInt8.ofNat (n / 2 ^ 7)] := by
  rw [uvE_big (by omega), uvE_small (by omega)]
section
variable {P : Program} {F : Nat → Nat}
attribute [local simp] gOk updo upd ev RK.val? isShift intBin Addr.add_mk args0 Value.cells undef
theorem appN {x d1 d2 n n0 : Nat} {l : List (Nat × Nat × Operand)} {bs k : List UInt8} {w : World} {σ : Sl} {v : Value} {r : List RI} {Q : Sl → World → Prop} (hx : σ x = v) (hne : x ≠ d1) (hd : DRaw w n0 v k) (hn0 : n0 ≤ w.heap.size)
    (hf : fillL (zrep n [.int .u8 0]) (l.map fun (o, k, x) => (o, k, ev σ x)) = some (u8s bs)) (hn : bs.length = n) (hl : k.length + bs.length ≤ lim) (hQ : ∀ u w' v', AppD n0 w v w' v' (k ++ bs) → wpR P r (upd (upd σ d1 u) d2 v') w' Q) :
    wpR P (⟨some d1, .bslice n [.int .u8 0] l, none⟩ :: ⟨some d2, .append (.tmp x) (.tmp d1) 1 1, none⟩ :: r) σ w Q := by
  refine goC rfl ?_
  refine bsliceB_run hf hn fun u w1 hs hm1 => ?_
  refine goC rfl ?_
  refine append_run (n0 := n0) (v := v) (by simp only [ev, updo, upd, hne, if_false, hx]) (hd.mod hm1 (by simp)) (Nat.le_trans hn0 hm1.size) (k := bs) (by simpa using hs) hl fun v' w2 ha => ?_
  exact hQ u w2 v' (ha.pre hm1)
theorem len32_call (hm : P.follows .mixedOrders = true) (h : liftF P (F bLen32) = some (ir_bLen32 F)) {w : World} {n : Nat} (hn : n < 4294967296) :
    Calls P (F bLen32) [.int .u32 (n : Nat)].toArray w fun e w' => e = .returned (.int .i64 (bl n : Nat)) ∧ w' = w := by
  unfold ir_bLen32 at h
  refine call_of h hm (by simp) ?_
  clear h
  rw [wpC_seq, wpC_blk]
  refine go1 rfl rfl (wpR_done ?_)
  have fin : ∀ (σ : Sl) (b m : Nat), m < 256 → b ≤ 24 → σ 2 = .int .i64 (b : Nat) → σ 0 = .int .u32 (m : Nat) → b + t8 m = bl n →
      wpC P (.seq (.blk [⟨(some (13)), .mv (.tmp 2), none⟩, ⟨(some (14)), .mv (.tmp 0), none⟩, ⟨(some (15)), .conv .u8 (.tmp 14), none⟩, ⟨(some (16)), .idx (.const (.string tab8)) (.tmp 15), none⟩,
      ⟨(some (17)), .conv .i64 (.tmp 16), none⟩, ⟨(some (18)), .bin .add (.tmp 13) (.tmp 17), none⟩, ⟨(some (2)), .mv (.tmp 18), none⟩]) (.ret)) (postC [.tmp 2] fun e w' => e = .returned (.int .i64 (bl n : Nat)) ∧ w' = w) σ w := by
    intro σ b m hm1 hb h2 h0 he
    obtain ⟨t, ht1, ht2⟩ := tab8_get hm1
    have hle := t8_le hm1
    rw [wpC_seq, wpC_blk]
    refine go1 (v := .int .i64 (b : Nat)) rfl (by simp [h2]) ?_
    refine go1 (v := .int .u32 (m : Nat)) rfl (by simp [h0]) ?_
    refine go1 (v := .int .u8 (m : Nat)) rfl (by simp; rw [wrap_nat .u8 rfl m (by show m < 2 ^ 8; omega)]) ?_
    refine go1 (v := .int .u8 (t8 m : Nat)) rfl (by simp [ht1, ht2]) ?_
    refine go1 (v := .int .i64 (t8 m : Nat)) rfl (by simp [i64_nat (n := t8 m) (by omega)]) ?_
    refine go1 (v := .int .i64 (bl n : Nat)) rfl (by
      simp only [RK.val?, ev, updo, upd, if_true, if_false, show (13 : Nat) ≠ 17 by decide, show (13 : Nat) ≠ 16 by decide, show (13 : Nat) ≠ 15 by decide, show (13 : Nat) ≠ 14 by decide, isShift, decide_true, Bool.or_true, intBin]
      rw [show (b : Int) + (t8 m : Nat) = ((b + t8 m : Nat) : Int) by omega, i64_nat (by omega), he]) ?_
    exact go1 (v := .int .i64 (bl n : Nat)) rfl (by simp) (wpR_done (ret1 (by simp) ⟨rfl, rfl⟩))
  have mid : ∀ (σ : Sl) (b m : Nat), m < 65536 → b ≤ 16 → σ 2 = .int .i64 (b : Nat) → σ 0 = .int .u32 (m : Nat) → (if 256 ≤ m then b + 8 + t8 (m / 256) else b + t8 m) = bl n →
      wpC P (.seq (.seq (.blk [⟨(some (7)), .mv (.tmp 0), none⟩, ⟨(some (8)), .bin .geq (.tmp 7) (.const (.int .u32 256)), none⟩])
    (.cond (.tmp 8) (.seq (.blk [⟨(some (9)), .mv (.tmp 0), none⟩, ⟨(some (10)), .bin .shr (.tmp 9) (.const (.int .u64 8)), none⟩, ⟨(some (0)), .mv (.tmp 10), none⟩])
      (.blk [⟨(some (11)), .mv (.tmp 2), none⟩, ⟨(some (12)), .bin .add (.tmp 11) (.const (.int .i64 8)), none⟩, ⟨(some (2)), .mv (.tmp 12), none⟩])) (.skip)))
    (.seq (.blk [⟨(some (13)), .mv (.tmp 2), none⟩, ⟨(some (14)), .mv (.tmp 0), none⟩, ⟨(some (15)), .conv .u8 (.tmp 14), none⟩, ⟨(some (16)), .idx (.const (.string tab8)) (.tmp 15), none⟩,
      ⟨(some (17)), .conv .i64 (.tmp 16), none⟩, ⟨(some (18)), .bin .add (.tmp 13) (.tmp 17), none⟩, ⟨(some (2)), .mv (.tmp 18), none⟩]) (.ret))) (postC [.tmp 2] fun e w' => e = .returned (.int .i64 (bl n : Nat)) ∧ w' = w) σ w := by
    intro σ b m hm1 hb h2 h0 he
    rw [wpC_seq, wpC_seq, wpC_blk]
    refine go1 (v := .int .u32 (m : Nat)) rfl (by simp [h0]) ?_
    refine go1 (v := .bool (decide ((m : Int) ≥ 256))) rfl (by simp) (wpR_done ?_)
    by_cases hh : 256 ≤ m
    · rw [wpC_cond_t (by simp; omega), wpC_seq, wpC_blk]
      refine go1 (v := .int .u32 (m : Nat)) rfl (by simp [h0]) ?_
      refine go1 (v := .int .u32 ((m / 256 : Nat) : Int)) rfl (by
        have := shr_u32 m 8 (by omega)
        simp only [RK.val?, ev, updo, upd, if_true, isShift, Bool.true_or]
        simpa using this) ?_
      refine go1 (v := .int .u32 ((m / 256 : Nat) : Int)) rfl (by simp) (wpR_done ?_)
      rw [wpC_blk]
      refine go1 (v := .int .i64 (b : Nat)) rfl (by simp [h2]) ?_
      refine go1 (v := .int .i64 ((b + 8 : Nat) : Int)) rfl (by
        simp only [RK.val?, ev, updo, upd, if_true, isShift, decide_true, Bool.or_true, intBin]
        rw [show (b : Int) + 8 = ((b + 8 : Nat) : Int) by omega, i64_nat (by omega)]) ?_
      refine go1 (v := .int .i64 ((b + 8 : Nat) : Int)) rfl (by simp) (wpR_done ?_)
      rw [if_pos hh] at he
      exact fin _ (b + 8) (m / 256) (by omega) (by omega) (by simp) (by simp) he
    · rw [wpC_cond_f (by simp; omega), wpC_skip]
      simp only [thenC]
      rw [if_neg hh] at he
      exact fin _ b m (by omega) (by omega) (by simp [h2]) (by simp [h0]) he
  rw [wpC_seq, wpC_seq, wpC_blk]
  refine go1 (v := .int .u32 (n : Nat)) rfl (by simp) ?_
  refine go1 (v := .bool (decide ((n : Int) ≥ 65536))) rfl (by simp) (wpR_done ?_)
  by_cases hh : 65536 ≤ n
  · rw [wpC_cond_t (by simp; omega), wpC_seq, wpC_blk]
    refine go1 (v := .int .u32 (n : Nat)) rfl (by simp) ?_
    refine go1 (v := .int .u32 ((n / 65536 : Nat) : Int)) rfl (by
      have := shr_u32 n 16 (by omega)
      simp only [RK.val?, ev, updo, upd, if_true, isShift, Bool.true_or]
      simpa using this) ?_
    refine go1 (v := .int .u32 ((n / 65536 : Nat) : Int)) rfl (by simp) (wpR_done ?_)
    rw [wpC_blk]
    refine go1 (v := .int .i64 16) rfl (by simp) (wpR_done ?_)
    refine mid _ 16 (n / 65536) (by omega) (by omega) (by simp) (by simp) ?_
    unfold bl
    rw [if_pos hh, Nat.div_div_eq_div_mul]
  · rw [wpC_cond_f (by simp; omega), wpC_skip]
    simp only [thenC]
    refine mid _ 0 n (by omega) (by omega) (by simp) (by simp) ?_
    unfold bl
    rw [if_neg hh]; simp
theorem uvarintLen_call (hm : P.follows .mixedOrders = true) (h : liftF P (F kUvarintLen) = some (ir_kUvarintLen F)) (hb : liftF P (F bLen32) = some (ir_bLen32 F)) {w : World} {n : Nat} (hn : n < 4294967296) :
    Calls P (F kUvarintLen) [.int .u32 (n : Nat)].toArray w fun e w' => e = .returned (.int .i64 (lenU n : Nat)) ∧ w' = w := by
  unfold ir_kUvarintLen at h
  refine call_of h hm (by simp) ?_
  clear h
  have hle := bl_le hn
  obtain ⟨t, ht1, ht2⟩ := tabU_get (m := bl n) (by omega)
  rw [tU_bl hn] at ht2
  have hle5 : lenU n ≤ 5 := by unfold lenU; repeat' split
                               all_goals omega
  rw [wpC_seq, wpC_blk]
  refine go1 rfl rfl (wpR_done ?_)
  rw [wpC_seq, wpC_blk]
  refine go1 (v := .int .u32 (n : Nat)) rfl (by simp) ?_
  refine goCall rfl (vs := [.int .u32 (n : Nat)]) (by simp) (len32_call hm hb hn) ?_
  rintro e w' ⟨rfl, ew⟩
  rw [ew]
  refine ⟨_, rfl, ?_⟩
  refine go1 (v := .int .u8 (bl n : Nat)) rfl (by simp; rw [wrap_nat .u8 rfl (bl n) (by show bl n < 2 ^ 8; omega)]) ?_
  refine go1 (v := .int .u8 (lenU n : Nat)) rfl (by simp [ht1, ht2]) ?_
  refine go1 (v := .int .i64 (lenU n : Nat)) rfl (by simp [i64_nat (n := lenU n) (by omega)]) ?_
  exact go1 (v := .int .i64 (lenU n : Nat)) rfl (by simp) (wpR_done (ret1 (by simp) ⟨rfl, rfl⟩))
theorem kAppendUvarint_call (hm : P.follows .mixedOrders = true) (h : liftF P (F kAppendUvarint) = some (ir_kAppendUvarint F)) (hl : liftF P (F kUvarintLen) = some (ir_kUvarintLen F)) (hb : liftF P (F bLen32) = some (ir_bLen32 F)) {n : Nat} (hn : n < 4294967296) :
    AppC P (F kAppendUvarint) (fun _ v => v = .int .u32 (n : Nat)) (uvE n) := by
  intro n0 w dv v l hd hn0 hlen hv
  subst hv
  unfold ir_kAppendUvarint at h
  refine call_of h hm (by simp) ?_
  clear h
  have e5 := uvE_length hn
  rw [wpC_seq, wpC_blk]
  refine go1 rfl rfl (wpR_done ?_)
  rw [wpC_seq, wpC_seq, wpC_blk]
  refine go1 (v := .int .u32 (n : Nat)) rfl (by simp) ?_
  refine goCall rfl (vs := [.int .u32 (n : Nat)]) (by simp) (uvarintLen_call hm hl hb hn) ?_
  rintro e w' ⟨rfl, ew⟩
  rw [ew]
  refine ⟨_, rfl, wpR_done ?_⟩
  rw [wpC_block, wpC_seq, wpC_blk]
  refine go1 (v := .bool (decide (lenU n = 5))) rfl (by simp; by_cases e : lenU n = 5 <;> simp [e]; omega) ?_
  refine go1 (v := .bool (decide (lenU n = 5))) rfl (by simp) (wpR_done ?_)
  by_cases k5 : lenU n = 5
  · rw [wpC_cond_t (by simp [k5]), wpC_seq, wpC_blk]
    have hr : 268435456 ≤ n := by unfold lenU at k5; repeat' split at k5
                                  all_goals omega
    rw [uvE_5 hr (by omega)] at hlen ⊢
    refine go1 (v := dv) rfl (by simp) ?_
    refine grpF (n := n) (by simp) hn (by omega) fun σ1 a1 b1 => ?_
    refine grpS (n := n) (k := 7) (by rw [a1 1 (by omega)]; simp) hn (by omega) (by omega) fun σ2 a2 b2 => ?_
    refine grpS (n := n) (k := 14) (by rw [a2 1 (by omega), a1 1 (by omega)]; simp) hn (by omega) (by omega) fun σ3 a3 b3 => ?_
    refine grpS (n := n) (k := 21) (by rw [a3 1 (by omega), a2 1 (by omega), a1 1 (by omega)]; simp) hn (by omega) (by omega) fun σ4 a4 b4 => ?_
    refine grpL (n := n) (k := 28) (by rw [a4 1 (by omega), a3 1 (by omega), a2 1 (by omega), a1 1 (by omega)]; simp) (by omega) (by omega) (by omega) fun σ5 a5 b5 => ?_
    refine appN (v := dv) (bs := [UInt8.ofNat (n % 128 + 128), UInt8.ofNat (n / 2 ^ 7 % 128 + 128), UInt8.ofNat (n / 2 ^ 14 % 128 + 128), UInt8.ofNat (n / 2 ^ 21 % 128 + 128), UInt8.ofNat (n / 2 ^ 28)]) (by rw [a5 9 (by omega), a4 9 (by omega), a3 9 (by omega), a2 9 (by omega), a1 9 (by omega)]; simp) (by omega) hd hn0 (by
      have c1 : σ5 13 = .int .u8 ((UInt8.ofNat (n % 128 + 128)).toNat : Int) := by rw [a5 13 (by omega), a4 13 (by omega), a3 13 (by omega), a2 13 (by omega)]; exact b1
      have c2 : σ5 18 = .int .u8 ((UInt8.ofNat (n / 2 ^ 7 % 128 + 128)).toNat : Int) := by rw [a5 18 (by omega), a4 18 (by omega), a3 18 (by omega)]; exact b2
      have c3 : σ5 23 = .int .u8 ((UInt8.ofNat (n / 2 ^ 14 % 128 + 128)).toNat : Int) := by rw [a5 23 (by omega), a4 23 (by omega)]; exact b3
      have c4 : σ5 28 = .int .u8 ((UInt8.ofNat (n / 2 ^ 21 % 128 + 128)).toNat : Int) := by rw [a5 28 (by omega)]; exact b4
      have c5 : σ5 31 = .int .u8 ((UInt8.ofNat (n / 2 ^ 28)).toNat : Int) := b5
      simp only [List.map_cons, List.map_nil, ev, c1, c2, c3, c4, c5]; rfl) rfl (by simpa using hlen) fun u w2 v' ha => ?_
    refine go1 (v := v') rfl (by simp) (wpR_done ?_)
    repeat first | refine retThen ?_ | refine retBlk ?_
    exact ret1 (v := v') (by simp) ⟨v', rfl, ha⟩
  · rw [wpC_cond_f (by simp [k5]), wpC_seq, wpC_blk]
    refine go1 (v := .bool (decide (lenU n = 4))) rfl (by simp; by_cases e : lenU n = 4 <;> simp [e]; omega) ?_
    refine go1 (v := .bool (decide (lenU n = 4))) rfl (by simp) (wpR_done ?_)
    by_cases k4 : lenU n = 4
    · rw [wpC_cond_t (by simp [k4]), wpC_seq, wpC_blk]
      have hr : 2097152 ≤ n ∧ n < 268435456 := by unfold lenU at k4; repeat' split at k4
                                                  all_goals omega
      rw [uvE_4 hr.1 hr.2] at hlen ⊢
      refine go1 (v := dv) rfl (by simp) ?_
      refine grpF (n := n) (by simp) hn (by omega) fun σ1 a1 b1 => ?_
      refine grpS (n := n) (k := 7) (by rw [a1 1 (by omega)]; simp) hn (by omega) (by omega) fun σ2 a2 b2 => ?_
      refine grpS (n := n) (k := 14) (by rw [a2 1 (by omega), a1 1 (by omega)]; simp) hn (by omega) (by omega) fun σ3 a3 b3 => ?_
      refine grpL (n := n) (k := 21) (by rw [a3 1 (by omega), a2 1 (by omega), a1 1 (by omega)]; simp) (by omega) (by omega) (by omega) fun σ5 a5 b5 => ?_
      refine appN (v := dv) (bs := [UInt8.ofNat (n % 128 + 128), UInt8.ofNat (n / 2 ^ 7 % 128 + 128), UInt8.ofNat (n / 2 ^ 14 % 128 + 128), UInt8.ofNat (n / 2 ^ 21)]) (by rw [a5 36 (by omega), a3 36 (by omega), a2 36 (by omega), a1 36 (by omega)]; simp) (by omega) hd hn0 (by
        have c1 : σ5 40 = .int .u8 ((UInt8.ofNat (n % 128 + 128)).toNat : Int) := by rw [a5 40 (by omega), a3 40 (by omega), a2 40 (by omega)]; exact b1
        have c2 : σ5 45 = .int .u8 ((UInt8.ofNat (n / 2 ^ 7 % 128 + 128)).toNat : Int) := by rw [a5 45 (by omega), a3 45 (by omega)]; exact b2
        have c3 : σ5 50 = .int .u8 ((UInt8.ofNat (n / 2 ^ 14 % 128 + 128)).toNat : Int) := by rw [a5 50 (by omega)]; exact b3
        have c5 : σ5 53 = .int .u8 ((UInt8.ofNat (n / 2 ^ 21)).toNat : Int) := b5
        simp only [List.map_cons, List.map_nil, ev, c1, c2, c3, c5]; rfl) rfl (by simpa using hlen) fun u w2 v' ha => ?_
      refine go1 (v := v') rfl (by simp) (wpR_done ?_)
      repeat first | refine retThen ?_ | refine retBlk ?_
      exact ret1 (v := v') (by simp) ⟨v', rfl, ha⟩
    · rw [wpC_cond_f (by simp [k4]), wpC_seq, wpC_blk]
      refine go1 (v := .bool (decide (lenU n = 3))) rfl (by simp; by_cases e : lenU n = 3 <;> simp [e]; omega) ?_
      refine go1 (v := .bool (decide (lenU n = 3))) rfl (by simp) (wpR_done ?_)
      by_cases k3 : lenU n = 3
      · rw [wpC_cond_t (by simp [k3]), wpC_seq, wpC_blk]
        have hr : 16384 ≤ n ∧ n < 2097152 := by unfold lenU at k3; repeat' split at k3
                                                all_goals omega
        rw [uvE_3 hr.1 hr.2] at hlen ⊢
        refine go1 (v := dv) rfl (by simp) ?_
        refine grpF (n := n) (by simp) hn (by omega) fun σ1 a1 b1 => ?_
        refine grpS (n := n) (k := 7) (by rw [a1 1 (by omega)]; simp) hn (by omega) (by omega) fun σ2 a2 b2 => ?_
        refine grpL (n := n) (k := 14) (by rw [a2 1 (by omega), a1 1 (by omega)]; simp) (by omega) (by omega) (by omega) fun σ5 a5 b5 => ?_
        refine appN (v := dv) (bs := [UInt8.ofNat (n % 128 + 128), UInt8.ofNat (n / 2 ^ 7 % 128 + 128), UInt8.ofNat (n / 2 ^ 14)]) (by rw [a5 58 (by omega), a2 58 (by omega), a1 58 (by omega)]; simp) (by omega) hd hn0 (by
          have c1 : σ5 62 = .int .u8 ((UInt8.ofNat (n % 128 + 128)).toNat : Int) := by rw [a5 62 (by omega), a2 62 (by omega)]; exact b1
          have c2 : σ5 67 = .int .u8 ((UInt8.ofNat (n / 2 ^ 7 % 128 + 128)).toNat : Int) := by rw [a5 67 (by omega)]; exact b2
          have c5 : σ5 70 = .int .u8 ((UInt8.ofNat (n / 2 ^ 14)).toNat : Int) := b5
          simp only [List.map_cons, List.map_nil, ev, c1, c2, c5]; rfl) rfl (by simpa using hlen) fun u w2 v' ha => ?_
        refine go1 (v := v') rfl (by simp) (wpR_done ?_)
        repeat first | refine retThen ?_ | refine retBlk ?_
        exact ret1 (v := v') (by simp) ⟨v', rfl, ha⟩
      · rw [wpC_cond_f (by simp [k3]), wpC_seq, wpC_blk]
        refine go1 (v := .bool (decide (lenU n = 2))) rfl (by simp; by_cases e : lenU n = 2 <;> simp [e]; omega) ?_
        refine go1 (v := .bool (decide (lenU n = 2))) rfl (by simp) (wpR_done ?_)
        by_cases k2 : lenU n = 2
        · rw [wpC_cond_t (by simp [k2]), wpC_seq, wpC_blk]
          have hr : 128 ≤ n ∧ n < 16384 := by unfold lenU at k2; repeat' split at k2
                                              all_goals omega
          rw [uvE_2 hr.1 hr.2] at hlen ⊢
          refine go1 (v := dv) rfl (by simp) ?_
          refine grpF (n := n) (by simp) hn (by omega) fun σ1 a1 b1 => ?_
          refine grpL (n := n) (k := 7) (by rw [a1 1 (by omega)]; simp) (by omega) (by omega) (by omega) fun σ5 a5 b5 => ?_
          refine appN (v := dv) (bs := [UInt8.ofNat (n % 128 + 128), UInt8.ofNat (n / 2 ^ 7)]) (by rw [a5 75 (by omega), a1 75 (by omega)]; simp) (by omega) hd hn0 (by
            have c1 : σ5 79 = .int .u8 ((UInt8.ofNat (n % 128 + 128)).toNat : Int) := by rw [a5 79 (by omega)]; exact b1
            have c5 : σ5 82 = .int .u8 ((UInt8.ofNat (n / 2 ^ 7)).toNat : Int) := b5
            simp only [List.map_cons, List.map_nil, ev, c1, c5]; rfl) rfl (by simpa using hlen) fun u w2 v' ha => ?_
          refine go1 (v := v') rfl (by simp) (wpR_done ?_)
          repeat first | refine retThen ?_ | refine retBlk ?_
          exact ret1 (v := v') (by simp) ⟨v', rfl, ha⟩
        · have k1 : lenU n = 1 := by unfold lenU at k5 k4 k3 k2 ⊢; repeat' split at *
                                     all_goals omega
          have hr : n < 128 := by unfold lenU at k1; repeat' split at k1
                                  all_goals omega
          rw [wpC_cond_f (by simp [k2]), wpC_seq, wpC_blk]
          refine go1 (v := .bool true) rfl (by simp [k1]) ?_
          refine go1 (v := .bool true) rfl (by simp) (wpR_done ?_)
          rw [wpC_cond_t (by simp), wpC_seq, wpC_blk]
          rw [uvE_small hr] at hlen ⊢
          refine go1 (v := dv) rfl (by simp) ?_
          refine go1 (v := .int .u32 (n : Nat)) rfl (by simp) ?_
          refine go1 (v := .int .u8 ((UInt8.ofNat n).toNat : Int)) rfl (by
            simp only [RK.val?, ev, updo, upd, if_true]
            rw [u8_conv (by omega)]) ?_
          refine appN (v := dv) (bs := [UInt8.ofNat n]) (by simp) (by omega) hd hn0 (by simp only [List.map_cons, List.map_nil, ev, updo, upd, if_true]; rfl) rfl (by simpa using hlen) fun u w2 v' ha => ?_
          refine go1 (v := v') rfl (by simp) (wpR_done ?_)
          repeat first | refine retThen ?_ | refine retBlk ?_
          exact ret1 (v := v') (by simp) ⟨v', rfl, ha⟩
end
end Go.Msk

namespace Go.Msk
open Go.RowKit
set_option maxRecDepth 100000
def ir_sHas (_F : Nat → Nat) : IC × List RV × Nat := (.seq (.blk [⟨some 2, .box (.tmp 0), none⟩,
 ⟨some 4, .mv (.const (.bool false)), none⟩])
 (.seq (.blk [⟨some 5, .fad (.tmp 2) 1, none⟩,
 ⟨some 6, .ld (.tmp 5), none⟩,
 ⟨some 7, .mv (.tmp 1), none⟩,
 ⟨some 8, .bin .leq (.tmp 6) (.tmp 7), none⟩,
 ⟨some 9, .mv (.tmp 8), none⟩,
 ⟨some 10, .fad (.tmp 2) 2, some (9, true)⟩,
 ⟨some 11, .ld (.tmp 10), some (9, true)⟩,
 ⟨some 12, .bin .lss (.tmp 11) (.const (.int .i64 0)), some (9, true)⟩,
 ⟨some 13, .mv (.tmp 12), some (9, true)⟩,
 ⟨some 14, .mv (.tmp 1), some (13, false)⟩,
 ⟨some 15, .fad (.tmp 2) 2, some (13, false)⟩,
 ⟨some 16, .ld (.tmp 15), some (13, false)⟩,
 ⟨some 17, .bin .leq (.tmp 14) (.tmp 16), some (13, false)⟩,
 ⟨some 18, .pick (.tmp 13) (.const (.bool true)) (.tmp 17), some (9, true)⟩,
 ⟨some 19, .pick (.tmp 9) (.tmp 18) (.const (.bool false)), none⟩,
 ⟨some 4, .mv (.tmp 19), none⟩])
 (.ret)),
 [.tmp 4], 20)
def ir_sNull (_F : Nat → Nat) : IC × List RV × Nat := (.seq (.blk [⟨some 3, .box (.tmp 0), none⟩,
 ⟨some 5, .box (.tmp 2), none⟩,
 ⟨some 6, .mv (.const (.bool false)), none⟩])
 (.seq (.blk [⟨some 7, .fad (.tmp 5) 2, none⟩,
 ⟨some 8, .ld (.tmp 7), none⟩,
 ⟨some 9, .mv (.tmp 8), none⟩,
 ⟨some 10, .fad (.tmp 3) 3, some (9, true)⟩,
 ⟨some 11, .ld (.tmp 10), some (9, true)⟩,
 ⟨some 12, .bin .geq (.tmp 11) (.const (.int .i64 0)), some (9, true)⟩,
 ⟨some 13, .pick (.tmp 9) (.tmp 12) (.const (.bool false)), none⟩,
 ⟨some 14, .mv (.tmp 13), none⟩,
 ⟨some 15, .mv (.tmp 1), some (14, true)⟩,
 ⟨some 16, .fad (.tmp 3) 3, some (14, true)⟩,
 ⟨some 17, .ld (.tmp 16), some (14, true)⟩,
 ⟨some 18, .bin .geq (.tmp 15) (.tmp 17), some (14, true)⟩,
 ⟨some 19, .pick (.tmp 14) (.tmp 18) (.const (.bool false)), none⟩,
 ⟨some 6, .mv (.tmp 19), none⟩])
 (.ret)),
 [.tmp 6], 20)
def ir_sWhole (_F : Nat → Nat) : IC × List RV × Nat := (.seq (.blk [⟨some 2, .mv (.const (.slice none 0 0)), none⟩])
 (.seq (.blk [⟨some 3, .mv (.tmp 0), none⟩,
 ⟨some 4, .mv (.tmp 0), none⟩,
 ⟨some 5, .len (.tmp 4), none⟩,
 ⟨some 6, .mm false (.tmp 5) (.const (.int .i64 32767)), none⟩,
 ⟨some 7, .slice (.tmp 3) none (some (.tmp 6)) none 1, none⟩,
 ⟨some 2, .mv (.tmp 7), none⟩])
 (.ret)),
 [.tmp 2], 8)
def ir_sThings (_F : Nat → Nat) : IC × List RV × Nat := (.seq (.blk [⟨some 2, .mv (.const (.slice none 0 0)), none⟩])
 (.seq (.blk [⟨some 3, .mv (.tmp 0), none⟩,
 ⟨some 4, .mv (.tmp 0), none⟩,
 ⟨some 5, .len (.tmp 4), none⟩,
 ⟨some 6, .mm false (.tmp 5) (.const (.int .i64 32767)), none⟩,
 ⟨some 7, .slice (.tmp 3) none (some (.tmp 6)) none 5, none⟩,
 ⟨some 2, .mv (.tmp 7), none⟩])
 (.ret)),
 [.tmp 2], 8)
def ir_sAt (_F : Nat → Nat) : IC × List RV × Nat := (.seq (.blk [⟨some 2, .box (.tmp 0), none⟩,
 ⟨some 4, .alloc [.int .i64 0, .slice none 0 0, .bool false, .slice none 0 0, .slice none 0 0], none⟩])
 (.seq (.seq (.blk [⟨some 5, .mv (.tmp 1), none⟩,
 ⟨some 6, .fad (.tmp 2) 3, none⟩,
 ⟨some 7, .ld (.tmp 6), none⟩,
 ⟨some 8, .len (.tmp 7), none⟩,
 ⟨some 9, .bin .lss (.tmp 5) (.tmp 8), none⟩])
 (.cond (.tmp 9)
 (.seq (.blk [⟨some 10, .fad (.tmp 2) 3, none⟩,
 ⟨some 11, .ld (.tmp 10), none⟩,
 ⟨some 12, .mv (.tmp 1), none⟩,
 ⟨some 13, .iad (.tmp 11) (.tmp 12) 5, none⟩,
 ⟨some 14, .ldn (.tmp 13) 5, none⟩,
 ⟨none, .st (.tmp 4) 5 (.tmp 14), none⟩])
 (.ret))
 (.skip)))
 (.seq (.blk [⟨some 15, .build [.int .i64 0, .slice none 0 0, .bool false, .slice none 0 0, .slice none 0 0] [], none⟩,
 ⟨none, .st (.tmp 4) 5 (.tmp 15), none⟩])
 (.ret))),
 [.cells 4 5], 16)
def ir_sUvarint (_F : Nat → Nat) : IC × List RV × Nat := (.seq (.blk [⟨some 2, .mv (.const (.slice none 0 0)), none⟩])
 (.seq (.blk [⟨some 3, .mv (.const (.slice none 0 0)), none⟩])
 (.seq (.block 0 (.loop (.seq (.seq (.blk [⟨some 4, .mv (.tmp 0), none⟩,
 ⟨some 5, .bin .gtr (.tmp 4) (.const (.int .u64 127)), none⟩])
 (.cond (.tmp 5)
 (.skip)
 (.exit 0)))
 (.block 1 (.seq (.blk [⟨some 6, .mv (.tmp 3), none⟩,
 ⟨some 7, .mv (.tmp 0), none⟩,
 ⟨some 8, .bin .and (.tmp 7) (.const (.int .u64 127)), none⟩,
 ⟨some 9, .conv .u8 (.tmp 8), none⟩,
 ⟨some 10, .bin .or (.tmp 9) (.const (.int .u8 128)), none⟩,
 ⟨some 11, .bslice 1 [.int .u8 0] [(0, 1, .tmp 10)], none⟩,
 ⟨some 12, .append (.tmp 6) (.tmp 11) 1 1, none⟩,
 ⟨some 3, .mv (.tmp 12), none⟩])
 (.blk [⟨some 13, .mv (.tmp 0), none⟩,
 ⟨some 14, .bin .shr (.tmp 13) (.const (.int .u64 7)), none⟩,
 ⟨some 0, .mv (.tmp 14), none⟩]))))))
 (.seq (.blk [⟨some 15, .mv (.tmp 3), none⟩,
 ⟨some 16, .mv (.tmp 0), none⟩,
 ⟨some 17, .conv .u8 (.tmp 16), none⟩,
 ⟨some 18, .bslice 1 [.int .u8 0] [(0, 1, .tmp 17)], none⟩,
 ⟨some 19, .append (.tmp 15) (.tmp 18) 1 1, none⟩,
 ⟨some 2, .mv (.tmp 19), none⟩])
 (.ret)))),
 [.tmp 2], 20)
def ir_sFixed (_F : Nat → Nat) : IC × List RV × Nat := (.seq (.blk [⟨some 4, .mv (.const (.slice none 0 0)), none⟩])
 (.seq (.blk [⟨some 5, .mv (.const (.slice none 0 0)), none⟩])
 (.seq (.seq (.blk [⟨some 7, .mv (.tmp 1), none⟩,
 ⟨some 8, .bin .sub (.tmp 7) (.const (.int .i64 1)), none⟩,
 ⟨some 6, .mv (.tmp 8), none⟩])
 (.block 0 (.loop (.seq (.seq (.blk [⟨some 9, .mv (.tmp 6), none⟩,
 ⟨some 10, .bin .geq (.tmp 9) (.const (.int .i64 0)), none⟩])
 (.cond (.tmp 10)
 (.skip)
 (.exit 0)))
 (.seq (.block 1 (.blk [⟨some 13, .mv (.tmp 5), none⟩,
 ⟨some 14, .mv (.tmp 0), none⟩,
 ⟨some 15, .mv (.tmp 6), none⟩,
 ⟨some 16, .bin .mul (.const (.int .i64 8)) (.tmp 15), none⟩,
 ⟨some 17, .bin .shr (.tmp 14) (.tmp 16), none⟩,
 ⟨some 18, .conv .u8 (.tmp 17), none⟩,
 ⟨some 19, .bslice 1 [.int .u8 0] [(0, 1, .tmp 18)], none⟩,
 ⟨some 20, .append (.tmp 13) (.tmp 19) 1 1, none⟩,
 ⟨some 5, .mv (.tmp 20), none⟩]))
 (.blk [⟨some 11, .mv (.tmp 6), none⟩,
 ⟨some 12, .bin .sub (.tmp 11) (.const (.int .i64 1)), none⟩,
 ⟨some 6, .mv (.tmp 12), none⟩]))))))
 (.seq (.blk [⟨some 21, .mv (.tmp 5), none⟩,
 ⟨some 4, .mv (.tmp 21), none⟩])
 (.ret)))),
 [.tmp 4], 22)
def ir_sWidth (_F : Nat → Nat) : IC × List RV × Nat := (.seq (.blk [⟨some 2, .mv (.const (.int .i64 0)), none⟩])
 (.seq (.seq (.blk [⟨some 3, .mv (.tmp 0), none⟩])
 (.block 0 (.seq (.blk [⟨some 5, .bin .eql (.tmp 3) (.const (.int .i64 1)), none⟩,
 ⟨some 4, .mv (.tmp 5), none⟩])
 (.cond (.tmp 4)
 (.seq (.blk [⟨some 2, .mv (.const (.int .i64 1)), none⟩])
 (.ret))
 (.seq (.seq (.blk [⟨some 7, .bin .eql (.tmp 3) (.const (.int .i64 2)), none⟩,
 ⟨some 6, .mv (.tmp 7), none⟩])
 (.cond (.tmp 6)
 (.skip)
 (.blk [⟨some 8, .bin .eql (.tmp 3) (.const (.int .i64 5)), none⟩,
 ⟨some 6, .mv (.tmp 8), none⟩])))
 (.cond (.tmp 6)
 (.seq (.blk [⟨some 2, .mv (.const (.int .i64 2)), none⟩])
 (.ret))
 (.seq (.blk [⟨some 10, .bin .eql (.tmp 3) (.const (.int .i64 3)), none⟩,
 ⟨some 9, .mv (.tmp 10), none⟩])
 (.cond (.tmp 9)
 (.seq (.blk [⟨some 2, .mv (.const (.int .i64 4)), none⟩])
 (.ret))
 (.skip)))))))))
 (.seq (.blk [⟨some 2, .mv (.const (.int .i64 8)), none⟩])
 (.ret))),
 [.tmp 2], 11)
def ir_sCounted (F : Nat → Nat) : IC × List RV × Nat := (.seq (.blk [⟨some 8, .mv (.const (.slice none 0 0)), none⟩])
 (.seq (.block 0 (.seq (.blk [⟨some 10, .mv (.tmp 0), none⟩,
 ⟨some 11, .mv (.tmp 10), none⟩,
 ⟨some 12, .mv (.tmp 1), some (11, true)⟩,
 ⟨some 13, .pick (.tmp 11) (.tmp 12) (.const (.bool false)), none⟩,
 ⟨some 9, .mv (.tmp 13), none⟩])
 (.cond (.tmp 9)
 (.seq (.blk [⟨some 14, .bslice 1 [.int .u8 0] [(0, 1, .const (.int .u8 0))], none⟩,
 ⟨some 8, .mv (.tmp 14), none⟩])
 (.ret))
 (.seq (.blk [⟨some 16, .mv (.tmp 0), none⟩,
 ⟨some 15, .mv (.tmp 16), none⟩])
 (.cond (.tmp 15)
 (.seq (.blk [⟨some 17, .mv (.tmp 2), none⟩,
 ⟨some 18, .conv .u64 (.tmp 17), none⟩,
 ⟨some 19, .bin .add (.tmp 18) (.const (.int .u64 1)), none⟩,
 ⟨some 20, .call (F sUvarint) [.tmp 19], none⟩,
 ⟨some 8, .mv (.tmp 20), none⟩])
 (.ret))
 (.seq (.blk [⟨some 22, .mv (.tmp 1), none⟩,
 ⟨some 21, .mv (.tmp 22), none⟩])
 (.cond (.tmp 21)
 (.seq (.blk [⟨some 23, .mv (.tmp 3), none⟩,
 ⟨some 24, .call (F sFixed) [.const (.int .i64 (-1)), .tmp 23], none⟩,
 ⟨some 8, .mv (.tmp 24), none⟩])
 (.ret))
 (.skip))))))))
 (.seq (.blk [⟨some 25, .mv (.tmp 2), none⟩,
 ⟨some 26, .mv (.tmp 3), none⟩,
 ⟨some 27, .call (F sFixed) [.tmp 25, .tmp 26], none⟩,
 ⟨some 8, .mv (.tmp 27), none⟩])
 (.ret))),
 [.tmp 8], 28)
end Go.Msk

namespace Go.Msk
open Go.RowKit
set_option maxRecDepth 100000
def TR.n : TR → Int | .mk n _ _ _ _ => n
def TR.s : TR → List UInt8 | .mk _ s _ _ _ => s
def TR.null : TR → Bool | .mk _ _ b _ _ => b
def TR.l : TR → List TR | .mk _ _ _ l _ => l
def TR.u : TR → List (Nat × List UInt8) | .mk _ _ _ _ u => u
def TR.at (t : TR) (i : Nat) : TR := (t.l[i]?).getD .zero
inductive FD where
  | mk (kind frm to null tag dfl of : Int) (sub : List FD)
  deriving Inhabited
def FD.kind : FD → Int | .mk k _ _ _ _ _ _ _ => k
def FD.frm : FD → Int | .mk _ k _ _ _ _ _ _ => k
def FD.to : FD → Int | .mk _ _ k _ _ _ _ _ => k
def FD.null : FD → Int | .mk _ _ _ k _ _ _ _ => k
def FD.tag : FD → Int | .mk _ _ _ _ k _ _ _ => k
def FD.of : FD → Int | .mk _ _ _ _ _ _ k _ => k
def FD.sub : FD → List FD | .mk _ _ _ _ _ _ _ k => k
mutual
inductive RepF (ok : Nat → Prop) (w : World) : FD → List Value → Prop
  | mk {kind frm to null tag dfl of : Int} {sub : List FD} {sv : Value} {css : List (List Value)} : SlC ok w sv sub.length css.flatten → RepFL ok w sub css →
      RepF ok w (.mk kind frm to null tag dfl of sub) [.int .i64 kind, .int .i64 frm, .int .i64 to, .int .i64 null, .int .i64 tag, .int .i64 dfl, .int .i64 of, sv]
inductive RepFL (ok : Nat → Prop) (w : World) : List FD → List (List Value) → Prop
  | nil : RepFL ok w [] []
  | cons {f : FD} {l : List FD} {cs : List Value} {css : List (List Value)} : RepF ok w f cs → RepFL ok w l css → RepFL ok w (f :: l) (cs :: css)
end
theorem RepF.mod {ok ok' : Nat → Prop} {S : List Nat} {w w' : World} (hm : Mod S w w') (hS : ∀ b ∈ S, ¬ ok b) (ho : ∀ b, b < w.heap.size → ok b → ok' b) {t : FD} {cs : List Value} (h : RepF ok w t cs) : RepF ok' w' t cs := by
  refine RepF.rec (motive_1 := fun t cs _ => RepF ok' w' t cs) (motive_2 := fun l css _ => RepFL ok' w' l css) ?_ ?_ ?_ h
  · intro kind frm to null tag dfl of sub sv css h1 _ ih
    exact .mk (h1.mod hm hS ho) ih
  · exact .nil
  · intro t l cs css _ _ ih1 ih2; exact .cons ih1 ih2
theorem RepFL.mod {ok ok' : Nat → Prop} {S : List Nat} {w w' : World} (hm : Mod S w w') (hS : ∀ b ∈ S, ¬ ok b) (ho : ∀ b, b < w.heap.size → ok b → ok' b) {l : List FD} {css : List (List Value)} (h : RepFL ok w l css) : RepFL ok' w' l css := by
  induction l generalizing css with
  | nil => cases h; exact .nil
  | cons t l ih => cases h with | cons h1 h2 => exact .cons (h1.mod hm hS ho) (ih h2)
theorem RepF.eight {ok : Nat → Prop} {w : World} {t : FD} {cs : List Value} (h : RepF ok w t cs) : cs.length = 8 := by cases h; rfl
theorem RepFL.eight {ok : Nat → Prop} {w : World} {l : List FD} {css : List (List Value)} (h : RepFL ok w l css) : ∀ cs ∈ css, cs.length = 8 := by
  induction l generalizing css with
  | nil => cases h; simp
  | cons g l ih =>
    cases h with
    | cons h1 h2 =>
      intro cs hc
      rcases List.mem_cons.1 hc with rfl | hc
      · exact h1.eight
      · exact ih h2 cs hc
theorem RepFL.length {ok : Nat → Prop} {w : World} {l : List FD} {css : List (List Value)} (h : RepFL ok w l css) : l.length = css.length := by
  induction l generalizing css with
  | nil => cases h; rfl
  | cons g l ih => cases h with | cons h1 h2 => simp [ih h2]
theorem RepF.oneCell {ok : Nat → Prop} {w : World} {t : FD} {cs : List Value} (h : RepF ok w t cs) : ∀ v ∈ cs, v.oneCell' = true := by
  cases h with
  | mk h1 h2 =>
    intro v hv
    simp only [List.mem_cons, List.not_mem_nil, or_false] at hv
    rcases hv with rfl | rfl | rfl | rfl | rfl | rfl | rfl | rfl
    all_goals first | rfl | exact h1.one
theorem RepFL.nth {ok : Nat → Prop} {w : World} {l : List FD} {css : List (List Value)} (h : RepFL ok w l css) {j : Nat} {t : FD} (ht : l[j]? = some t) : ∃ cs, css[j]? = some cs ∧ RepF ok w t cs := by
  induction l generalizing css j with
  | nil => simp at ht
  | cons a l ih =>
    cases h with
    | cons h1 h2 =>
      cases j with
      | zero => simp only [List.getElem?_cons_zero, Option.some.injEq] at ht; subst ht; exact ⟨_, rfl, h1⟩
      | succ j => simp only [List.getElem?_cons_succ] at ht ⊢; exact ih h2 ht
def fzero : List Value := [.int .i64 0, .int .i64 0, .int .i64 0, .int .i64 0, .int .i64 0, .int .i64 0, .int .i64 0, .slice none 0 0]
abbrev anyB : Nat → Prop := fun _ => True
theorem SlC.any {ok : Nat → Prop} {w : World} {v : Value} {n : Nat} {cs : List Value} (h : SlC ok w v n cs) : SlC anyB w v n cs := h.mod (Mod.refl [] w) (by simp) fun _ _ _ => trivial
theorem SlC.keep {w w' : World} {v : Value} {n : Nat} {cs : List Value} (h : SlC anyB w v n cs) (hm : Mod [] w w') : SlC anyB w' v n cs := h.mod hm (by simp) fun _ _ _ => trivial
theorem RepT.any {ok : Nat → Prop} {w : World} {t : TR} {cs : List Value} (h : RepT ok w t cs) : RepT anyB w t cs := h.mod (Mod.refl [] w) (by simp) fun _ _ _ => trivial
theorem RepT.keep {w w' : World} {t : TR} {cs : List Value} (h : RepT anyB w t cs) (hm : Mod [] w w') : RepT anyB w' t cs := h.mod hm (by simp) fun _ _ _ => trivial
theorem RepTL.keep {w w' : World} {t : List TR} {cs : List (List Value)} (h : RepTL anyB w t cs) (hm : Mod [] w w') : RepTL anyB w' t cs := h.mod hm (by simp) fun _ _ _ => trivial
theorem RepU.keep {w w' : World} {t : List (Nat × List UInt8)} {cs : List (List Value)} (h : RepU anyB w t cs) (hm : Mod [] w w') : RepU anyB w' t cs := h.mod hm (by simp) fun _ _ _ => trivial
theorem RepF.keep {w w' : World} {t : FD} {cs : List Value} (h : RepF anyB w t cs) (hm : Mod [] w w') : RepF anyB w' t cs := h.mod hm (by simp) fun _ _ _ => trivial
theorem RepFL.keep {w w' : World} {t : List FD} {cs : List (List Value)} (h : RepFL anyB w t cs) (hm : Mod [] w w') : RepFL anyB w' t cs := h.mod hm (by simp) fun _ _ _ => trivial
theorem SlC.src {ok : Nat → Prop} {w : World} {v : Value} {l : List UInt8} (h : SlC ok w v l.length (u8s l)) : srcCells w 1 v = some (l.length, u8s l) := by
  obtain ⟨base, cap, rfl, h2, h3, h4⟩ := h
  cases base with
  | none => have := h3 rfl; have : l = [] := List.length_eq_zero_iff.1 (by omega); subst this; simp [srcCells, u8s]
  | some a =>
    by_cases hc0 : 0 < cap
    · simp only [srcCells, Nat.mul_one]
      rw [cellsAt_of' (h4 a rfl hc0).2.2 (u8s_length l)]; rfl
    · have : l = [] := List.length_eq_zero_iff.1 (by omega)
      subst this; simp [srcCells, cellsAt, u8s]
theorem DRaw.src {w : World} {n0 : Nat} {v : Value} {l : List UInt8} (h : DRaw w n0 v l) : srcCells w 1 v = some (l.length, u8s l) := h.slc.src
theorem slice_head {ok : Nat → Prop} {x y : Operand} {sz n k : Nat} {σ : Sl} {w : World} {v : Value} {cells : List Value} (hx : ev σ x = v) (hy : ev σ y = .int .i64 (k : Nat)) (h : SlC ok w v n cells) (hk : k ≤ n) :
    ∃ v', (RK.slice x none (some y) none sz).val? σ w = some v' ∧ SlC ok w v' k (cells.take (k * sz)) := by
  obtain ⟨base, cap, rfl, h2, h3, h4⟩ := h
  simp only [RK.val?, hx, bnd, hy]
  rw [if_pos ⟨by omega, by omega, by omega, by omega⟩]
  simp only [Int.toNat_natCast, Int.toNat_zero, Nat.sub_zero, Nat.zero_mul]
  refine ⟨_, rfl, _, _, rfl, by omega, ?_, ?_⟩
  · intro hn
    split at hn
    · rename_i h; simpa using h
    · cases base with
      | none => exact h3 rfl
      | some a => simp at hn
  · intro a ha hc0
    split at ha
    · obtain ⟨k1, k2, k3⟩ := h4 a ha (by simpa using hc0)
      exact ⟨k1, k2, k3.take _⟩
    · cases base with
      | none => simp at ha
      | some b =>
        obtain ⟨k1, k2, k3⟩ := h4 b rfl (by simpa using hc0)
        simp only [Option.map_some, Option.some.injEq] at ha
        subst ha
        rw [Addr.add_of k3.1]
        exact ⟨k1, k2, by have := k3.take (k * sz); obtain ⟨b, o, s⟩ := b; have e := k3.1; simp only at e; subst e; exact this⟩
def BytesR (w : World) (l : List UInt8) : Ending → World → Prop := fun e w' => ∃ v, e = .returned v ∧ DRaw w' w.heap.size v l ∧ Mod [] w w'
theorem AppD.mod0 {w0 w w' : World} {v v' : Value} {l l' : List UInt8} (h : AppD w0.heap.size w v w' v' l') (hd : DRaw w w0.heap.size v l) (hm : Mod [] w0 w) : Mod [] w0 w' := by
  have := h.mod
  cases ho : ownB v with
  | none => rw [ho] at this; exact hm.trans this.nil
  | some b =>
    rw [ho] at this
    exact Mod.drop (b := b) (S := []) ((hm.mono (by simp)).trans (this.mono (by simp))) (hd.own ho).1
theorem DRaw.nil (w : World) (n : Nat) : DRaw w n (.slice none 0 0) [] := ⟨.inl ⟨rfl, rfl⟩⟩
theorem DRaw.keep {w w' : World} {n0 : Nat} {v : Value} {l : List UInt8} (h : DRaw w n0 v l) (hm : Mod [] w w') : DRaw w' n0 v l := h.mod hm (by simp)
theorem DRaw.low {w : World} {n0 n1 : Nat} {v : Value} {l : List UInt8} (h : DRaw w n0 v l) (hn : n1 ≤ n0) : DRaw w n1 v l :=
  ⟨h.sl.imp id fun ⟨B, cap, rest, h1, h2, h3, h4, h5⟩ => ⟨B, cap, rest, h1, h2, Nat.le_trans hn h3, h4, h5⟩⟩
def wholeP (l : List UInt8) : List UInt8 := l.take 32767
theorem min_nat (n : Nat) : (if (32767 : Int) < (n : Int) then (32767 : Int) else (n : Int)) = ((min n 32767 : Nat) : Int) := by
  split <;> omega
section
variable {P : Program} {F : Nat → Nat}
attribute [local simp] gOk updo upd ev RK.val? isShift intBin Addr.add_mk args0 Value.cells undef
theorem whole_call (hm : P.follows .mixedOrders = true) (h : liftF P (F sWhole) = some (ir_sWhole F)) {ok : Nat → Prop} {w : World} {v : Value} {l : List UInt8} (hv : SlC ok w v l.length (u8s l)) :
    Calls P (F sWhole) [v].toArray w fun e w' => w' = w ∧ ∃ v', e = .returned v' ∧ SlC ok w v' (wholeP l).length (u8s (wholeP l)) := by
  unfold ir_sWhole at h
  refine call_of h hm (by simp) ?_
  obtain ⟨b, c, rfl⟩ := hv.shape
  rw [wpC_seq, wpC_blk]
  refine go1 rfl rfl (wpR_done ?_)
  rw [wpC_seq, wpC_blk]
  refine go1 rfl rfl (go1 rfl rfl ?_)
  refine go1 (v := .int .i64 l.length) rfl (by simp) ?_
  refine go1 (v := .int .i64 ((min l.length 32767 : Nat) : Int)) rfl (by simp [min_nat]) ?_
  obtain ⟨v', e1, h1⟩ := slice_head (x := .tmp 3) (y := .tmp 6) (sz := 1) (σ := upd (upd (upd (upd (upd (args0 [.slice b l.length c]) 2 (.slice none 0 0)) 3 (.slice b l.length c)) 4 (.slice b l.length c)) 5 (.int .i64 l.length)) 6 (.int .i64 ((min l.length 32767 : Nat) : Int))) (k := min l.length 32767) (by simp) (by simp) hv (by omega)
  refine go1 (v := v') rfl e1 ?_
  refine go1 (v := v') rfl (by simp) (wpR_done (ret1 (v := v') (by simp) ⟨rfl, v', rfl, ?_⟩))
  have e2 : (wholeP l).length = min l.length 32767 := by simp [wholeP, Nat.min_comm]
  have e3 : u8s (wholeP l) = (u8s l).take (min l.length 32767 * 1) := by
    rw [Nat.mul_one, wholeP, u8s_take]
    by_cases hl : l.length ≤ 32767
    · rw [List.take_of_length_le (by rw [u8s_length]; omega), List.take_of_length_le (by rw [u8s_length]; omega)]
    · rw [Nat.min_eq_right (by omega)]
  rw [e2, e3]; exact h1
theorem has_call (hm : P.follows .mixedOrders = true) (h : liftF P (F sHas) = some (ir_sHas F)) {ok : Nat → Prop} {w : World} {f : FD} {cs : List Value} {ver : Int} (hf : RepF ok w f cs) :
    Calls P (F sHas) [.agg cs.toArray, .int .i64 ver].toArray w fun e w' => e = .returned (.bool (decide (f.frm ≤ ver) && (decide (f.to < 0) || decide (ver ≤ f.to)))) ∧ Mod [] w w' := by
  cases hf with
  | @mk kind frm to null tag dfl of sub sv css h1 h2 =>
  unfold ir_sHas at h
  refine call_of h hm (by simp) ?_
  rw [wpC_seq, wpC_blk]
  refine goBox rfl fun w1 hb1 hm1 => ?_
  have c1 := fun k => hb1.cell k
  refine go1 rfl rfl (wpR_done ?_)
  rw [wpC_seq, wpC_blk]
  clear h
  by_cases e1 : frm ≤ ver
  · by_cases e2 : to < 0
    · iterate 16 (first | (apply go1; (· simp []); (· simp [c1, e1, e2] <;> rfl)) | (apply go0; (· simp [])))
      exact wpR_done (ret1 rfl (by simp [FD.frm, FD.to, e1, e2, hm1] <;> rfl))
    · iterate 16 (first | (apply go1; (· simp []); (· simp [c1, e1, e2] <;> rfl)) | (apply go0; (· simp [e1, e2])))
      exact wpR_done (ret1 rfl (by simp [FD.frm, FD.to, e1, e2, hm1] <;> rfl))
  · iterate 16 (first | (apply go1; (· simp []); (· simp [c1, e1] <;> rfl)) | (apply go0; (· simp [])))
    exact wpR_done (ret1 rfl (by simp [FD.frm, e1, hm1]))
end
end Go.Msk

namespace Go.Msk
open Go.RowKit
set_option maxRecDepth 100000
def FD.hasV (f : FD) (ver : Int) : Bool := decide (f.frm ≤ ver) && (decide (f.to < 0) || decide (ver ≤ f.to))
def FD.nullV (f : FD) (ver : Int) (t : TR) : Bool := t.null && (decide (f.null ≥ 0) && decide (ver ≥ f.null))
def widthP (k : Int) : Nat := if k = 1 then 1 else if k = 2 ∨ k = 5 then 2 else if k = 3 then 4 else 8
def countedP (flex null : Bool) (n size : Nat) : List UInt8 := if flex then (if null then [0] else uvE (n + 1)) else (if null then beI size (-1) else beI size n)
theorem widthP_le (k : Int) : widthP k ≤ 8 := by unfold widthP; repeat' split
                                                 all_goals omega
theorem flatten_take {n : Nat} : ∀ (css : List (List Value)) (k : Nat), (∀ c ∈ css, c.length = n) → css.flatten.take (k * n) = (css.take k).flatten
  | [], k, _ => by simp
  | c :: css, 0, _ => by simp
  | c :: css, k + 1, h => by
    have hc := h c (by simp)
    have ih := flatten_take css k (fun x hx => h x (by simp [hx]))
    simp only [List.flatten_cons, List.take_succ_cons]
    have e : (k + 1) * n = c.length + k * n := by rw [hc, Nat.add_mul]; omega
    rw [e, List.take_length_add_append, ih]
theorem RepTL.take {ok : Nat → Prop} {w : World} : ∀ {l : List TR} {css : List (List Value)} (_ : RepTL ok w l css) (k : Nat), RepTL ok w (l.take k) (css.take k)
  | _, _, .nil, k => by simp; exact .nil
  | _, _, .cons h1 h2, 0 => by simp; exact .nil
  | _, _, .cons h1 h2, k + 1 => by simp only [List.take_succ_cons]; exact .cons h1 (h2.take k)
theorem shr_i64 (n : Int) (k : Nat) (hk : k ≤ 64) : intBin .shr .i64 n (k : Nat) = some (.int .i64 (n / 2 ^ k)) := by
  simp only [intBin]
  rw [if_neg (by omega)]
  have : min (k : Int).toNat IntKind.i64.bits = k := by show min (k : Int).toNat 64 = k; omega
  rw [this, Int.fdiv_eq_ediv_of_nonneg _ (by exact Int.le_of_lt (Int.pow_pos (by omega)))]
theorem pow_256 (m : Nat) : (2 : Int) ^ (8 * m) = 256 ^ m := by rw [Int.pow_mul]; rfl
theorem u64_natS {n : Nat} (h : n < 18446744073709551616) : IntKind.u64.wrap (n : Int) = n := by
  simp only [IntKind.wrap, IntKind.bits, IntKind.signed]; simp; omega
theorem and127_u64 {n : Nat} (h : n < 18446744073709551616) : intBin .and .u64 (n : Int) 127 = some (.int .u64 ((n % 128 : Nat) : Int)) := by
  simp only [intBin]
  congr 2
  have e1 : (BitVec.ofInt IntKind.u64.bits (n : Int) &&& BitVec.ofInt IntKind.u64.bits 127).toNat = n % 128 := by
    show (BitVec.ofInt 64 (n : Int) &&& BitVec.ofInt 64 127).toNat = n % 128
    rw [BitVec.toNat_and]
    have a : (BitVec.ofInt 64 (n : Int)).toNat = n := by simp []; omega
    have b : (BitVec.ofInt 64 127).toNat = 2 ^ 7 - 1 := by decide
    rw [a, b, Nat.and_two_pow_sub_one_eq_mod]
  rw [e1, u64_natS (by omega)]
theorem or128_u8 {x : Nat} (h : x < 128) : intBin .or .u8 (x : Int) 128 = some (.int .u8 ((x + 128 : Nat) : Int)) := by
  have e := bin_or (k := .u8) rfl (x := x) (y := 128) (by show x < 2 ^ 8; omega) (by decide)
  have e2 := or_add 1 x 7 (by omega)
  simp only [Nat.one_mul] at e2
  have e3 : x ||| 128 = x + 128 := by
    have : (2 : Nat) ^ 7 = 128 := by decide
    rw [this] at e2; omega
  rw [e3] at e
  exact e
theorem shr_u64 (n k : Nat) (hk : k < 64) : intBin .shr .u64 (n : Int) (k : Nat) = some (.int .u64 ((n / 2 ^ k : Nat) : Int)) := by
  simp only [intBin]
  rw [if_neg (by omega)]
  have : min (k : Int).toNat IntKind.u64.bits = k := by show min (k : Int).toNat 64 = k; omega
  rw [this, Int.fdiv_eq_ediv_of_nonneg _ (by exact Int.le_of_lt (Int.pow_pos (by omega)))]
  congr 2
section
variable {P : Program} {F : Nat → Nat}
attribute [local simp] gOk updo upd ev RK.val? isShift intBin Addr.add_mk args0 Value.cells undef
theorem null_call (hm : P.follows .mixedOrders = true) (h : liftF P (F sNull) = some (ir_sNull F)) {ok ok' : Nat → Prop} {w : World} {f : FD} {cs : List Value} {t : TR} {ts : List Value} {ver : Int} (hf : RepF ok w f cs) (ht : RepT ok' w t ts) :
    Calls P (F sNull) [.agg cs.toArray, .int .i64 ver, .agg ts.toArray].toArray w fun e w' => e = .returned (.bool (f.nullV ver t)) ∧ Mod [] w w' := by
  cases hf with
  | @mk kind frm to null tag dfl of sub sv css h1 h2 =>
  cases ht with
  | @mk n s tnull l u sv lv uv css uss g1 g2 g3 g4 g5 =>
  unfold ir_sNull at h
  refine call_of h hm (by simp) ?_
  clear h
  rw [wpC_seq, wpC_blk]
  refine goBox rfl fun w1 hb1 hm1 => ?_
  refine goBox (v := .agg [.int .i64 n, sv, .bool tnull, lv, uv].toArray) (by simp) fun w2 hb2 hm2 => ?_
  have c1 := fun k => (hb1.mod hm2 (by simp)).cell k
  have c2 := fun k => hb2.cell k
  refine go1 rfl rfl (wpR_done ?_)
  rw [wpC_seq, wpC_blk]
  cases tnull
  · iterate 14 (first | (apply go1; (· simp); (· simp [c2] <;> rfl)) | (apply go0; (· simp)))
    exact wpR_done (ret1 rfl (by simp [FD.nullV, TR.null, hm1.trans hm2]))
  · by_cases e1 : null ≥ 0
    · iterate 14 (first | (apply go1; (· simp []); (· simp [c1, c2, e1] <;> rfl)) | (apply go0; (· simp [e1])))
      exact wpR_done (ret1 rfl (by simp [FD.nullV, FD.null, TR.null, e1, hm1.trans hm2] <;> rfl))
    · iterate 14 (first | (apply go1; (· simp []); (· simp [c1, c2, e1] <;> rfl)) | (apply go0; (· simp [])))
      exact wpR_done (ret1 rfl (by simp [FD.nullV, FD.null, TR.null, e1, hm1.trans hm2] <;> rfl))
theorem things_call (hm : P.follows .mixedOrders = true) (h : liftF P (F sThings) = some (ir_sThings F)) {ok : Nat → Prop} {w : World} {v : Value} {l : List TR} {css : List (List Value)} (hv : SlC ok w v l.length css.flatten) (hr : RepTL ok w l css) :
    Calls P (F sThings) [v].toArray w fun e w' => w' = w ∧ ∃ v', e = .returned v' ∧ SlC ok w v' (l.take 32767).length (css.take 32767).flatten ∧ RepTL ok w (l.take 32767) (css.take 32767) := by
  unfold ir_sThings at h
  refine call_of h hm (by simp) ?_
  clear h
  obtain ⟨b, c, rfl⟩ := hv.shape
  rw [wpC_seq, wpC_blk]
  refine go1 rfl rfl (wpR_done ?_)
  rw [wpC_seq, wpC_blk]
  refine go1 rfl rfl (go1 rfl rfl ?_)
  refine go1 (v := .int .i64 l.length) rfl (by simp) ?_
  refine go1 (v := .int .i64 ((min l.length 32767 : Nat) : Int)) rfl (by simp [min_nat]) ?_
  obtain ⟨v', e1, h1⟩ := slice_head (x := .tmp 3) (y := .tmp 6) (sz := 5) (σ := upd (upd (upd (upd (upd (args0 [.slice b l.length c]) 2 (.slice none 0 0)) 3 (.slice b l.length c)) 4 (.slice b l.length c)) 5 (.int .i64 l.length)) 6 (.int .i64 ((min l.length 32767 : Nat) : Int))) (k := min l.length 32767) (by simp) (by simp) hv (by omega)
  refine go1 (v := v') rfl e1 ?_
  refine go1 (v := v') rfl (by simp) (wpR_done (ret1 (v := v') (by simp) ⟨rfl, v', rfl, ?_, hr.take _⟩))
  rw [flatten_take _ _ hr.five] at h1
  have e2 : (l.take 32767).length = min l.length 32767 := by simp [Nat.min_comm]
  have e3 : css.take (min l.length 32767) = css.take 32767 := by
    by_cases hl : l.length ≤ 32767
    · have := hr.length
      rw [Nat.min_eq_left hl, List.take_of_length_le (by omega), List.take_of_length_le (by omega)]
    · rw [Nat.min_eq_right (by omega)]
  rw [e2, ← e3]; exact h1
theorem at_call (hm : P.follows .mixedOrders = true) (h : liftF P (F sAt) = some (ir_sAt F)) {ok : Nat → Prop} {w : World} {t : TR} {ts : List Value} {i : Nat} (ht : RepT ok w t ts) :
    Calls P (F sAt) [.agg ts.toArray, .int .i64 (i : Nat)].toArray w fun e w' => ∃ cs, e = .returned (.agg cs.toArray) ∧ RepT anyB w' (t.at i) cs ∧ Mod [] w w' := by
  replace ht := ht.any
  cases ht with
  | @mk n s tnull l u sv lv uv css uss g1 g2 g3 g4 g5 =>
  unfold ir_sAt at h
  refine call_of h hm (by simp) ?_
  clear h
  rw [wpC_seq, wpC_blk]
  refine goBox rfl fun w1 hb1 hm1 => ?_
  refine goAlloc fun w2 hb2 hm2 => ?_
  have hm12 := hm1.trans hm2
  have c1 := fun k => (hb1.mod hm2 (by simp)).cell k
  refine wpR_done ?_
  obtain ⟨lb, lc, elv⟩ := g2.shape
  rw [wpC_seq, wpC_seq, wpC_blk]
  have key : ∀ σ : Sl, σ 4 = .pointer (some ⟨w1.heap.size, 0, none⟩) → l[i]? = none → wpC P (.seq (.blk [⟨(some (15)), .build [.int .i64 0, .slice none 0 0, .bool false, .slice none 0 0, .slice none 0 0] [], none⟩,
      ⟨none, .st (.tmp 4) 5 (.tmp 15), none⟩]) .ret) (postC [.cells 4 5] fun e w' => ∃ cs, e = .returned (.agg cs.toArray) ∧ RepT anyB w' ((TR.mk n s tnull l u).at i) cs ∧ Mod [] w w') σ w2 := by
    intro σ h4 hn
    rw [wpC_seq, wpC_blk]
    refine go1 (v := .agg tzero.toArray) rfl rfl ?_
    refine goSt (b := w1.heap.size) (v := .agg tzero.toArray) (by simp [h4]) (by simp) hb2 rfl rfl (by simp [tzero, Value.oneCell']) fun w3 hb3 hm3 => ?_
    refine wpR_done (retN (by simpa using h4) hb3 rfl ⟨_, rfl, ?_, ?_⟩)
    · have : (TR.mk n s tnull l u).at i = TR.zero := by simp [TR.at, TR.l, hn]
      rw [this]; exact RepT.zero
    · exact Mod.drop (b := w1.heap.size) (S := []) (hm12.nil.trans hm3) hm1.size
  iterate 4 (apply go1 rfl; (· simp [c1, elv] <;> rfl))
  refine go1 (v := .bool (decide ((i : Int) < l.length))) rfl (by simp) ?_
  refine wpR_done ?_
  by_cases hi : i < l.length
  · rw [wpC_cond_t (by simp [hi]), wpC_seq, wpC_blk]
    obtain ⟨t', ht'⟩ : ∃ t', l[i]? = some t' := ⟨l[i], by simp [hi]⟩
    obtain ⟨cs, hcs, hrep⟩ := g3.nth ht'
    obtain ⟨a, c, ea, hj, hcell⟩ := g2.flat (g3.length) (g3.five) hcs
    have hcell2 : cellsAt w2 (a.add (i * 5)) 0 5 = some cs := cellsAt_below hm12.below _ _ _ hcell
    rw [elv] at ea
    simp only [Value.slice.injEq, true_and] at ea
    obtain ⟨ea, ec⟩ := ea
    subst ea
    iterate 3 (apply go1 rfl; (· simp [c1, elv] <;> rfl))
    refine go1 (v := .pointer (some (a.add (i * 5)))) rfl (by simp [hi]) ?_
    refine go1 (v := .agg cs.toArray) rfl (by simp [hcell2]) ?_
    refine goSt (b := w1.heap.size) (v := .agg cs.toArray) (by simp) (by simp) hb2 (by simp [hrep.five]) rfl (by simpa using hrep.oneCell) fun w3 hb3 hm3 => ?_
    have hm123 : Mod [] w w3 := Mod.drop (b := w1.heap.size) (S := []) (hm12.nil.trans hm3) hm1.size
    refine wpR_done (retThen (retN (cs := cs) (b := w1.heap.size) (by simp) (by simpa using hb3) hrep.five ⟨cs, rfl, ?_, hm123⟩))
    have : (TR.mk n s tnull l u).at i = t' := by simp [TR.at, TR.l, ht']
    rw [this]
    exact hrep.keep hm123
  · rw [wpC_cond_f (by simp; omega), wpC_skip]
    exact key _ (by simp) (by simp; omega)
end
end Go.Msk

namespace Go.Msk
open Go.RowKit
set_option maxRecDepth 100000
def AppK (P : Program) (f : FuncId) (V : World → Value → Prop) (enc : List UInt8) : Prop :=
  ∀ (w0 w : World) (dv v : Value) (l : List UInt8), Mod [] w0 w → DRaw w w0.heap.size dv l → l.length + enc.length ≤ lim → V w0 v →
    Calls P f [dv, v].toArray w fun e w' => ∃ dv', e = .returned dv' ∧ DRaw w' w0.heap.size dv' (l ++ enc) ∧ Mod [] w0 w'
theorem AppC.k {P : Program} {f : FuncId} {V : World → Value → Prop} {enc : List UInt8} (h : AppC P f V enc) (hV : ∀ w w' v, V w v → V w' v) : AppK P f V enc :=
  fun w0 w dv v l hm hd hl hv => (h w0.heap.size w dv v l hd hm.size hl (hV _ _ _ hv)).mono fun _ _ ⟨dv', e, ha⟩ => ⟨dv', e, ha.raw, ha.mod0 hd hm⟩
section
variable {P : Program} {F : Nat → Nat}
attribute [local simp] gOk updo upd ev RK.val? isShift intBin Addr.add_mk args0 Value.cells undef
theorem kAppendUuid_call (hm : P.follows .mixedOrders = true) (h : liftF P (F kAppendUuid) = some (ir_kAppendUuid F)) {u : List UInt8} (hu : u.length = 16) : AppK P (F kAppendUuid) (fun _ v => v = .agg (u8s u).toArray) u := by
  intro w0 w dv v l hm0 hd hlen hv
  subst hv
  unfold ir_kAppendUuid at h
  refine call_of h hm (by simp) ?_
  clear h
  rw [wpC_seq, wpC_blk]
  refine goBox rfl fun w1 hb1 hm1 => ?_
  have hb1 : Blk w1 w.heap.size (u8s u) := by simpa using hb1
  refine go1 rfl rfl (wpR_done ?_)
  rw [wpC_seq, wpC_blk]
  refine go1 (v := dv) rfl (by simp) ?_
  refine go1 (v := .slice (some ⟨w.heap.size, 0, none⟩) 16 16) rfl (by simp) ?_
  have hr := hd.mod hm1 (by simp)
  refine goC rfl ?_
  refine append_run (n0 := w0.heap.size) (v := dv) (by simp) hr (hm0.trans hm1).size (k := u) (by
    simp only [ev, updo, upd, if_true, srcCells, Nat.mul_one]
    rw [cellsAt_of' hb1.cells (by rw [u8s_length, hu]), hu]; rfl) hlen fun v' w2 ha => ?_
  exact go1 (v := v') rfl (by simp) (wpR_done (ret1 (v := v') (by simp) ⟨v', rfl, ha.raw, ha.mod0 hr (hm0.trans hm1)⟩))
theorem put_tail {t : Nat} {w0 w : World} {σ : Sl} {dv v : Value} {l k : List UInt8} {N : Sl → World → Prop} {Q : Exit → Sl → World → Prop} (h1 : σ 0 = dv) (h2 : σ 1 = v) (ht : 4 < t) (hm0 : Mod [] w0 w) (hd : DRaw w w0.heap.size dv l)
    (hs : srcCells w 1 v = some (k.length, u8s k)) (hl : l.length + k.length ≤ lim) (hN : ∀ σ' w' v', σ' 4 = v' → DRaw w' w0.heap.size v' (l ++ k) → Mod [] w0 w' → N σ' w') :
    wpR P [⟨some t, .mv (.tmp 0), none⟩, ⟨some (t + 1), .mv (.tmp 1), none⟩, ⟨some (t + 2), .append (.tmp t) (.tmp (t + 1)) 1 1, none⟩, ⟨some 4, .mv (.tmp (t + 2)), none⟩] σ w (thenC N Q .normal) := by
  refine go1 (v := dv) rfl (congrArg some h1) ?_
  refine go1 (v := v) rfl (by simp only [RK.val?, ev, updo, upd]; rw [if_neg (by omega), h2]) ?_
  refine goC rfl ?_
  refine append_run (n0 := w0.heap.size) (v := dv) (by simp only [ev, updo, upd]; rw [if_neg (by omega)]; simp) hd hm0.size (k := k) (by simp only [ev, updo, upd, if_true]; exact hs) hl fun v' w2 ha => ?_
  refine go1 (v := v') rfl (by simp only [RK.val?, ev, updo, upd, if_true]) (wpR_done ?_)
  exact hN _ w2 v' (by simp) ha.raw (ha.mod0 hd hm0)
theorem slen_str (l : List UInt8) : (⟨l.toArray⟩ : ByteArray).size = l.length := by simp [ByteArray.size]
theorem str_src (w : World) (l : List UInt8) : srcCells w 1 (str l) = some (l.length, u8s l) := by simp [srcCells, str, ByteArray.size]
theorem kAppendString_call (hm : P.follows .mixedOrders = true) (h : liftF P (F kAppendString) = some (ir_kAppendString F)) (h1 : liftF P (F kAppendInt16) = some (ir_kAppendInt16 F)) (h2 : liftF P (F kAppendUint16) = some (ir_kAppendUint16 F)) {s : List UInt8} :
    AppK P (F kAppendString) (fun _ v => v = str s) (beI 2 s.length ++ s) := by
  intro w0 w dv v l hm0 hd hlen hv
  subst hv
  unfold ir_kAppendString at h
  refine call_of h hm (by simp) ?_
  clear h
  simp only [List.length_append] at hlen
  rw [wpC_seq, wpC_blk]
  refine go1 rfl rfl (wpR_done ?_)
  rw [wpC_seq, wpC_blk]
  refine go1 (v := dv) rfl (by simp) ?_
  refine go1 (v := str s) rfl (by simp) ?_
  refine go1 (v := .int .i64 (s.length : Nat)) rfl (by simp [str, slen_str]) ?_
  refine go1 (v := .int .i16 (IntKind.i16.wrap s.length)) rfl (by simp) ?_
  refine goCall rfl (vs := [dv, .int .i16 (IntKind.i16.wrap s.length)]) (by simp) ((AppC.k (kAppendInt16_call (n := IntKind.i16.wrap s.length) hm h1 h2) fun _ _ _ h => h) w0 w dv _ l hm0 hd (by rw [beI_length]; rw [beI_length] at hlen; omega) rfl) ?_
  rintro e w1 ⟨dv1, rfl, hd1, hm1⟩
  have eb : beI 2 (IntKind.i16.wrap s.length) = beI 2 s.length := beI_mod 2 _ _ (by simp only [IntKind.wrap, IntKind.bits, IntKind.signed]; simp; omega)
  rw [eb] at hd1
  refine ⟨dv1, rfl, go1 (v := dv1) rfl (by simp) (wpR_done ?_)⟩
  rw [wpC_seq, wpC_blk]
  refine put_tail (t := 10) (v := str s) (by simp) (by simp) (by omega) hm1 hd1 (str_src _ _) (by simp only [List.length_append]; omega) fun σ' w' v' h4 hd' hm' => ?_
  exact ret1 h4 ⟨v', rfl, by simpa [List.append_assoc] using hd', hm'⟩
theorem one_add_u32 {n : Nat} (h : n < 4294967295) : intBin .add .u32 1 (IntKind.u32.wrap (n : Int)) = some (.int .u32 ((n + 1 : Nat) : Int)) := by
  simp only [intBin]
  rw [u32_nat (by omega), show (1 : Int) + (n : Int) = ((n + 1 : Nat) : Int) by omega, u32_nat (by omega)]
theorem kAppendCompactString_call (hm : P.follows .mixedOrders = true) (h : liftF P (F kAppendCompactString) = some (ir_kAppendCompactString F)) (h1 : liftF P (F kAppendUvarint) = some (ir_kAppendUvarint F)) (h2 : liftF P (F kUvarintLen) = some (ir_kUvarintLen F)) (h3 : liftF P (F bLen32) = some (ir_bLen32 F)) {s : List UInt8} (hs : s.length < 4294967295) :
    AppK P (F kAppendCompactString) (fun _ v => v = str s) (uvE (s.length + 1) ++ s) := by
  intro w0 w dv v l hm0 hd hlen hv
  subst hv
  unfold ir_kAppendCompactString at h
  refine call_of h hm (by simp) ?_
  clear h
  simp only [List.length_append] at hlen
  rw [wpC_seq, wpC_blk]
  refine go1 rfl rfl (wpR_done ?_)
  rw [wpC_seq, wpC_blk]
  refine go1 (v := dv) rfl (by simp) ?_
  refine go1 (v := str s) rfl (by simp) ?_
  refine go1 (v := .int .i64 (s.length : Nat)) rfl (by simp [str, slen_str]) ?_
  refine go1 (v := .int .u32 (IntKind.u32.wrap s.length)) rfl (by simp) ?_
  refine go1 (v := .int .u32 ((s.length + 1 : Nat) : Int)) rfl (by simp only [RK.val?, ev, updo, upd, if_true, isShift, decide_true, Bool.or_true, one_add_u32 hs]) ?_
  refine goCall rfl (vs := [dv, .int .u32 ((s.length + 1 : Nat) : Int)]) (by simp) ((AppC.k (kAppendUvarint_call (n := s.length + 1) hm h1 h2 h3 (by omega)) fun _ _ _ h => h) w0 w dv _ l hm0 hd (by omega) rfl) ?_
  rintro e w1 ⟨dv1, rfl, hd1, hm1⟩
  refine ⟨dv1, rfl, go1 (v := dv1) rfl (by simp) (wpR_done ?_)⟩
  rw [wpC_seq, wpC_blk]
  refine put_tail (t := 11) (v := str s) (by simp) (by simp) (by omega) hm1 hd1 (str_src _ _) (by simp only [List.length_append]; omega) fun σ' w' v' h4 hd' hm' => ?_
  exact ret1 h4 ⟨v', rfl, by simpa [List.append_assoc] using hd', hm'⟩
def NStr (o : Option (List UInt8)) (w : World) (v : Value) : Prop :=
  match o with
  | none => v = .pointer none
  | some s => ∃ a, v = .pointer (some a) ∧ w.cell? a = some (str s)
def encNStr (x : Bool) : Option (List UInt8) → List UInt8
  | none => if x then [0] else beI 2 (-1)
  | some s => if x then uvE (s.length + 1) ++ s else beI 2 s.length ++ s
theorem kAppendNullableString_call (hm : P.follows .mixedOrders = true) (h : liftF P (F kAppendNullableString) = some (ir_kAppendNullableString F)) (h0 : liftF P (F kAppendString) = some (ir_kAppendString F)) (h1 : liftF P (F kAppendInt16) = some (ir_kAppendInt16 F)) (h2 : liftF P (F kAppendUint16) = some (ir_kAppendUint16 F)) {o : Option (List UInt8)} :
    AppK P (F kAppendNullableString) (NStr o) (encNStr false o) := by
  intro w0 w dv v l hm0 hd hlen hv
  unfold ir_kAppendNullableString at h
  refine call_of h hm (by simp) ?_
  clear h
  rw [wpC_seq, wpC_blk]
  refine go1 rfl rfl (wpR_done ?_)
  rw [wpC_seq, wpC_seq, wpC_blk]
  cases o with
  | none =>
    have hv : v = .pointer none := hv
    subst hv
    refine go1 (v := .pointer none) rfl (by simp) ?_
    refine go1 (v := .bool true) rfl (by simp) (wpR_done ?_)
    rw [wpC_cond_t (by simp), wpC_seq, wpC_blk]
    refine go1 (v := dv) rfl (by simp) ?_
    refine goCall rfl (vs := [dv, .int .i16 (-1)]) (by simp) ((AppC.k (kAppendInt16_call (n := -1) hm h1 h2) fun _ _ _ h => h) w0 w dv _ l hm0 hd (by simpa [encNStr] using hlen) rfl) ?_
    rintro e w1 ⟨dv1, rfl, hd1, hm1⟩
    refine ⟨dv1, rfl, go1 (v := dv1) rfl (by simp) (wpR_done ?_)⟩
    repeat first | refine retThen ?_ | refine retBlk ?_
    exact ret1 (v := dv1) (by simp) ⟨dv1, rfl, by simpa [encNStr] using hd1, hm1⟩
  | some s =>
    obtain ⟨a, rfl, hc⟩ := hv
    have hc := cell_mod hc hm0 (by simp)
    refine go1 (v := .pointer (some a)) rfl (by simp) ?_
    refine go1 (v := .bool false) rfl (by simp) (wpR_done ?_)
    rw [wpC_cond_f (by simp), wpC_skip]
    simp only [thenC]
    rw [wpC_seq, wpC_blk]
    refine go1 (v := dv) rfl (by simp) ?_
    refine go1 (v := .pointer (some a)) rfl (by simp) ?_
    refine go1 (v := .pointer (some a)) rfl (by simp) ?_
    refine go1 (v := str s) rfl (by simp [hc]) ?_
    refine goCall rfl (vs := [dv, str s]) (by simp) (kAppendString_call hm h0 h1 h2 w0 w dv _ l hm0 hd (by simpa [encNStr] using hlen) rfl) ?_
    rintro e w1 ⟨dv1, rfl, hd1, hm1⟩
    exact ⟨dv1, rfl, go1 (v := dv1) rfl (by simp) (wpR_done (ret1 (v := dv1) (by simp) ⟨dv1, rfl, by simpa [encNStr] using hd1, hm1⟩))⟩
theorem kAppendCompactNullableString_call (hm : P.follows .mixedOrders = true) (h : liftF P (F kAppendCompactNullableString) = some (ir_kAppendCompactNullableString F)) (h0 : liftF P (F kAppendCompactString) = some (ir_kAppendCompactString F)) (h1 : liftF P (F kAppendUvarint) = some (ir_kAppendUvarint F)) (h2 : liftF P (F kUvarintLen) = some (ir_kUvarintLen F)) (h3 : liftF P (F bLen32) = some (ir_bLen32 F))
    {o : Option (List UInt8)} (ho : ∀ s, o = some s → s.length < 4294967295) : AppK P (F kAppendCompactNullableString) (NStr o) (encNStr true o) := by
  intro w0 w dv v l hm0 hd hlen hv
  unfold ir_kAppendCompactNullableString at h
  refine call_of h hm (by simp) ?_
  clear h
  rw [wpC_seq, wpC_blk]
  refine go1 rfl rfl (wpR_done ?_)
  rw [wpC_seq, wpC_seq, wpC_blk]
  cases o with
  | none =>
    have hv : v = .pointer none := hv
    subst hv
    have e0 : uvE 0 = [0] := by rw [uvE_small (by omega)]; rfl
    refine go1 (v := .pointer none) rfl (by simp) ?_
    refine go1 (v := .bool true) rfl (by simp) (wpR_done ?_)
    rw [wpC_cond_t (by simp), wpC_seq, wpC_blk]
    refine go1 (v := dv) rfl (by simp) ?_
    refine goCall rfl (vs := [dv, .int .u32 ((0 : Nat) : Int)]) (by simp) ((AppC.k (kAppendUvarint_call (n := 0) hm h1 h2 h3 (by omega)) fun _ _ _ h => h) w0 w dv _ l hm0 hd (by rw [e0]; simpa [encNStr] using hlen) rfl) ?_
    rintro e w1 ⟨dv1, rfl, hd1, hm1⟩
    refine ⟨dv1, rfl, go1 (v := dv1) rfl (by simp) (wpR_done ?_)⟩
    repeat first | refine retThen ?_ | refine retBlk ?_
    exact ret1 (v := dv1) (by simp) ⟨dv1, rfl, by rw [e0] at hd1; simpa [encNStr] using hd1, hm1⟩
  | some s =>
    obtain ⟨a, rfl, hc⟩ := hv
    have hc := cell_mod hc hm0 (by simp)
    refine go1 (v := .pointer (some a)) rfl (by simp) ?_
    refine go1 (v := .bool false) rfl (by simp) (wpR_done ?_)
    rw [wpC_cond_f (by simp), wpC_skip]
    simp only [thenC]
    rw [wpC_seq, wpC_blk]
    refine go1 (v := dv) rfl (by simp) ?_
    refine go1 (v := .pointer (some a)) rfl (by simp) ?_
    refine go1 (v := .pointer (some a)) rfl (by simp) ?_
    refine go1 (v := str s) rfl (by simp [hc]) ?_
    refine goCall rfl (vs := [dv, str s]) (by simp) (kAppendCompactString_call hm h0 h1 h2 h3 (ho s rfl) w0 w dv _ l hm0 hd (by simpa [encNStr] using hlen) rfl) ?_
    rintro e w1 ⟨dv1, rfl, hd1, hm1⟩
    exact ⟨dv1, rfl, go1 (v := dv1) rfl (by simp) (wpR_done (ret1 (v := dv1) (by simp) ⟨dv1, rfl, by simpa [encNStr] using hd1, hm1⟩))⟩
theorem kAppendBytes_call (hm : P.follows .mixedOrders = true) (h : liftF P (F kAppendBytes) = some (ir_kAppendBytes F)) (h1 : liftF P (F kAppendInt32) = some (ir_kAppendInt32 F)) (h2 : liftF P (F kAppendUint32) = some (ir_kAppendUint32 F)) {s : List UInt8} :
    AppK P (F kAppendBytes) (fun w v => SlC anyB w v s.length (u8s s)) (beI 4 s.length ++ s) := by
  intro w0 w dv v l hm0 hd hlen hv
  unfold ir_kAppendBytes at h
  refine call_of h hm (by simp) ?_
  clear h
  simp only [List.length_append] at hlen
  obtain ⟨vb, vc, ev'⟩ := hv.shape
  rw [wpC_seq, wpC_blk]
  refine go1 rfl rfl (wpR_done ?_)
  rw [wpC_seq, wpC_blk]
  refine go1 (v := dv) rfl (by simp) ?_
  refine go1 (v := v) rfl (by simp) ?_
  refine go1 (v := .int .i64 (s.length : Nat)) rfl (by simp [ev']) ?_
  refine go1 (v := .int .i32 (IntKind.i32.wrap s.length)) rfl (by simp) ?_
  refine goCall rfl (vs := [dv, .int .i32 (IntKind.i32.wrap s.length)]) (by simp) ((AppC.k (kAppendInt32_call (n := IntKind.i32.wrap s.length) hm h1 h2) fun _ _ _ h => h) w0 w dv _ l hm0 hd (by rw [beI_length]; rw [beI_length] at hlen; omega) rfl) ?_
  rintro e w1 ⟨dv1, rfl, hd1, hm1⟩
  have eb : beI 4 (IntKind.i32.wrap s.length) = beI 4 s.length := beI_mod 4 _ _ (by simp only [IntKind.wrap, IntKind.bits, IntKind.signed]; simp; omega)
  rw [eb] at hd1
  refine ⟨dv1, rfl, go1 (v := dv1) rfl (by simp) (wpR_done ?_)⟩
  rw [wpC_seq, wpC_blk]
  refine put_tail (t := 10) (v := v) (by simp) (by simp) (by omega) hm1 hd1 (hv.keep hm1).src (by simp only [List.length_append]; omega) fun σ' w' v' h4 hd' hm' => ?_
  exact ret1 h4 ⟨v', rfl, by simpa [List.append_assoc] using hd', hm'⟩
theorem kAppendCompactBytes_call (hm : P.follows .mixedOrders = true) (h : liftF P (F kAppendCompactBytes) = some (ir_kAppendCompactBytes F)) (h1 : liftF P (F kAppendUvarint) = some (ir_kAppendUvarint F)) (h2 : liftF P (F kUvarintLen) = some (ir_kUvarintLen F)) (h3 : liftF P (F bLen32) = some (ir_bLen32 F)) {s : List UInt8} (hs : s.length < 4294967295) :
    AppK P (F kAppendCompactBytes) (fun w v => SlC anyB w v s.length (u8s s)) (uvE (s.length + 1) ++ s) := by
  intro w0 w dv v l hm0 hd hlen hv
  unfold ir_kAppendCompactBytes at h
  refine call_of h hm (by simp) ?_
  clear h
  simp only [List.length_append] at hlen
  obtain ⟨vb, vc, ev'⟩ := hv.shape
  rw [wpC_seq, wpC_blk]
  refine go1 rfl rfl (wpR_done ?_)
  rw [wpC_seq, wpC_blk]
  refine go1 (v := dv) rfl (by simp) ?_
  refine go1 (v := v) rfl (by simp) ?_
  refine go1 (v := .int .i64 (s.length : Nat)) rfl (by simp [ev']) ?_
  refine go1 (v := .int .u32 (IntKind.u32.wrap s.length)) rfl (by simp) ?_
  refine go1 (v := .int .u32 ((s.length + 1 : Nat) : Int)) rfl (by simp only [RK.val?, ev, updo, upd, if_true, isShift, decide_true, Bool.or_true, one_add_u32 hs]) ?_
  refine goCall rfl (vs := [dv, .int .u32 ((s.length + 1 : Nat) : Int)]) (by simp) ((AppC.k (kAppendUvarint_call (n := s.length + 1) hm h1 h2 h3 (by omega)) fun _ _ _ h => h) w0 w dv _ l hm0 hd (by omega) rfl) ?_
  rintro e w1 ⟨dv1, rfl, hd1, hm1⟩
  refine ⟨dv1, rfl, go1 (v := dv1) rfl (by simp) (wpR_done ?_)⟩
  rw [wpC_seq, wpC_blk]
  refine put_tail (t := 11) (v := v) (by simp) (by simp) (by omega) hm1 hd1 (hv.keep hm1).src (by simp only [List.length_append]; omega) fun σ' w' v' h4 hd' hm' => ?_
  exact ret1 h4 ⟨v', rfl, by simpa [List.append_assoc] using hd', hm'⟩
theorem kAppendCompactArrayLen_call (hm : P.follows .mixedOrders = true) (h : liftF P (F kAppendCompactArrayLen) = some (ir_kAppendCompactArrayLen F)) (h1 : liftF P (F kAppendUvarint) = some (ir_kAppendUvarint F)) (h2 : liftF P (F kUvarintLen) = some (ir_kUvarintLen F)) (h3 : liftF P (F bLen32) = some (ir_bLen32 F)) {n : Nat} (hs : n < 4294967295) :
    AppK P (F kAppendCompactArrayLen) (fun _ v => v = .int .i64 (n : Nat)) (uvE (n + 1)) := by
  intro w0 w dv v l hm0 hd hlen hv
  subst hv
  unfold ir_kAppendCompactArrayLen at h
  refine call_of h hm (by simp) ?_
  clear h
  rw [wpC_seq, wpC_blk]
  refine go1 rfl rfl (wpR_done ?_)
  rw [wpC_seq, wpC_blk]
  refine go1 (v := dv) rfl (by simp) ?_
  refine go1 (v := .int .i64 (n : Nat)) rfl (by simp) ?_
  refine go1 (v := .int .u32 (IntKind.u32.wrap n)) rfl (by simp) ?_
  refine go1 (v := .int .u32 ((n + 1 : Nat) : Int)) rfl (by simp only [RK.val?, ev, updo, upd, if_true, isShift, decide_true, Bool.or_true, one_add_u32 hs]) ?_
  refine goCall rfl (vs := [dv, .int .u32 ((n + 1 : Nat) : Int)]) (by simp) ((AppC.k (kAppendUvarint_call (n := n + 1) hm h1 h2 h3 (by omega)) fun _ _ _ h => h) w0 w dv _ l hm0 hd hlen rfl) ?_
  rintro e w1 ⟨dv1, rfl, hd1, hm1⟩
  exact ⟨dv1, rfl, go1 (v := dv1) rfl (by simp) (wpR_done (ret1 (v := dv1) (by simp) ⟨dv1, rfl, hd1, hm1⟩))⟩
def AppN (P : Program) (f : FuncId) (n : Nat) (null : Bool) (enc : List UInt8) : Prop :=
  ∀ (w0 w : World) (dv : Value) (l : List UInt8), Mod [] w0 w → DRaw w w0.heap.size dv l → l.length + enc.length ≤ lim →
    Calls P f [dv, .int .i64 (n : Nat), .bool null].toArray w fun e w' => ∃ dv', e = .returned dv' ∧ DRaw w' w0.heap.size dv' (l ++ enc) ∧ Mod [] w0 w'
theorem kAppendNullableArrayLen_call (hm : P.follows .mixedOrders = true) (h : liftF P (F kAppendNullableArrayLen) = some (ir_kAppendNullableArrayLen F)) (h1 : liftF P (F kAppendInt32) = some (ir_kAppendInt32 F)) (h2 : liftF P (F kAppendUint32) = some (ir_kAppendUint32 F)) {n : Nat} {null : Bool} :
    AppN P (F kAppendNullableArrayLen) n null (if null then beI 4 (-1) else beI 4 n) := by
  intro w0 w dv l hm0 hd hlen
  unfold ir_kAppendNullableArrayLen at h
  refine call_of h hm (by simp) ?_
  clear h
  rw [wpC_seq, wpC_blk]
  refine go1 rfl rfl (wpR_done ?_)
  rw [wpC_seq, wpC_seq, wpC_blk]
  refine go1 (v := .bool null) rfl (by simp) (wpR_done ?_)
  cases null with
  | true =>
    simp only [if_true] at hlen ⊢
    rw [wpC_cond_t (by simp), wpC_seq, wpC_blk]
    refine go1 (v := dv) rfl (by simp) ?_
    refine goCall rfl (vs := [dv, .int .i32 (-1)]) (by simp) ((AppC.k (kAppendInt32_call (n := -1) hm h1 h2) fun _ _ _ h => h) w0 w dv _ l hm0 hd hlen rfl) ?_
    rintro e w1 ⟨dv1, rfl, hd1, hm1⟩
    refine ⟨dv1, rfl, go1 (v := dv1) rfl (by simp) (wpR_done ?_)⟩
    repeat first | refine retThen ?_ | refine retBlk ?_
    exact ret1 (v := dv1) (by simp) ⟨dv1, rfl, hd1, hm1⟩
  | false =>
    simp only [Bool.false_eq_true, if_false] at hlen ⊢
    rw [wpC_cond_f (by simp), wpC_skip]
    simp only [thenC]
    rw [wpC_seq, wpC_blk]
    refine go1 (v := dv) rfl (by simp) ?_
    refine go1 (v := .int .i64 (n : Nat)) rfl (by simp) ?_
    refine go1 (v := .int .i32 (IntKind.i32.wrap n)) rfl (by simp) ?_
    refine goCall rfl (vs := [dv, .int .i32 (IntKind.i32.wrap n)]) (by simp) ((AppC.k (kAppendInt32_call (n := IntKind.i32.wrap n) hm h1 h2) fun _ _ _ h => h) w0 w dv _ l hm0 hd (by rw [beI_length]; rw [beI_length] at hlen; omega) rfl) ?_
    rintro e w1 ⟨dv1, rfl, hd1, hm1⟩
    have eb : beI 4 (IntKind.i32.wrap n) = beI 4 n := beI_mod 4 _ _ (by simp only [IntKind.wrap, IntKind.bits, IntKind.signed]; simp; omega)
    rw [eb] at hd1
    exact ⟨dv1, rfl, go1 (v := dv1) rfl (by simp) (wpR_done (ret1 (v := dv1) (by simp) ⟨dv1, rfl, hd1, hm1⟩))⟩
theorem kAppendCompactNullableArrayLen_call (hm : P.follows .mixedOrders = true) (h : liftF P (F kAppendCompactNullableArrayLen) = some (ir_kAppendCompactNullableArrayLen F)) (h1 : liftF P (F kAppendUvarint) = some (ir_kAppendUvarint F)) (h2 : liftF P (F kUvarintLen) = some (ir_kUvarintLen F)) (h3 : liftF P (F bLen32) = some (ir_bLen32 F)) {n : Nat} {null : Bool} (hs : n < 4294967295) :
    AppN P (F kAppendCompactNullableArrayLen) n null (if null then [0] else uvE (n + 1)) := by
  intro w0 w dv l hm0 hd hlen
  unfold ir_kAppendCompactNullableArrayLen at h
  refine call_of h hm (by simp) ?_
  clear h
  rw [wpC_seq, wpC_blk]
  refine go1 rfl rfl (wpR_done ?_)
  rw [wpC_seq, wpC_seq, wpC_blk]
  refine go1 (v := .bool null) rfl (by simp) (wpR_done ?_)
  have e0 : uvE 0 = [0] := by rw [uvE_small (by omega)]; rfl
  cases null with
  | true =>
    simp only [if_true] at hlen ⊢
    rw [wpC_cond_t (by simp), wpC_seq, wpC_blk]
    refine go1 (v := dv) rfl (by simp) ?_
    refine goCall rfl (vs := [dv, .int .u32 ((0 : Nat) : Int)]) (by simp) ((AppC.k (kAppendUvarint_call (n := 0) hm h1 h2 h3 (by omega)) fun _ _ _ h => h) w0 w dv _ l hm0 hd (by rw [e0]; exact hlen) rfl) ?_
    rintro e w1 ⟨dv1, rfl, hd1, hm1⟩
    rw [e0] at hd1
    refine ⟨dv1, rfl, go1 (v := dv1) rfl (by simp) (wpR_done ?_)⟩
    repeat first | refine retThen ?_ | refine retBlk ?_
    exact ret1 (v := dv1) (by simp) ⟨dv1, rfl, hd1, hm1⟩
  | false =>
    simp only [Bool.false_eq_true, if_false] at hlen ⊢
    rw [wpC_cond_f (by simp), wpC_skip]
    simp only [thenC]
    rw [wpC_seq, wpC_blk]
    refine go1 (v := dv) rfl (by simp) ?_
    refine go1 (v := .int .i64 (n : Nat)) rfl (by simp) ?_
    refine go1 (v := .int .u32 (IntKind.u32.wrap n)) rfl (by simp) ?_
    refine go1 (v := .int .u32 ((n + 1 : Nat) : Int)) rfl (by simp only [RK.val?, ev, updo, upd, if_true, isShift, decide_true, Bool.or_true, one_add_u32 hs]) ?_
    refine goCall rfl (vs := [dv, .int .u32 ((n + 1 : Nat) : Int)]) (by simp) ((AppC.k (kAppendUvarint_call (n := n + 1) hm h1 h2 h3 (by omega)) fun _ _ _ h => h) w0 w dv _ l hm0 hd hlen rfl) ?_
    rintro e w1 ⟨dv1, rfl, hd1, hm1⟩
    exact ⟨dv1, rfl, go1 (v := dv1) rfl (by simp) (wpR_done (ret1 (v := dv1) (by simp) ⟨dv1, rfl, hd1, hm1⟩))⟩
end
end Go.Msk

namespace Go.Msk
open Go.RowKit
set_option maxRecDepth 100000
def u32v (k : Nat) : Value := .int .u32 k
theorem putObj_size (w : World) (r : Nat) (o : Obj) : (putObj w r o).heap.size = w.heap.size := by simp [putObj]
theorem putObj_other {w : World} {r k : Nat} {o : Obj} (h : k ≠ r) : (putObj w r o).heap[k]? = w.heap[k]? := by
  simp only [putObj]; exact Array.getElem?_setIfInBounds_ne (fun e => h e.symm)
theorem nodup_of_map {α β : Type} {f : α → β} {l : List α} (h : (l.map f).Nodup) : l.Nodup :=
  List.Pairwise.of_map f (fun _ _ hab e => hab (congrArg f e)) h
structure SeenL (es : Array MapEntry) (seen : Array Nat) (E : List MapEntry) : Prop where
  sub : ∀ e ∈ E, e ∈ es.toList
  nd : (E.map (·.born)).Nodup
  all : seen.toList = E.map (·.born)
theorem SeenL.push {es : Array MapEntry} {seen : Array Nat} {E : List MapEntry} {e : MapEntry} (h : SeenL es seen E) (he : e ∈ (leftOf es seen).toList) : SeenL es (seen.push e.born) (E ++ [e]) := by
  obtain ⟨h1, h2⟩ := mem_left he
  refine ⟨fun x hx => ?_, ?_, by simp [h.all]⟩
  · rcases List.mem_append.1 hx with hx | hx
    · exact h.sub x hx
    · simp only [List.mem_singleton] at hx; subst hx; exact h1
  · rw [List.map_append, List.nodup_append]
    refine ⟨h.nd, by simp, fun a ha b hb => ?_⟩
    simp only [List.map_cons, List.map_nil, List.mem_singleton] at hb
    subst hb
    intro e'
    subst e'
    rw [← h.all] at ha
    have : seen.contains e.born = true := by simpa using ha
    rw [this] at h2; simp at h2
theorem SeenL.perm {es : Array MapEntry} {seen : Array Nat} {E : List MapEntry} (h : SeenL es seen E) (hb : (es.toList.map (·.born)).Nodup) (h0 : (leftOf es seen).size = 0) : E.Perm es.toList := by
  have hE : E.Nodup := nodup_of_map h.nd
  have hes : es.toList.Nodup := nodup_of_map hb
  refine (List.perm_ext_iff_of_nodup hE hes).2 fun x => ⟨fun hx => h.sub x hx, fun hx => ?_⟩
  have hc := all_seen es seen h0 x hx
  have : x.born ∈ seen.toList := by simpa using hc
  rw [h.all] at this
  obtain ⟨y, hy, hyx⟩ := List.mem_map.1 this
  have := born_inj hb (h.sub y hy) hx hyx
  exact this ▸ hy
theorem SeenL.lt {es : Array MapEntry} {seen : Array Nat} {E : List MapEntry} {e : MapEntry} (h : SeenL es seen E) (_hb : (es.toList.map (·.born)).Nodup) (he : e ∈ (leftOf es seen).toList) : E.length < es.size := by
  have h2 := h.push he
  have hE : (E ++ [e]).Nodup := nodup_of_map h2.nd
  have := hE.length_le_of_subset (l₂ := es.toList) h2.sub
  simp only [List.length_append, List.length_cons, List.length_nil, Array.length_toList] at this
  omega
section
variable {P : Program} {F : Nat → Nat}
structure KeyS (w0 : World) (w : World) (σ : Sl) (it Bs B r n : Nat) (es : Array MapEntry) (clock : Nat) (E : List MapEntry) : Prop where
  s24 : σ 24 = .pointer (some ⟨it, 0, none⟩)
  s4 : σ 4 = .pointer (some ⟨Bs, 0, none⟩)
  map : w.heap[r]? = some (.map es clock)
  iter : ∃ seen, w.heap[it]? = some (.mapIter (some r) clock seen clock) ∧ SeenL es seen E
  cell : Blk w Bs [.slice (some ⟨B, 0, none⟩) E.length n]
  row : ∃ rest, Blk w B (E.map (·.key) ++ rest) ∧ E.length + rest.length = n
  fr : Mod [] w0 w
  ne1 : it ≠ Bs
  ne2 : it ≠ B
  ne3 : Bs ≠ B
  nr : r ≠ it ∧ r ≠ Bs ∧ r ≠ B
  hn : n = es.size
  old1 : w0.heap.size ≤ it
  old2 : w0.heap.size ≤ Bs
  old3 : w0.heap.size ≤ B
theorem each_loop1 {w0 w : World} {σ : Sl} {it Bs B r n : Nat} {es : Array MapEntry} {clock : Nat} {Q : Exit → Sl → World → Prop} (h : KeyS w0 w σ it Bs B r n es clock []) (hk : keysAre .u32 es) (hb : (es.toList.map (·.born)).Nodup) (hold : ∀ e ∈ es.toList, e.born < clock)
    (hQ : ∀ σ' w' E, (∀ j, j < 25 → j ≠ 5 → σ' j = σ j) → KeyS w0 w' σ' it Bs B r n es clock E → E.Perm es.toList → Q .normal σ' w') :
    wpC P (.block 0 (.loop (.seq (.blk [⟨some 25, .mnext (.tmp 24), none⟩, ⟨some 26, .ext (.tmp 25) 0, none⟩])
        (.seq (.cond (.tmp 26) .skip (.exit 0))
        (.block 1 (.seq (.blk [⟨some 27, .mentry (.tmp 24), none⟩, ⟨some 28, .ext (.tmp 27) 0, none⟩, ⟨some 5, .mv (.tmp 28), none⟩])
          (.blk [⟨some 29, .ld (.tmp 4), none⟩, ⟨some 30, .mv (.tmp 5), none⟩, ⟨some 31, .bslice 1 [.int .u32 0] [(0, 1, .tmp 30)], none⟩, ⟨some 32, .append (.tmp 29) (.tmp 31) 1 4, none⟩, ⟨none, .st (.tmp 4) 1 (.tmp 32), none⟩]))))))) Q σ w := by
  rw [wpC_block, wpC_loop]
  refine ⟨fun σ' w' => ∃ E, (∀ j, j < 25 → j ≠ 5 → σ' j = σ j) ∧ KeyS w0 w' σ' it Bs B r n es clock E, fun _ w' => (leftOf es (w'.iterSeen it)).size, ⟨[], fun _ _ _ => rfl, h⟩, ?_⟩
  rintro σ1 w1 ⟨E, ag, hS⟩
  obtain ⟨seen, hit, hE⟩ := hS.iter
  have hseen : w1.iterSeen it = seen := by unfold World.iterSeen; rw [hit]
  rw [wpC_seq, wpC_blk]
  refine wpR_run ?_
  simp only [RK.run, ev, hS.s24, hit, hS.map]
  refine ⟨hold, Nat.le_refl _, fun h0 => ?_, fun e he w2 hw2 => ?_⟩
  · -- no entry is left
    refine wpR_step (v := .bool false) (by simp only [RK.val?, ev, updo, upd, if_true]; rfl) ?_
    refine wpR_done ?_
    rw [wpC_seq, wpC_cond_f rfl]
    refine wpC_exit_out3 ?_
    refine hQ _ w1 E (fun j hj h5 => ?_) ?_ (hE.perm hb h0)
    · simp only [updo, upd, show j ≠ 26 by omega, show j ≠ 25 by omega, if_false]; exact ag j hj h5
    · exact { hS with s24 := by simp [updo, upd, hS.s24], s4 := by simp [updo, upd, hS.s4] }
  · -- an entry
    have hsz2 : w2.heap = w1.heap := by rcases hw2 with rfl | rfl <;> rfl
    have hm2 : Mod [] w1 w2 := by
      rcases hw2 with rfl | rfl
      · exact Mod.refl _ _
      · exact Mod.drew _ _
    have hitl : it < w2.heap.size := by rw [hsz2]; exact (Array.getElem?_eq_some_iff.1 hit).1
    refine wpR_step (v := .bool true) (by simp only [RK.val?, ev, updo, upd, if_true]; rfl) ?_
    refine wpR_done ?_
    rw [wpC_seq, wpC_cond_t rfl, wpC_skip]
    simp only [thenC]
    rw [wpC_block, wpC_seq, wpC_blk]
    have hpm : Mod [it] w2 (putObj w2 it (.mapIter (some r) clock (seen.push e.born) clock)) := Mod.putObj (by simp)
    have hget : (putObj w2 it (.mapIter (some r) clock (seen.push e.born) clock)).heap[it]? = some (.mapIter (some r) clock (seen.push e.born) clock) := putObj_get hitl
    have hmp : (putObj w2 it (.mapIter (some r) clock (seen.push e.born) clock)).heap[r]? = some (.map es clock) := by
      rw [putObj_other hS.nr.1, hsz2]; exact hS.map
    obtain ⟨rest, hrow, hlen⟩ := hS.row
    have hcell := (hS.cell.mod hm2 (by simp)).mod hpm (by simpa using hS.ne1.symm)
    have hrow := (hrow.mod hm2 (by simp)).mod hpm (by simpa using hS.ne2.symm)
    have hpsz : (putObj w2 it (.mapIter (some r) clock (seen.push e.born) clock)).heap.size = w2.heap.size := putObj_size _ _ _
    have hm3 : Mod [it] w1 (putObj w2 it (.mapIter (some r) clock (seen.push e.born) clock)) := hm2.nil.trans hpm
    generalize hw3 : putObj w2 it (.mapIter (some r) clock (seen.push e.born) clock) = w3 at hpm hget hmp hcell hrow hpsz hm3 ⊢
    obtain ⟨k, hkk⟩ := hk e (mem_left he).1
    have hlt := hE.lt hb he
    have hnn := hS.hn
    refine wpR_run ?_
    simp only [RK.run, ev, updo, upd, show (24 : Nat) ≠ 26 by decide, show (24 : Nat) ≠ 25 by decide, if_false, hS.s24, hget, hmp]
    refine ⟨trivial, e, (mem_left he).1, hb, by simp, ?_⟩
    refine wpR_step (v := e.key) (by simp only [RK.val?, ev, upd, if_true]; rfl) ?_
    refine wpR_step (v := e.key) (by simp only [RK.val?, ev, updo, upd, if_true]) ?_
    refine wpR_done ?_
    rw [wpC_blk]
    refine wpR_step (v := .slice (some ⟨B, 0, none⟩) E.length n) (by simp only [RK.val?, ev, updo, upd]; simp [hS.s4, hcell.cell]) ?_
    refine wpR_step (v := e.key) (by simp only [RK.val?, ev, updo, upd]; simp) ?_
    refine wpR_run ?_
    have hkc : e.key.cells = #[e.key] := by rw [hkk]; rfl
    have hko : e.key.oneCell' = true := by rw [hkk]; rfl
    simp only [RK.run, List.map_cons, List.map_nil, ev, updo, upd, if_true, zrep, List.replicate_succ, List.replicate_zero, List.flatten_cons, List.flatten_nil, List.append_nil, fillL, hkc]
    have hspl : splice [Value.int .u32 0] 0 [e.key] = [e.key] := splice_all rfl
    simp only [List.size_toArray, List.length_cons, List.length_nil, Nat.zero_add, Nat.le_refl, and_self, if_true, hspl]
    intro Tn
    have bA := Blk.new w3 [e.key] Tn
    have mA : Mod [] w3 (w3.alloc (.cells [e.key].toArray Tn)) := Mod.alloc _ _ _
    have zA : (w3.alloc (.cells [e.key].toArray Tn)).heap.size = w3.heap.size + 1 := by simp
    have hcell4 := hcell.mod mA (by simp)
    have hrow4 := hrow.mod mA (by simp)
    have hget4 : (w3.alloc (.cells [e.key].toArray Tn)).heap[it]? = some (.mapIter (some r) clock (seen.push e.born) clock) := by rw [mA.block it (by omega) (by simp)]; exact hget
    have hrl : r < w3.heap.size := (Array.getElem?_eq_some_iff.1 hmp).1
    have hmp4 : (w3.alloc (.cells [e.key].toArray Tn)).heap[r]? = some (.map es clock) := by rw [mA.block r hrl (by simp)]; exact hmp
    generalize w3.alloc (.cells [e.key].toArray Tn) = w4 at bA mA zA hcell4 hrow4 hget4 hmp4 ⊢
    refine wpR_run ?_
    have hsrc : srcCells w4 1 (.slice (some ⟨w3.heap.size, 0, none⟩) 1 1) = some (1, [e.key]) := by
      simp only [srcCells, Nat.mul_one]
      rw [cellsAt_of' bA.cells (n := 1) rfl]; rfl
    simp only [RK.run, ev, updo, upd, show (29 : Nat) ≠ 31 by decide, show (29 : Nat) ≠ 30 by decide, if_false, if_true, hsrc, appendRun]
    rw [if_pos (by omega)]
    simp only [Addr.add_mk, Nat.zero_add, Nat.mul_one]
    obtain ⟨x, rest', rfl⟩ : ∃ x r', rest = x :: r' := by cases rest with | nil => simp at hlen; omega | cons x r' => exact ⟨x, r', rfl⟩
    simp only [List.length_cons] at hlen
    refine ⟨stOk_one hrow4 (by simp) hko, ?_⟩
    have hput : Mod [B] w4 (putCells w4 ⟨B, E.length, none⟩ 0 [e.key]) := Mod.put (by simp)
    have hp := hrow4.put (o := E.length) (vs := [e.key]) (by simp)
    have hsp2 : splice (E.map (·.key) ++ x :: rest') E.length [e.key] = (E ++ [e]).map (·.key) ++ rest' := by
      have h1 : (E.map (·.key) ++ x :: rest').take E.length = E.map (·.key) := List.take_left' (by simp)
      have h2 : (E.map (·.key) ++ x :: rest').drop (E.length + [e.key].length) = rest' := by
        rw [show E.map (·.key) ++ x :: rest' = (E.map (·.key) ++ [x]) ++ rest' by simp]
        exact List.drop_left' (by simp)
      unfold splice
      rw [h1, h2]; simp
    rw [hsp2] at hp
    have hcell5 := hcell4.mod hput (by simpa using hS.ne3)
    have hget5 : (putCells w4 ⟨B, E.length, none⟩ 0 [e.key]).heap[it]? = some (.mapIter (some r) clock (seen.push e.born) clock) := by
      rw [hput.block it (by omega) (by simpa using hS.ne2)]; exact hget4
    have hmp5 : (putCells w4 ⟨B, E.length, none⟩ 0 [e.key]).heap[r]? = some (.map es clock) := by
      rw [hput.block r (by omega) (by simpa using hS.nr.2.2)]; exact hmp4
    have zB : (putCells w4 ⟨B, E.length, none⟩ 0 [e.key]).heap.size = w4.heap.size := size_putCells ..
    generalize putCells w4 ⟨B, E.length, none⟩ 0 [e.key] = w5 at hput hp hcell5 hget5 hmp5 zB ⊢
    refine wpR_run ?_
    have ec : (Value.slice (some ⟨B, 0, none⟩) (E.length + 1) n).cells = #[.slice (some ⟨B, 0, none⟩) (E.length + 1) n] := rfl
    have hput6 : Mod [Bs] w5 (putCells w5 ⟨Bs, 0, none⟩ 0 [.slice (some ⟨B, 0, none⟩) (E.length + 1) n]) := Mod.put (by simp)
    have hp6 := hcell5.put (o := 0) (vs := [.slice (some ⟨B, 0, none⟩) (E.length + 1) n]) (by simp)
    rw [splice_all (by rfl)] at hp6
    simp only [RK.run, ev, updo, upd, if_true, show (4 : Nat) ≠ 32 by decide, show (4 : Nat) ≠ 31 by decide, show (4 : Nat) ≠ 30 by decide, show (4 : Nat) ≠ 29 by decide, show (4 : Nat) ≠ 5 by decide, show (4 : Nat) ≠ 28 by decide, show (4 : Nat) ≠ 27 by decide, show (4 : Nat) ≠ 26 by decide, show (4 : Nat) ≠ 25 by decide, if_false, hS.s4, ec]
    refine ⟨rfl, stOk_one hcell5 (by simp) rfl, ?_⟩
    have hget6 : (putCells w5 ⟨Bs, 0, none⟩ 0 [.slice (some ⟨B, 0, none⟩) (E.length + 1) n]).heap[it]? = some (.mapIter (some r) clock (seen.push e.born) clock) := by
      rw [hput6.block it (by omega) (by simpa using hS.ne1)]; exact hget5
    have hmp6 : (putCells w5 ⟨Bs, 0, none⟩ 0 [.slice (some ⟨B, 0, none⟩) (E.length + 1) n]).heap[r]? = some (.map es clock) := by
      rw [hput6.block r (by omega) (by simpa using hS.nr.2.1)]; exact hmp5
    simp only [wpR, inBlockC, thenC]
    refine ⟨⟨E ++ [e], fun j hj h5 => ?_, ?_⟩, ?_⟩
    · simp only [upd, show j ≠ 32 by omega, show j ≠ 31 by omega, show j ≠ 30 by omega, show j ≠ 29 by omega, h5, show j ≠ 28 by omega, show j ≠ 27 by omega, show j ≠ 26 by omega, show j ≠ 25 by omega, if_false]; exact ag j hj h5
    · refine { hS with s24 := by simp [upd, hS.s24], s4 := by simp [upd, hS.s4], map := hmp6, iter := ⟨_, hget6, hE.push he⟩, cell := by simpa using hp6, row := ⟨rest', hp.mod hput6 (by simpa using hS.ne3.symm), by simp; omega⟩, fr := ?_ }
      have o1 := hS.old1; have o2 := hS.old2; have o3 := hS.old3
      refine Mod.drop (b := it) (S := []) ?_ o1
      refine Mod.drop (b := Bs) (S := [it]) ?_ o2
      refine Mod.drop (b := B) (S := [Bs, it]) ?_ o3
      exact (((hS.fr.mono (by simp)).trans (hm3.mono (by simp))).trans (mA.mono (by simp))).trans ((hput.mono (by simp)).trans (hput6.mono (by simp)))
    · have h6 : (putCells w5 ⟨Bs, 0, none⟩ 0 [.slice (some ⟨B, 0, none⟩) (E.length + 1) n]).iterSeen it = seen.push e.born := by unfold World.iterSeen; rw [hget6]
      rw [hseen, h6]
      exact left_shrinks es seen e he
end
end Go.Msk
