/- A small language of resolved operations, and what the generic and the generated functions do in it (part 16). -/
import Derived.Test.YtopfpehiaddeaaaGreatDoorFo

namespace Go.Msk
open Go.RowKit
set_option maxRecDepth 100000
abbrev at_ (l : List UInt8) : RS := ⟨l, false, false⟩
theorem beNat_beI : ∀ (k : Nat) (n : Int), (beNat (beI k n) : Int) = n % 256 ^ k
  | 0, n => by simp [beI, beNat]
  | k + 1, n => by
    have hp : (0 : Int) < 256 ^ k := Int.pow_pos (by omega)
    have ih := beNat_beI k n
    rw [beI, beNat_cons, beI_length]
    have h2 : 0 ≤ (n / 256 ^ k) % 256 := Int.emod_nonneg _ (by omega)
    have h3 : (n / 256 ^ k) % 256 < 256 := Int.emod_lt_of_pos _ (by omega)
    have e : (UInt8.ofNat ((n / 256 ^ k) % 256).toNat).toNat = ((n / 256 ^ k) % 256).toNat := by simp; omega
    rw [e]
    have e2 : (((n / 256 ^ k) % 256).toNat : Int) = (n / 256 ^ k) % 256 := Int.toNat_of_nonneg h2
    rw [Int.natCast_add, Int.natCast_mul, e2, ih, ediv_emod_256 _ _ hp, Int.pow_succ]
    have q : (n % (256 ^ k * 256)) % 256 ^ k = n % 256 ^ k := Int.emod_emod_of_dvd n ⟨256, rfl⟩
    rw [← q]
    have := Int.mul_ediv_add_emod (n % (256 ^ k * 256)) (256 ^ k)
    have e3 : ((256 ^ k : Nat) : Int) = (256 : Int) ^ k := by simp
    rw [e3, Int.mul_comm]
    exact this
theorem rdN_beI (k : Nat) (n : Int) (r : List UInt8) : ((rdN k (at_ (beI k n ++ r))).1 : Int) = n % 256 ^ k ∧ (rdN k (at_ (beI k n ++ r))).2 = at_ r := by
  have hl := beI_length k n
  have e : k ≤ (beI k n ++ r).length := by simp [hl]
  have e1 : (beI k n ++ r).take k = beI k n := by have := List.take_left (l₁ := beI k n) (l₂ := r); rwa [hl] at this
  have e2 : (beI k n ++ r).drop k = r := by have := List.drop_left (l₁ := beI k n) (l₂ := r); rwa [hl] at this
  unfold rdN
  simp only [e, if_true, e1, e2]
  exact ⟨beNat_beI k n, trivial⟩
theorem rdSpan_at (l r : List UInt8) : rdSpan (l.length : Nat) (at_ (l ++ r)) = (some l, at_ r) := by
  unfold rdSpan
  rw [if_neg (by simp only [List.length_append]; omega)]
  simp
theorem uvR_uvE : ∀ (k n : Nat) (r : List UInt8), n < 16 * 128 ^ k → uvR (k + 1) (uvE n ++ r) = some (n, (uvE n).length)
  | 0, n, r, h => by
    rw [uvE_small (by omega)]
    have e : (UInt8.ofNat n).toNat = n := by simp; omega
    simp only [List.cons_append, List.nil_append, uvR, e, List.length_cons, List.length_nil]
    rw [if_pos (by omega), if_neg (by omega)]
  | k + 1, n, r, h => by
    by_cases hn : n < 128
    · rw [uvE_small hn]
      have e : (UInt8.ofNat n).toNat = n := by simp; omega
      simp only [List.cons_append, List.nil_append, List.length_cons, List.length_nil]
      rw [uvR, e, if_pos hn, if_neg (by omega)]
    · rw [uvE_big (by omega)]
      have e : (UInt8.ofNat (n % 128 + 128)).toNat = n % 128 + 128 := by simp; omega
      have ih := uvR_uvE k (n / 128) r (by rw [Nat.pow_succ] at h; omega)
      simp only [List.cons_append, List.length_cons]
      rw [uvR, e, if_neg (by omega), ih]
      simp only
      congr 2
      omega
theorem rdUv_uvE {n : Nat} (h : n < 4294967296) (r : List UInt8) : rdUv (at_ (uvE n ++ r)) = (n, at_ r) := by
  unfold rdUv
  rw [uvR_uvE 4 n r (by omega)]
  simp
theorem wrap_mod_i16 (n : Int) : IntKind.i16.wrap n % 65536 = n % 65536 := by
  simp only [IntKind.wrap, IntKind.bits, IntKind.signed]; simp; split <;> omega
theorem wrap_mod_i32 (n : Int) : IntKind.i32.wrap n % 4294967296 = n % 4294967296 := by
  simp only [IntKind.wrap, IntKind.bits, IntKind.signed]; simp; split <;> omega
theorem wrap_mod_i64 (n : Int) : IntKind.i64.wrap n % 18446744073709551616 = n % 18446744073709551616 := by
  simp only [IntKind.wrap, IntKind.bits, IntKind.signed]; simp; split <;> omega
theorem wrap_mod_i8 (n : Int) : IntKind.i8.wrap n % 256 = n % 256 := by
  simp only [IntKind.wrap, IntKind.bits, IntKind.signed]; simp; split <;> omega
def kindOk (kind : Int) (nul : Bool) (p : PK) : Bool :=
  match p with
  | .bool => decide (kind = 0)
  | .i8 => decide (kind = 1)
  | .i16 => decide (kind = 2)
  | .u16 => decide (kind = 5)
  | .i32 => decide (kind = 3)
  | .i64 => decide (kind = 4)
  | .uuid => decide (kind = 7)
  | .str => decide (kind = 8) && !nul
  | .nstr => decide (kind = 8)
  | .byt => decide (kind = 9) && !nul
  | _ => false
theorem pair_of {α β : Type} {p : α × β} {a : α} {b : β} (h1 : p.1 = a) (h2 : p.2 = b) : p = (a, b) := by cases p; simp_all
theorem wc16 (j : Int) : IntKind.i16.wrap (j % 65536) = IntKind.i16.wrap j := by
  simp only [IntKind.wrap, IntKind.bits, IntKind.signed]; simp
theorem wc8 (j : Int) : IntKind.i8.wrap (j % 256) = IntKind.i8.wrap j := by
  simp only [IntKind.wrap, IntKind.bits, IntKind.signed]; simp
theorem wc32 (j : Int) : IntKind.i32.wrap (j % 4294967296) = IntKind.i32.wrap j := by
  simp only [IntKind.wrap, IntKind.bits, IntKind.signed]; simp
theorem wc64 (j : Int) : IntKind.i64.wrap (j % 18446744073709551616) = IntKind.i64.wrap j := by
  simp only [IntKind.wrap, IntKind.bits, IntKind.signed]; simp
theorem wholeP_le (l : List UInt8) : (wholeP l).length ≤ 32767 := by simp [wholeP]; omega
theorem i16_small {n : Nat} (h : n ≤ 32767) : IntKind.i16.wrap ((n : Int) % 65536) = n := by
  simp only [IntKind.wrap, IntKind.bits, IntKind.signed]; simp; split <;> omega
theorem i32_small {n : Nat} (h : n ≤ 2147483647) : IntKind.i32.wrap ((n : Int) % 4294967296) = n := by
  simp only [IntKind.wrap, IntKind.bits, IntKind.signed]; simp; split <;> omega
theorem rdCl_at {n : Nat} (h : n < 4294967295) (r : List UInt8) : rdCl (at_ (uvE (n + 1) ++ r)) = ((n : Int), at_ r) := by
  unfold rdCl
  rw [rdUv_uvE (by omega)]
  simp only [Prod.mk.injEq, and_true]
  omega
theorem rdStr_at (x : Bool) {s : List UInt8} (h : s.length ≤ 32767) (r : List UInt8) : (if x then rdCString (at_ ((if x then uvE (s.length + 1) ++ s else beI 2 s.length ++ s) ++ r)) else rdString (at_ ((if x then uvE (s.length + 1) ++ s else beI 2 s.length ++ s) ++ r))) = (s, at_ r) := by
  cases x with
  | true =>
    simp only [if_true, List.append_assoc]
    unfold rdCString
    rw [rdCl_at (by omega)]
    simp only [rdSpan_at, Option.getD_some]
  | false =>
    simp only [Bool.false_eq_true, if_false, List.append_assoc]
    unfold rdString
    obtain ⟨h1, h2⟩ := rdN_beI 2 s.length (s ++ r)
    rw [pair_of rfl h2]
    simp only [h1]
    rw [show (256 : Int) ^ 2 = 65536 by decide, i16_small h, rdSpan_at]
    rfl
def valG (p : PK) (null : Bool) (t : TR) : GV :=
  match p with
  | .bool => .num (.bool (decide (t.n % 2 ≠ 0)))
  | .i8 => .num (.int .i8 (IntKind.i8.wrap t.n))
  | .i16 => .num (.int .i16 (IntKind.i16.wrap t.n))
  | .i32 => .num (.int .i32 (IntKind.i32.wrap t.n))
  | .i64 => .num (.int .i64 (IntKind.i64.wrap t.n))
  | .u16 => .num (.int .u16 (t.n % 65536))
  | .uuid => .arr (uuidP t.s)
  | .str => .num (str (wholeP t.s))
  | .nstr => .nstr (if null then none else some (wholeP t.s))
  | _ => .byt (some (wholeP t.s))
structure ReadP (p : PK) (x : Bool) (l : List UInt8) (g : GV) : Prop where
  rd : ∀ r, decStd.prim p x (at_ (l ++ r)) = (g, at_ r)
  pos : 0 < l.length
theorem intR {k : IntKind} {m : Nat} {n : Int} {p : PK} {x : Bool} {M : Int} (hM : (256 : Int) ^ m = M) (hwc : ∀ j : Int, k.wrap (j % M) = k.wrap j) (hp : ∀ s, decStd.prim p x s = (.num (.int k (k.wrap (rdN m s).1)), (rdN m s).2)) (hm : 0 < m) : ReadP p x (beI m n) (.num (.int k (k.wrap n))) := by
  refine ⟨fun r => ?_, by rw [beI_length]; exact hm⟩
  rw [hp]
  obtain ⟨h1, h2⟩ := rdN_beI m n r
  rw [h1, h2, hM, hwc]
theorem readP {p : PK} {kind : Int} {nul null x : Bool} {part : TR → List UInt8} {t : TR} (hk : kindOk kind nul p = true) (hn : null = true → nul = true) : ReadP p x (valP x kind part null t) (valG p null t) := by
  cases p with
  | bool =>
    simp only [kindOk, decide_eq_true_eq] at hk
    subst hk
    refine ⟨fun r => ?_, by simp [valP]⟩
    have h2 : t.n % 2 = 0 ∨ t.n % 2 = 1 := by omega
    rcases h2 with h2 | h2 <;> simp [valP, valG, decStd, rdN, h2, beNat]
  | i8 =>
    simp only [kindOk, decide_eq_true_eq] at hk
    subst hk
    exact intR (k := .i8) (m := 1) (n := t.n) (M := 256) (by decide) wc8 (fun _ => rfl) (by omega)
  | i16 =>
    simp only [kindOk, decide_eq_true_eq] at hk
    subst hk
    exact intR (k := .i16) (m := 2) (n := t.n) (M := 65536) (by decide) wc16 (fun _ => rfl) (by omega)
  | i32 =>
    simp only [kindOk, decide_eq_true_eq] at hk
    subst hk
    exact intR (k := .i32) (m := 4) (n := t.n) (M := 4294967296) (by decide) wc32 (fun _ => rfl) (by omega)
  | i64 =>
    simp only [kindOk, decide_eq_true_eq] at hk
    subst hk
    exact intR (k := .i64) (m := 8) (n := t.n) (M := 18446744073709551616) (by decide) wc64 (fun _ => rfl) (by omega)
  | u16 =>
    simp only [kindOk, decide_eq_true_eq] at hk
    subst hk
    refine ⟨fun r => ?_, ?_⟩
    · obtain ⟨h1, h2⟩ := rdN_beI 2 t.n r
      show (GV.num (.int .u16 (rdN 2 (at_ (beI 2 t.n ++ r))).1), (rdN 2 (at_ (beI 2 t.n ++ r))).2) = _
      rw [h1, h2]; rfl
    · show 0 < (beI 2 t.n).length
      rw [beI_length]; omega
  | uuid =>
    simp only [kindOk, decide_eq_true_eq] at hk
    subst hk
    have hl : (uuidP t.s).length = 16 := by simp [uuidP]; omega
    refine ⟨fun r => ?_, ?_⟩
    · have h := rdSpan_at (uuidP t.s) r
      rw [hl] at h
      show (GV.arr (rdUuid (at_ (uuidP t.s ++ r))).1, (rdUuid (at_ (uuidP t.s ++ r))).2) = _
      unfold rdUuid
      rw [show ((16 : Nat) : Int) = 16 from rfl] at h
      rw [h]; rfl
    · show 0 < (uuidP t.s).length
      omega
  | str =>
    simp only [kindOk, Bool.and_eq_true, decide_eq_true_eq, Bool.not_eq_true'] at hk
    obtain ⟨rfl, hnul⟩ := hk
    have hnull : null = false := by cases null <;> simp_all
    subst hnull
    have hw := wholeP_le t.s
    have e : valP x 8 part false t = if x then uvE ((wholeP t.s).length + 1) ++ wholeP t.s else beI 2 (wholeP t.s).length ++ wholeP t.s := by
      simp [valP, countedP]; cases x <;> simp
    rw [e]
    refine ⟨fun r => ?_, ?_⟩
    · have h := rdStr_at x hw r
      cases x with
      | true => simp only [if_true] at h ⊢; show (GV.num (str (rdCString _).1), (rdCString _).2) = _; rw [h]; rfl
      | false => simp only [Bool.false_eq_true, if_false] at h ⊢; show (GV.num (str (rdString _).1), (rdString _).2) = _; rw [h]; rfl
    · have := uvE_pos ((wholeP t.s).length + 1)
      cases x <;> simp [beI_length] <;> omega
  | nstr =>
    simp only [kindOk, decide_eq_true_eq] at hk
    subst hk
    cases null with
    | true =>
      have e : valP x 8 part true t = if x then [0] else beI 2 (-1) := by
        cases x <;> simp [valP, countedP]
      rw [e]
      refine ⟨fun r => ?_, by cases x <;> simp [beI_length]⟩
      cases x with
      | true =>
        simp only [if_true]
        show (GV.nstr (rdCNullableString _).1, (rdCNullableString _).2) = _
        have h : rdCl (at_ ([0] ++ r)) = (-1, at_ r) := by
          have := rdUv_uvE (n := 0) (by omega) r
          rw [uvE_small (by omega)] at this
          unfold rdCl
          rw [show ([0] : List UInt8) = [UInt8.ofNat 0] from rfl, this]; rfl
        unfold rdCNullableString
        rw [h]; rfl
      | false =>
        simp only [Bool.false_eq_true, if_false]
        show (GV.nstr (rdNullableString _).1, (rdNullableString _).2) = _
        obtain ⟨h1, h2⟩ := rdN_beI 2 (-1) r
        unfold rdNullableString
        simp only [h1, h2]
        rfl
    | false =>
      have hw := wholeP_le t.s
      have e : valP x 8 part false t = if x then uvE ((wholeP t.s).length + 1) ++ wholeP t.s else beI 2 (wholeP t.s).length ++ wholeP t.s := by
        simp [valP, countedP]; cases x <;> simp
      rw [e]
      refine ⟨fun r => ?_, ?_⟩
      · cases x with
        | true =>
          simp only [if_true, List.append_assoc]
          show (GV.nstr (rdCNullableString _).1, (rdCNullableString _).2) = _
          unfold rdCNullableString
          rw [rdCl_at (by omega)]
          simp only [rdSpan_at, Option.getD_some]
          rw [if_neg (by omega)]
          rfl
        | false =>
          simp only [Bool.false_eq_true, if_false, List.append_assoc]
          show (GV.nstr (rdNullableString _).1, (rdNullableString _).2) = _
          obtain ⟨h1, h2⟩ := rdN_beI 2 (wholeP t.s).length (wholeP t.s ++ r)
          unfold rdNullableString
          simp only [h1, h2]
          rw [show (256 : Int) ^ 2 = 65536 by decide, i16_small hw, if_neg (by omega), rdSpan_at]
          rfl
      · have := uvE_pos ((wholeP t.s).length + 1)
        cases x <;> simp [beI_length] <;> omega
  | byt =>
    simp only [kindOk, Bool.and_eq_true, decide_eq_true_eq, Bool.not_eq_true'] at hk
    obtain ⟨rfl, hnul⟩ := hk
    have hnull : null = false := by cases null <;> simp_all
    subst hnull
    have hw := wholeP_le t.s
    have e : valP x 9 part false t = if x then uvE ((wholeP t.s).length + 1) ++ wholeP t.s else beI 4 (wholeP t.s).length ++ wholeP t.s := by
      simp [valP, countedP]; cases x <;> simp
    rw [e]
    refine ⟨fun r => ?_, ?_⟩
    · cases x with
      | true =>
        simp only [if_true, List.append_assoc]
        show (GV.byt (rdCBytes _).1, (rdCBytes _).2) = _
        unfold rdCBytes
        rw [rdCl_at (by omega)]
        simp only [rdSpan_at]
        rw [if_neg (by omega)]
        rfl
      | false =>
        simp only [Bool.false_eq_true, if_false, List.append_assoc]
        show (GV.byt (rdBytes _).1, (rdBytes _).2) = _
        obtain ⟨h1, h2⟩ := rdN_beI 4 (wholeP t.s).length (wholeP t.s ++ r)
        unfold rdBytes
        simp only [h1, h2]
        rw [show (256 : Int) ^ 4 = 4294967296 by decide, i32_small (by omega), if_neg (by omega), rdSpan_at]
        rfl
    · have := uvE_pos ((wholeP t.s).length + 1)
      cases x <;> simp [beI_length] <;> omega
  | u32 => simp [kindOk] at hk
  | nbyt => simp [kindOk] at hk
end Go.Msk

namespace Go.Msk
open Go.RowKit
set_option maxRecDepth 100000
structure BackP (p : PK) (x : Bool) (l : List UInt8) (g : GV) : Prop where
  rd : ∀ r, decStd.prim p x (at_ (l ++ r)) = (g, at_ r)
  enc : encP p x g = l
  fit : FitP p g
  wid : g.wid = p.size
  pos : 0 < l.length
theorem backP {p : PK} {kind : Int} {nul null x : Bool} {part : TR → List UInt8} {t : TR} (hk : kindOk kind nul p = true) (hn : null = true → nul = true) : ∃ g, BackP p x (valP x kind part null t) g := by
  have hr := readP (x := x) (part := part) (t := t) hk hn
  refine ⟨valG p null t, hr.rd, ?_, ?_, ?_, hr.pos⟩
  · cases p with
    | bool =>
      simp only [kindOk, decide_eq_true_eq] at hk
      subst hk
      have h2 : t.n % 2 = 0 ∨ t.n % 2 = 1 := by omega
      rcases h2 with h2 | h2 <;> simp [valP, valG, encP, h2]
    | i8 => simp only [kindOk, decide_eq_true_eq] at hk; subst hk; exact beI_mod 1 _ _ (by rw [show (256 : Int) ^ 1 = 256 by decide, wrap_mod_i8])
    | i16 => simp only [kindOk, decide_eq_true_eq] at hk; subst hk; exact beI_mod 2 _ _ (by rw [show (256 : Int) ^ 2 = 65536 by decide, wrap_mod_i16])
    | i32 => simp only [kindOk, decide_eq_true_eq] at hk; subst hk; exact beI_mod 4 _ _ (by rw [show (256 : Int) ^ 4 = 4294967296 by decide, wrap_mod_i32])
    | i64 => simp only [kindOk, decide_eq_true_eq] at hk; subst hk; exact beI_mod 8 _ _ (by rw [show (256 : Int) ^ 8 = 18446744073709551616 by decide, wrap_mod_i64])
    | u16 => simp only [kindOk, decide_eq_true_eq] at hk; subst hk; exact beI_mod 2 _ _ (by rw [show (256 : Int) ^ 2 = 65536 by decide]; omega)
    | uuid => simp only [kindOk, decide_eq_true_eq] at hk; subst hk; rfl
    | str =>
      simp only [kindOk, Bool.and_eq_true, decide_eq_true_eq, Bool.not_eq_true'] at hk
      obtain ⟨rfl, hnul⟩ := hk
      have hnull : null = false := by cases null <;> simp_all
      subst hnull
      have e : valP x 8 part false t = if x then uvE ((wholeP t.s).length + 1) ++ wholeP t.s else beI 2 (wholeP t.s).length ++ wholeP t.s := by
        simp [valP, countedP]; cases x <;> simp
      rw [e]; rfl
    | nstr =>
      simp only [kindOk, decide_eq_true_eq] at hk
      subst hk
      cases null with
      | true =>
        have e : valP x 8 part true t = if x then [0] else beI 2 (-1) := by
          cases x <;> simp [valP, countedP]
        rw [e]; rfl
      | false =>
        have e : valP x 8 part false t = if x then uvE ((wholeP t.s).length + 1) ++ wholeP t.s else beI 2 (wholeP t.s).length ++ wholeP t.s := by
          simp [valP, countedP]; cases x <;> simp
        rw [e]; rfl
    | byt =>
      simp only [kindOk, Bool.and_eq_true, decide_eq_true_eq, Bool.not_eq_true'] at hk
      obtain ⟨rfl, hnul⟩ := hk
      have hnull : null = false := by cases null <;> simp_all
      subst hnull
      have e : valP x 9 part false t = if x then uvE ((wholeP t.s).length + 1) ++ wholeP t.s else beI 4 (wholeP t.s).length ++ wholeP t.s := by
        simp [valP, countedP]; cases x <;> simp
      rw [e]; rfl
    | u32 => simp [kindOk] at hk
    | nbyt => simp [kindOk] at hk
  · have hw := wholeP_le t.s
    cases p with
    | bool => exact ⟨_, rfl⟩
    | i8 => exact ⟨_, rfl⟩
    | i16 => exact ⟨_, rfl⟩
    | i32 => exact ⟨_, rfl⟩
    | i64 => exact ⟨_, rfl⟩
    | u16 => exact ⟨_, rfl, by omega, by omega⟩
    | uuid => exact ⟨_, rfl, by simp [uuidP]; omega⟩
    | str => exact ⟨_, rfl, by omega⟩
    | nstr =>
      cases null with
      | true => exact ⟨none, rfl, by simp⟩
      | false => exact ⟨_, rfl, by intro s h; cases h; omega⟩
    | byt => exact ⟨_, rfl, by intro s h; cases h; omega⟩
    | u32 => simp [kindOk] at hk
    | nbyt => simp [kindOk] at hk
  · cases p with
    | uuid => show (uuidP t.s).length = 16; simp [uuidP]; omega
    | u32 => simp [kindOk] at hk
    | nbyt => simp [kindOk] at hk
    | _ => rfl
end Go.Msk

namespace Go.Msk
open Go.RowKit
set_option maxRecDepth 100000
def unk (u : List (Nat × List UInt8)) : List (Nat × List UInt8) := (u.take 32767).foldl (unkStep 0) []
def tailP (x : Bool) (u : List (Nat × List UInt8)) : List UInt8 := if x then uvE (unk u).length ++ tagsP (unk u) else []
theorem knownP_plain : ∀ (fs : List FD), FD.plainL fs = true → knownP fs = 0 := by
  intro fs h
  unfold knownP
  induction fs with
  | nil => rfl
  | cons f fs ih =>
    simp only [FD.plainL, Bool.and_eq_true] at h
    have ht : f.tag < 0 := by
      have := h.1
      obtain ⟨k, a, b, c, tag, d, e, sub⟩ := f
      simp only [FD.plain, Bool.and_eq_true, decide_eq_true_eq] at this
      exact this.1
    simp only [List.foldl_cons]
    rw [if_neg (by omega)]
    exact ih h.2
theorem unknownP_plain {fs : List FD} (h : FD.plainL fs = true) (u : List (Nat × List UInt8)) : unknownP fs u = unk u := by
  unfold unknownP unk; rw [knownP_plain fs h]
def Ris (l : List (Nat × List UInt8)) : Prop := l.Pairwise (fun a b => a.1 < b.1) ∧ ∀ p ∈ l, p.1 < 4294967296
theorem insU_mem {k : Nat} {b : List UInt8} : ∀ {l : List (Nat × List UInt8)} {p}, p ∈ insU k b l → p = (k, b) ∨ p ∈ l
  | [], p, h => by simp [insU] at h; exact .inl h
  | (k', b') :: r, p, h => by
    simp only [insU] at h
    split at h
    · rcases List.mem_cons.1 h with h | h
      · exact .inr (by simp [h])
      · rcases insU_mem h with h | h
        · exact .inl h
        · exact .inr (by simp [h])
    · split at h
      · exact .inr h
      · rcases List.mem_cons.1 h with h | h
        · exact .inl h
        · exact .inr h
theorem insU_ris {k : Nat} {b : List UInt8} (hk : k < 4294967296) : ∀ {l : List (Nat × List UInt8)}, Ris l → Ris (insU k b l)
  | [], _ => ⟨by simp [insU], by simp [insU]; exact hk⟩
  | (k', b') :: r, h => by
    have hr : Ris r := ⟨(List.pairwise_cons.1 h.1).2, fun p hp => h.2 p (by simp [hp])⟩
    simp only [insU]
    split
    · rename_i hlt
      have ih := insU_ris (b := b) hk hr
      refine ⟨List.pairwise_cons.2 ⟨fun p hp => ?_, ih.1⟩, fun p hp => ?_⟩
      · rcases insU_mem hp with rfl | hp
        · exact hlt
        · exact (List.pairwise_cons.1 h.1).1 p hp
      · rcases List.mem_cons.1 hp with rfl | hp
        · exact h.2 (k', b') (by simp)
        · exact ih.2 p hp
    · split
      · exact h
      · rename_i h1 h2
        refine ⟨List.pairwise_cons.2 ⟨fun p hp => ?_, h.1⟩, fun p hp => ?_⟩
        · rcases List.mem_cons.1 hp with rfl | hp
          · show k < k'; omega
          · have := (List.pairwise_cons.1 h.1).1 p hp
            show k < p.1
            have e : k' < p.1 := this
            omega
        · rcases List.mem_cons.1 hp with rfl | hp
          · exact hk
          · exact h.2 p hp
theorem insU_len {k : Nat} {b : List UInt8} : ∀ l : List (Nat × List UInt8), (insU k b l).length ≤ l.length + 1
  | [] => by simp [insU]
  | (k', b') :: r => by
    have := insU_len (k := k) (b := b) r
    simp only [insU]
    split
    · simp only [List.length_cons]; omega
    · split <;> simp
theorem unk_ok {u : List (Nat × List UInt8)} (h : ∀ p ∈ u, p.1 < 4294967296) : Ris (unk u) ∧ (unk u).length ≤ 32767 := by
  have gen : ∀ (v acc : List (Nat × List UInt8)), (∀ p ∈ v, p.1 < 4294967296) → Ris acc → Ris (v.foldl (unkStep 0) acc) ∧ (v.foldl (unkStep 0) acc).length ≤ acc.length + v.length := by
    intro v
    induction v with
    | nil => intro acc _ ha; exact ⟨ha, by simp⟩
    | cons p v ih =>
      intro acc hv ha
      have e : unkStep 0 acc p = insU p.1 p.2 acc := by unfold unkStep; rw [if_neg (by omega)]
      simp only [List.foldl_cons, e]
      obtain ⟨h1, h2⟩ := ih (insU p.1 p.2 acc) (fun q hq => hv q (by simp [hq])) (insU_ris (hv p (by simp)) ha)
      refine ⟨h1, Nat.le_trans h2 ?_⟩
      have := insU_len (k := p.1) (b := p.2) acc
      simp only [List.length_cons]; omega
  obtain ⟨h1, h2⟩ := gen (u.take 32767) [] (fun p hp => h p (List.mem_of_mem_take hp)) ⟨by simp, by simp⟩
  refine ⟨h1, Nat.le_trans h2 ?_⟩
  simp; omega
def wholeU (u : List (Nat × List UInt8)) : List (Nat × List UInt8) := u.map fun p => (p.1, wholeP p.2)
theorem putTag_new {k : Nat} {b : List UInt8} : ∀ {m : List (Nat × List UInt8)}, (∀ p ∈ m, p.1 < k) → putTag m k b = m ++ [(k, b)]
  | [], _ => rfl
  | (k', b') :: m, h => by
    have h1 : k' < k := h (k', b') (by simp)
    simp only [putTag, List.cons_append]
    rw [if_neg (by omega), putTag_new fun p hp => h p (by simp [hp])]
theorem rdTagsN_at : ∀ (u m : List (Nat × List UInt8)) (r : List UInt8), Ris u → (∀ p ∈ m, ∀ q ∈ u, p.1 < q.1) → rdTagsN u.length m (at_ (tagsP u ++ r)) = (m ++ wholeU u, at_ r)
  | [], m, r, _, _ => by simp [rdTagsN, tagsP, wholeU]
  | (k, b) :: u, m, r, h, hm => by
    have hk : k < 4294967296 := h.2 (k, b) (by simp)
    have hr : Ris u := ⟨(List.pairwise_cons.1 h.1).2, fun p hp => h.2 p (by simp [hp])⟩
    have hw := wholeP_le b
    have e : tagsP ((k, b) :: u) ++ r = uvE k ++ (uvE (wholeP b).length ++ (wholeP b ++ (tagsP u ++ r))) := by simp [tagsP]
    rw [e]
    simp only [List.length_cons, rdTagsN]
    rw [rdUv_uvE hk]
    simp only
    rw [rdUv_uvE (by omega)]
    simp only [rdSpan_at, Option.getD_some]
    rw [putTag_new fun p hp => hm p hp (k, b) (by simp)]
    rw [rdTagsN_at u _ r hr ?_]
    · simp [wholeU]
    · intro p hp q hq
      rcases List.mem_append.1 hp with hp | hp
      · exact hm p hp q (by simp [hq])
      · simp only [List.mem_singleton] at hp; subst hp
        exact (List.pairwise_cons.1 h.1).1 q hq
theorem sortT_ris : ∀ {m : List (Nat × List UInt8)}, m.Pairwise (fun a b => a.1 < b.1) → sortT m = m
  | [], _ => rfl
  | (k, b) :: m, h => by
    have ih := sortT_ris (List.pairwise_cons.1 h).2
    simp only [sortT, ih]
    cases m with
    | nil => rfl
    | cons p m =>
      have : k < p.1 := (List.pairwise_cons.1 h).1 p (by simp)
      simp only [insT]
      rw [if_pos this]
theorem flat_len {f : TR → List UInt8} : ∀ {ys : List TR}, (∀ y ∈ ys, 0 < (f y).length) → ys.length ≤ (ys.flatMap f).length
  | [], _ => by simp
  | y :: ys, h => by
    have h1 := h y (by simp)
    have h2 := flat_len (ys := ys) fun z hz => h z (by simp [hz])
    simp only [List.flatMap_cons, List.length_cons, List.length_append]
    omega
theorem len_rd {x : Bool} {n : Nat} (hl : n ≤ 32767) {l : List UInt8} (hn : n ≤ l.length) : decStd.len x (at_ (countedP x false n 4 ++ l)) = ((n : Int), at_ l) := by
  cases x with
  | true =>
    simp only [decStd, if_true, countedP, Bool.false_eq_true, if_false]
    unfold rdCArrayLen
    rw [rdUv_uvE (by omega)]
    have e : IntKind.i32.wrap (IntKind.i32.wrap ((n + 1 : Nat) : Int) - 1) = (n : Int) := by
      simp only [IntKind.wrap, IntKind.bits, IntKind.signed]; simp; omega
    simp only [e]
    rw [if_neg (by omega)]
  | false =>
    simp only [decStd, Bool.false_eq_true, if_false, countedP]
    unfold rdArrayLen
    obtain ⟨h1, h2⟩ := rdN_beI 4 n l
    simp only [h1, h2]
    rw [show (256 : Int) ^ 4 = 4294967296 by decide, i32_small (by omega)]
    rw [if_neg (by omega)]
theorem lenN_rd {x : Bool} {l : List UInt8} : decStd.len x (at_ (countedP x true 0 4 ++ l)) = (-1, at_ l) := by
  cases x with
  | true =>
    simp only [decStd, if_true, countedP]
    unfold rdCArrayLen
    have := rdUv_uvE (n := 0) (by omega) l
    rw [uvE_small (by omega)] at this
    rw [show ([0] : List UInt8) = [UInt8.ofNat 0] from rfl, this]
    have e : IntKind.i32.wrap (IntKind.i32.wrap ((0 : Nat) : Int) - 1) = -1 := by decide
    simp only [e]
    rw [if_neg (by omega)]
  | false =>
    simp only [decStd, Bool.false_eq_true, if_false, if_true, countedP]
    unfold rdArrayLen
    obtain ⟨h1, h2⟩ := rdN_beI 4 (-1) l
    simp only [h1, h2]
    rw [show IntKind.i32.wrap ((-1) % 256 ^ 4) = -1 by decide]
    rw [if_neg (by omega)]
end Go.Msk

namespace Go.Msk
open Go.RowKit
set_option maxRecDepth 100000
theorem tags_back {u : List (Nat × List UInt8)} (h : ∀ p ∈ u, p.1 < 4294967296) : ∃ m, (∀ r, rdTags (at_ (tailP true u ++ r)) = (m, at_ r)) ∧ uvE m.length ++ tagsR (sortT m) = tailP true u ∧ m.length ≤ 2147483647 ∧ ∀ p ∈ m, p.2.length ≤ 2147483647 := by
  obtain ⟨h1, h2⟩ := unk_ok h
  have hs : (wholeU (unk u)).Pairwise (fun a b => a.1 < b.1) := by
    unfold wholeU; rw [List.pairwise_map]; exact h1.1
  refine ⟨wholeU (unk u), fun r => ?_, ?_, by simp [wholeU]; omega, fun p hp => ?_⟩
  · simp only [tailP, if_true, List.append_assoc]
    unfold rdTags
    rw [rdUv_uvE (by omega)]
    simp only
    rw [rdTagsN_at _ [] r h1 (by simp)]
    simp
  · rw [sortT_ris hs]
    simp only [tailP, if_true]
    have : tagsR (wholeU (unk u)) = tagsP (unk u) := by simp [tagsR, tagsP, wholeU, List.flatMap_map]
    rw [this]
    simp [wholeU]
  · simp only [wholeU, List.mem_map] at hp
    obtain ⟨q, -, rfl⟩ := hp
    have := wholeP_le q.2
    show (wholeP q.2).length ≤ _
    omega
theorem list_back {el : RS → Option (GV × RS)} {f : TR → List UInt8} {encg : GV → List UInt8} {Pg : GV → Prop} : ∀ ys : List TR, (∀ y ∈ ys, ∃ g, (∀ r, el (at_ (f y ++ r)) = some (g, at_ r)) ∧ encg g = f y ∧ Pg g) →
    ∃ gs, gs.length = ys.length ∧ (∀ r, decList el ys.length (at_ (ys.flatMap f ++ r)) = some (gs, at_ r)) ∧ gs.flatMap encg = ys.flatMap f ∧ ∀ g ∈ gs, Pg g
  | [], _ => ⟨[], rfl, fun r => rfl, rfl, by simp⟩
  | y :: ys, h => by
    obtain ⟨g, h1, h2, h3⟩ := h y (by simp)
    obtain ⟨gs, k1, k2, k3, k4⟩ := list_back ys fun z hz => h z (by simp [hz])
    refine ⟨g :: gs, by simp [k1], fun r => ?_, by simp [h2, k3], fun z hz => ?_⟩
    · simp only [List.flatMap_cons, List.length_cons, decList, List.append_assoc, h1, k2]
    · rcases List.mem_cons.1 hz with rfl | hz
      · exact h3
      · exact k4 z hz
theorem lst_back {x nul nv : Bool} {lb : LB} {ver : Int} {sz : Nat} {el : RS → Option (GV × RS)} {f : TR → List UInt8} {encg : GV → List UInt8} {Pg : GV → Prop} {ys : List TR} (hl : ys.length ≤ 32767) (hpos : ∀ y ∈ ys, 0 < (f y).length)
    (h : ∀ y ∈ ys, ∃ g, (∀ r, el (at_ (f y ++ r)) = some (g, at_ r)) ∧ encg g = f y ∧ Pg g) (hnl : nul = true → ∃ V, lb.nul = some V ∧ V ≤ ver) (hnv : nv = true → nul = true ∧ ys = []) :
    ∃ isnil s es, (∀ r, decLst decStd x lb ver sz el (at_ (countedP x nv ys.length 4 ++ ys.flatMap f ++ r)) = some (.lst isnil s es, at_ r)) ∧ encLen nul x isnil es.length ++ es.flatMap encg = countedP x nv ys.length 4 ++ ys.flatMap f ∧
      (isnil = false → s = sz) ∧ es.length < 4294967295 ∧ ∀ y ∈ es, Pg y := by
  obtain ⟨gs, k1, k2, k3, k4⟩ := list_back ys h
  have hn := flat_len hpos
  cases nv with
  | true =>
    obtain ⟨hnul, rfl⟩ := hnv rfl
    obtain ⟨V, hV, hv⟩ := hnl hnul
    subst hnul
    have hgs : gs = [] := List.length_eq_zero_iff.1 k1
    subst hgs
    refine ⟨true, 0, [], fun r => ?_, ?_, fun h => (by cases h), by simp, by simp⟩
    · unfold decLst
      simp only [List.length_nil, List.flatMap_nil, List.append_nil]
      rw [lenN_rd]
      simp only [Bool.false_eq_true, if_false, LB.nil_some hV hv]
      rfl
    · cases x <;> simp [encLen, countedP]
  | false =>
    refine ⟨lb.nil ver ys.length, if lb.nil ver ys.length = true then 0 else sz, gs, fun r => ?_, ?_, fun hi => ?_, by omega, k4⟩
    · unfold decLst
      rw [List.append_assoc, len_rd hl (by simp only [List.length_append]; omega)]
      simp only [Bool.false_eq_true, if_false, Int.toNat_natCast, k2]
    · rw [k3, k1]
      cases nul with
      | false => cases x <;> simp [encLen, countedP]
      | true =>
        obtain ⟨V, hV, hv⟩ := hnl rfl
        have e : lb.nil ver ys.length = false := by rw [LB.nil_some hV hv]; simp
        rw [e]
        cases x <;> simp [encLen, countedP]
    · rw [if_neg (by simp [hi])]
end Go.Msk

namespace Go.Msk
open Go.RowKit
set_option maxRecDepth 100000
def FD.nulB (f : FD) (ver : Int) : Bool := decide (f.null ≥ 0) && decide (ver ≥ f.null)
def neB (ver : Int) (x : Bool) (fds : List FD) : Bool := x || fds.any fun f => decide (f.tag < 0) && (f.hasV ver && !decide (f.kind = 10))
theorem FD.enc_eq' (ver : Int) (x : Bool) (f : FD) (t : TR) : f.enc ver x t = fieldP x f.kind f.of f.null (f.nullV ver t) (fun y => joinP x (bodyP ver x f.sub 0 y) (unknownP f.sub y.u)) t := by
  obtain ⟨k, a, b, c, tag, d, e, sub⟩ := f; rfl
theorem rt_cons {decF : RS → Option (GV × RS)} {restD : RS → Option (List GV × RS)} {l1 l2 : List UInt8} {g : GV} {gs : List GV} (h1 : ∀ r, decF (at_ (l1 ++ r)) = some (g, at_ r)) (h2 : ∀ r, restD (at_ (l2 ++ r)) = some (gs, at_ r)) :
    ∀ r, consD (decF (at_ ((l1 ++ l2) ++ r))) restD = some (g :: gs, at_ r) := by
  intro r
  rw [List.append_assoc, h1]
  simp only [consD, h2]
def fE (ver : Int) (x : Bool) (f : FD) (t : TR) (i : Nat) : List UInt8 := if f.hasV ver = true then f.enc ver x (t.at i) else []
theorem body_cons {ver : Int} {x : Bool} {f : FD} {fs : List FD} {i : Nat} {t : TR} {z : List UInt8} (ht : f.tag < 0) : bodyP ver x (f :: fs) i t ++ z = fE ver x f t i ++ (bodyP ver x fs (i + 1) t ++ z) := by
  simp only [bodyP, fE, ht, true_and, List.append_assoc]
theorem kok_body {ver : Int} {x : Bool} {sub : List FD} {y : TR} (hp : FD.plainL sub = true) : joinP x (bodyP ver x sub 0 y) (unknownP sub y.u) = bodyP ver x sub 0 y ++ tailP x y.u := by
  rw [unknownP_plain hp]; rfl
theorem TR.kok_mem {t y : TR} (h : t.kok) (hy : y ∈ t.l) : y.kok := by
  cases t with
  | mk n s b l u => exact TR.kokL_mem h.2 y hy
theorem widthP_pos (k : Int) : 0 < widthP k := by
  unfold widthP; repeat' split
  all_goals omega
theorem countedP_pos (x nl : Bool) (n k : Nat) (hk : 0 < k) : 0 < (countedP x nl n k).length := by
  have := uvE_pos (n + 1)
  unfold countedP
  cases x <;> cases nl <;> simp [beI_length] <;> omega
theorem valP_pos (x : Bool) (k : Int) (part : TR → List UInt8) (nl : Bool) (t : TR) (h : k ≠ 10) : 0 < (valP x k part nl t).length := by
  unfold valP
  by_cases h0 : k = 0
  · rw [if_pos h0]; simp
  rw [if_neg h0]
  by_cases h7 : k = 7
  · rw [if_pos h7]; simp [uuidP]; omega
  rw [if_neg h7]
  by_cases h8 : k = 8
  · rw [if_pos h8, List.length_append]; have := countedP_pos x nl (if nl = true then [] else wholeP t.s).length 2 (by omega); omega
  rw [if_neg h8]
  by_cases h9 : k = 9
  · rw [if_pos h9, List.length_append]; have := countedP_pos x nl (if nl = true then [] else wholeP t.s).length 4 (by omega); omega
  rw [if_neg h9, if_neg h, beI_length]
  exact widthP_pos k
theorem enc_pos {ver : Int} {x : Bool} {f : FD} {t : TR} (h : f.kind ≠ 10) : 0 < (f.enc ver x t).length := by
  rw [FD.enc_eq']
  unfold fieldP
  by_cases h11 : f.kind = 11
  · rw [if_pos h11, List.length_append]
    have := countedP_pos x (f.nullV ver t) (if f.nullV ver t = true then [] else t.l.take 32767).length 4 (by omega)
    omega
  · rw [if_neg h11, if_neg (by simp [h])]
    exact valP_pos x _ _ _ _ h
theorem body_pos {ver : Int} {x : Bool} : ∀ {fds : List FD} {i : Nat} {t : TR}, neB ver x fds = true → 0 < (bodyP ver x fds i t ++ tailP x t.u).length := by
  intro fds i t h
  cases x with
  | true => simp only [tailP, if_true, List.length_append]; have := uvE_pos (unk t.u).length; omega
  | false =>
    simp only [neB, Bool.false_or] at h
    induction fds generalizing i with
    | nil => simp at h
    | cons f fs ih =>
      simp only [List.any_cons, Bool.or_eq_true] at h
      simp only [bodyP, List.length_append]
      rcases h with h | h
      · simp only [Bool.and_eq_true, decide_eq_true_eq, Bool.not_eq_true', decide_eq_false_iff_not] at h
        rw [if_pos ⟨h.1, h.2.1⟩]
        have := enc_pos (ver := ver) (x := false) (t := t.at i) h.2.2
        omega
      · have := ih (i := i + 1) h
        simp only [List.length_append] at this
        omega
theorem arr_encN {ver : Int} {x : Bool} {f : FD} {t : TR} (h : f.kind = 11) :
    f.enc ver x t = countedP x (f.nullV ver t) (if f.nullV ver t = true then [] else t.l.take 32767).length 4 ++ (if f.nullV ver t = true then [] else t.l.take 32767).flatMap (valP x f.of (fun y => joinP x (bodyP ver x f.sub 0 y) (unknownP f.sub y.u)) false) := by
  rw [FD.enc_eq']
  unfold fieldP
  rw [if_pos h]
theorem take_le (l : List TR) : (l.take 32767).length ≤ 32767 := by simp; omega
end Go.Msk

namespace Go.Msk
open Go.RowKit
set_option maxRecDepth 100000
def nulOk (nul : Bool) (lb : LB) (f : FD) (ver : Int) : Bool := if nul then (match lb.nul with
  | some V => decide (V ≤ ver)
  | none => false) else !f.nulB ver
theorem nulOk_some {nul : Bool} {lb : LB} {f : FD} {ver : Int} (h : nulOk nul lb f ver = true) : nul = true → ∃ V, lb.nul = some V ∧ V ≤ ver := by
  intro hn
  subst hn
  unfold nulOk at h
  cases hl : lb.nul with
  | none => rw [hl] at h; simp at h
  | some V => rw [hl] at h; exact ⟨V, rfl, by simpa using h⟩
theorem nulOk_nv {nul : Bool} {lb : LB} {f : FD} {ver : Int} {t : TR} {ys : List TR} (h : nulOk nul lb f ver = true) : f.nullV ver t = true → nul = true ∧ (if f.nullV ver t = true then [] else ys) = [] := by
  intro hn
  refine ⟨?_, if_pos hn⟩
  cases nul with
  | true => rfl
  | false =>
    simp only [nulOk, Bool.false_eq_true, if_false, FD.nulB, Bool.not_eq_true'] at h
    simp only [FD.nullV, h, Bool.and_false] at hn
    simp at hn
theorem take_leN {b : Bool} (l : List TR) : (if b = true then [] else l.take 32767).length ≤ 32767 := by split <;> simp; omega
def PK.eqB (p q : PK) : Bool := decide (p = q)
def Sc.rtB (ver : Int) (x : Bool) : Sc → List FD → Ap → Bool
  | .nil, fds, ap => match fds, ap with
    | [], .nil => !x
    | _, _ => false
  | .tags _, fds, ap => match fds, ap with
    | [], .tags _ _ _ => true
    | _, _ => false
  | .prm vc _ _ p d rest, fds, ap => match fds, ap with
    | f :: fs, .prm vc' _ p' _ rest' => decide (f.tag < 0) && (vc.holds ver == f.hasV ver) && (vc'.holds ver == f.hasV ver) && decide (d.size = 1) && (!f.hasV ver || (kindOk f.kind (f.nulB ver) p && p.eqB p' && !p.eqB .uuid)) && rest.rtB ver x fs rest'
    | _, _ => false
  | .enm vc _ _ p d rest, fds, ap => match fds, ap with
    | f :: fs, .prm vc' _ p' _ rest' => decide (f.tag < 0) && (vc.holds ver == f.hasV ver) && (vc'.holds ver == f.hasV ver) && decide (d.size = 1) && (!f.hasV ver || (kindOk f.kind (f.nulB ver) p && p.eqB p' && !p.eqB .uuid)) && rest.rtB ver x fs rest'
    | _, _ => false
  | .vst vc V _ _ rest, fds, ap => match fds, ap with
    | f :: fs, .vst vc' V' _ _ rest' => decide (f.tag < 0) && (vc.holds ver == f.hasV ver) && (vc'.holds ver == f.hasV ver) && (!f.hasV ver || (decide (f.kind = 8) && decide (V = V') && (!decide (ver < V) || !f.nulB ver))) && rest.rtB ver x fs rest'
    | _, _ => false
  | .uid vc _ rest, fds, ap => match fds, ap with
    | f :: fs, .uid vc' _ rest' => decide (f.tag < 0) && (vc.holds ver == f.hasV ver) && (vc'.holds ver == f.hasV ver) && (!f.hasV ver || decide (f.kind = 7)) && rest.rtB ver x fs rest'
    | _, _ => false
  | .lsp vc _ lb d _ _ p rest, fds, ap => match fds, ap with
    | f :: fs, .lsp vc' nul _ p' _ rest' => decide (f.tag < 0) && (vc.holds ver == f.hasV ver) && (vc'.holds ver == f.hasV ver) && (!f.hasV ver || (decide (f.kind = 11) && kindOk f.of false p && p.eqB p' && !p.eqB .uuid && decide (d.size = 1) && nulOk nul lb f ver)) && rest.rtB ver x fs rest'
    | _, _ => false
  | .lss vc _ lb _ _ body rest, fds, ap => match fds, ap with
    | f :: fs, .lss vc' nul _ sz body' rest' => decide (f.tag < 0) && (vc.holds ver == f.hasV ver) && (vc'.holds ver == f.hasV ver) && (!f.hasV ver || (decide (f.kind = 11) && decide (f.of = 10) && decide (body.size = sz) && nulOk nul lb f ver && neB ver x f.sub && FD.plainL f.sub && body.rtB ver x f.sub body')) && rest.rtB ver x fs rest'
    | _, _ => false
  | .sub vc _ body rest, fds, ap => match fds, ap with
    | f :: fs, .sub vc' sz body' rest' => decide (f.tag < 0) && (vc.holds ver == f.hasV ver) && (vc'.holds ver == f.hasV ver) && decide (body.size = sz) && (!f.hasV ver || (decide (f.kind = 10) && decide (f.null < 0) && FD.plainL f.sub && body.rtB ver x f.sub body')) && rest.rtB ver x fs rest'
    | _, _ => false
theorem Sc.wid_d : ∀ sc : Sc, GV.wids sc.dgv = sc.size := by
  intro sc
  have h := sc.drep [] (default : World)
  have : ∀ (l : List GV) (css : List (List Value)), RepL [] (default : World) l css → GV.wids l = css.flatten.length := by
    intro l
    induction l with
    | nil => intro css h; cases h; rfl
    | cons g l ih => intro css h; cases h with | cons h1 h2 => simp [GV.wids, ih _ h2, h1.wid]
  exact this _ _ h
def Back (ver : Int) (x : Bool) (sc : Sc) (ap : Ap) (l : List UInt8) (n : Nat) : Prop :=
  ∃ gs, (∀ r, sc.dec decStd ver x (at_ (l ++ r)) = some (gs, at_ r)) ∧ ap.enc ver x gs = l ∧ ap.Fit ver gs ∧ GV.wids gs = n
theorem eqB_of {p q : PK} (h : p.eqB q = true) : p = q := by simpa [PK.eqB] using h
theorem neB_of {p q : PK} (h : (!p.eqB q) = true) : p ≠ q := by simpa [PK.eqB] using h
theorem prm_back {ver : Int} {x : Bool} {f : FD} {t : TR} {i : Nat} {p : PK} {d : Df} (hd : d.size = 1) (hh : f.hasV ver = true → kindOk f.kind (f.nulB ver) p = true ∧ p ≠ .uuid) :
    ∃ g, (∀ r, (if f.hasV ver = true then some (decStd.prim p x (at_ (fE ver x f t i ++ r))) else some (d.gv, at_ (fE ver x f t i ++ r))) = some (g, at_ r)) ∧ (if f.hasV ver = true then encP p x g else []) = fE ver x f t i ∧ g.wid = 1 ∧ (f.hasV ver = true → FitP p g ∧ p ≠ .uuid) := by
  by_cases hv : f.hasV ver = true
  · obtain ⟨hk, hu⟩ := hh hv
    have hf : f.enc ver x (t.at i) = valP x f.kind (fun y => joinP x (bodyP ver x f.sub 0 y) (unknownP f.sub y.u)) (f.nullV ver (t.at i)) (t.at i) := by
      rw [FD.enc_eq']
      have h11 : f.kind ≠ 11 := by cases p <;> simp [kindOk] at hk <;> omega
      have h10 : f.kind ≠ 10 := by cases p <;> simp [kindOk] at hk <;> omega
      unfold fieldP
      rw [if_neg h11, if_neg (by simp [h10])]
    obtain ⟨g, hb⟩ := backP (x := x) (part := fun y => joinP x (bodyP ver x f.sub 0 y) (unknownP f.sub y.u)) (null := f.nullV ver (t.at i)) (t := t.at i) hk (by
      intro hn
      simp only [FD.nullV, FD.nulB, Bool.and_eq_true] at hn ⊢
      exact hn.2)
    have e : fE ver x f t i = valP x f.kind (fun y => joinP x (bodyP ver x f.sub 0 y) (unknownP f.sub y.u)) (f.nullV ver (t.at i)) (t.at i) := by unfold fE; rw [if_pos hv, hf]
    refine ⟨g, fun r => ?_, ?_, ?_, fun _ => ⟨hb.fit, hu⟩⟩
    · rw [if_pos hv, e, hb.rd]
    · rw [if_pos hv, e, hb.enc]
    · rw [hb.wid]; cases p <;> simp_all [PK.size]
  · refine ⟨d.gv, fun r => ?_, ?_, by rw [d.wid, hd], fun h => absurd h hv⟩
    · rw [if_neg hv]; simp [fE, hv]
    · rw [if_neg hv]; simp [fE, hv]
end Go.Msk

namespace Go.Msk
open Go.RowKit
set_option maxRecDepth 100000
theorem Sc.rt {ver : Int} {x : Bool} : ∀ (sc : Sc) (fds : List FD) (ap : Ap) (i : Nat) (t : TR), sc.rtB ver x fds ap = true → t.kok → Back ver x sc ap (bodyP ver x fds i t ++ tailP x t.u) sc.size := by
  intro sc
  induction sc with
  | nil =>
    intro fds ap i t h hk
    cases fds <;> cases ap <;> simp [Sc.rtB] at h
    subst h
    exact ⟨[], fun r => rfl, rfl, rfl, rfl⟩
  | tags f =>
    intro fds ap i t h hk
    cases fds <;> cases ap <;> simp [Sc.rtB] at h
    have hku : ∀ p ∈ t.u, p.1 < 4294967296 := by cases t; exact hk.1
    cases x with
    | true =>
      obtain ⟨m, h1, h2, h3, h4⟩ := tags_back hku
      refine ⟨[.tag m], fun r => ?_, ?_, ⟨_, rfl, m, rfl, h3, h4⟩, rfl⟩
      · simp only [Sc.dec, if_true, bodyP, List.nil_append]
        show some ([GV.tag (rdTags _).1], (rdTags _).2) = _
        rw [h1]
      · simpa [Ap.enc, bodyP] using h2
    | false => exact ⟨[.tag []], fun r => rfl, rfl, ⟨_, rfl, [], rfl, by simp, by simp⟩, rfl⟩
  | prm vc init rr p d rest ih =>
    intro fds ap i t h hk
    cases fds with
    | nil => cases ap <;> simp [Sc.rtB] at h
    | cons f fs =>
    cases ap with
    | prm vc' cp p' a rest' =>
      simp only [Sc.rtB, Bool.and_eq_true, decide_eq_true_eq, beq_iff_eq] at h
      obtain ⟨⟨⟨⟨⟨htag, hv⟩, hv'⟩, hsz⟩, hfld⟩, hrest⟩ := h
      obtain ⟨gs, k1, k2, k3, k4⟩ := ih fs rest' (i + 1) t hrest hk
      have hfld' : f.hasV ver = true → (kindOk f.kind (f.nulB ver) p = true ∧ p ≠ .uuid) ∧ p = p' := fun hh => by
        rw [hh] at hfld
        simp only [Bool.not_true, Bool.false_or, Bool.and_eq_true] at hfld
        exact ⟨⟨hfld.1.1, neB_of hfld.2⟩, eqB_of hfld.1.2⟩
      obtain ⟨g, g1, g2, g3, g4⟩ := prm_back (x := x) (t := t) (i := i) hsz fun hh => (hfld' hh).1
      rw [body_cons htag]
      refine ⟨g :: gs, fun r => ?_, ?_, ⟨g, gs, rfl, g3, fun hh => ?_, k3⟩, ?_⟩
      · simp only [Sc.dec, hv]
        exact rt_cons (decF := fun s => if f.hasV ver = true then some (decStd.prim p x s) else some (d.gv, s)) g1 k1 r
      · simp only [Ap.enc, hv', k2]
        rw [← g2]
        by_cases hh : f.hasV ver = true
        · rw [(hfld' hh).2]
        · simp [hh]
      · rw [hv'] at hh
        obtain ⟨q1, q2⟩ := g4 hh
        rw [← (hfld' hh).2]
        exact ⟨q1, q2⟩
      · simp only [GV.wids, g3, k4, Sc.size, Sc.dcs, List.flatten_cons, List.length_append, d.cells_length, hsz]
    | _ => simp [Sc.rtB] at h
  | enm vc init rr p d rest ih =>
    intro fds ap i t h hk
    cases fds with
    | nil => cases ap <;> simp [Sc.rtB] at h
    | cons f fs =>
    cases ap with
    | prm vc' cp p' a rest' =>
      simp only [Sc.rtB, Bool.and_eq_true, decide_eq_true_eq, beq_iff_eq] at h
      obtain ⟨⟨⟨⟨⟨htag, hv⟩, hv'⟩, hsz⟩, hfld⟩, hrest⟩ := h
      obtain ⟨gs, k1, k2, k3, k4⟩ := ih fs rest' (i + 1) t hrest hk
      have hfld' : f.hasV ver = true → (kindOk f.kind (f.nulB ver) p = true ∧ p ≠ .uuid) ∧ p = p' := fun hh => by
        rw [hh] at hfld
        simp only [Bool.not_true, Bool.false_or, Bool.and_eq_true] at hfld
        exact ⟨⟨hfld.1.1, neB_of hfld.2⟩, eqB_of hfld.1.2⟩
      obtain ⟨g, g1, g2, g3, g4⟩ := prm_back (x := x) (t := t) (i := i) hsz fun hh => (hfld' hh).1
      rw [body_cons htag]
      refine ⟨g :: gs, fun r => ?_, ?_, ⟨g, gs, rfl, g3, fun hh => ?_, k3⟩, ?_⟩
      · simp only [Sc.dec, hv]
        exact rt_cons (decF := fun s => if f.hasV ver = true then some (decStd.prim p x s) else some (d.gv, s)) g1 k1 r
      · simp only [Ap.enc, hv', k2]
        rw [← g2]
        by_cases hh : f.hasV ver = true
        · rw [(hfld' hh).2]
        · simp [hh]
      · rw [hv'] at hh
        obtain ⟨q1, q2⟩ := g4 hh
        rw [← (hfld' hh).2]
        exact ⟨q1, q2⟩
      · simp only [GV.wids, g3, k4, Sc.size, Sc.dcs, List.flatten_cons, List.length_append, d.cells_length, hsz]
    | _ => simp [Sc.rtB] at h
  | vst vc V r1 r2 rest ih =>
    intro fds ap i t h hk
    cases fds with
    | nil => cases ap <;> simp [Sc.rtB] at h
    | cons f fs =>
    cases ap with
    | vst vc' V' a1 a2 rest' =>
      simp only [Sc.rtB, Bool.and_eq_true, decide_eq_true_eq, beq_iff_eq] at h
      obtain ⟨⟨⟨⟨htag, hv⟩, hv'⟩, hfld⟩, hrest⟩ := h
      obtain ⟨gs, k1, k2, k3, k4⟩ := ih fs rest' (i + 1) t hrest hk
      rw [body_cons htag]
      have key : ∃ g, (∀ r, (if f.hasV ver = true then some (decV decStd x V ver (at_ (fE ver x f t i ++ r))) else some (GV.nstr none, at_ (fE ver x f t i ++ r))) = some (g, at_ r)) ∧ (if f.hasV ver = true then encV V' ver x g else []) = fE ver x f t i ∧ g.wid = 1 ∧ (f.hasV ver = true → FitP .nstr g) := by
        by_cases hh : f.hasV ver = true
        · rw [hh] at hfld
          simp only [Bool.not_true, Bool.false_or, Bool.and_eq_true, decide_eq_true_eq] at hfld
          obtain ⟨⟨hk8, rfl⟩, hn⟩ := hfld
          have hf : f.enc ver x (t.at i) = valP x f.kind (fun y => joinP x (bodyP ver x f.sub 0 y) (unknownP f.sub y.u)) (f.nullV ver (t.at i)) (t.at i) := by
            rw [FD.enc_eq']
            unfold fieldP
            rw [if_neg (by omega), if_neg (by omega)]
          have hnv : f.nullV ver (t.at i) = true → f.nulB ver = true := by
            intro hn
            simp only [FD.nullV, FD.nulB, Bool.and_eq_true] at hn ⊢
            exact hn.2
          have e : fE ver x f t i = valP x f.kind (fun y => joinP x (bodyP ver x f.sub 0 y) (unknownP f.sub y.u)) (f.nullV ver (t.at i)) (t.at i) := by unfold fE; rw [if_pos hh, hf]
          by_cases hlt : ver < V
          · have hnb : f.nulB ver = false := by
              rw [decide_eq_true hlt] at hn
              simpa using hn
            have hb := readP (x := x) (p := .str) (kind := f.kind) (nul := f.nulB ver) (part := fun y => joinP x (bodyP ver x f.sub 0 y) (unknownP f.sub y.u)) (null := f.nullV ver (t.at i)) (t := t.at i) (by simp [kindOk, hk8, hnb]) hnv
            obtain ⟨g, hb2⟩ := backP (x := x) (p := .str) (kind := f.kind) (nul := f.nulB ver) (part := fun y => joinP x (bodyP ver x f.sub 0 y) (unknownP f.sub y.u)) (null := f.nullV ver (t.at i)) (t := t.at i) (by simp [kindOk, hk8, hnb]) hnv
            have eg : g = .num (Msk.str (wholeP (t.at i).s)) := by
              have q1 := hb.rd []
              have q2 := hb2.rd []
              rw [q1] at q2
              exact (Prod.mk.inj q2).1.symm
            subst eg
            refine ⟨.nstr (some (wholeP (t.at i).s)), fun r => ?_, ?_, rfl, fun _ => ⟨_, rfl, fun s hs => ?_⟩⟩
            · rw [if_pos hh, e]
              unfold decV
              rw [if_pos hlt, hb2.rd]
              simp [GV.toN, Msk.str]
            · rw [if_pos hh, e]
              unfold encV
              rw [if_pos hlt]
              exact hb2.enc
            · simp only [Option.some.injEq] at hs
              subst hs
              have := wholeP_le (t.at i).s
              omega
          · obtain ⟨g, hb⟩ := backP (x := x) (p := .nstr) (kind := f.kind) (nul := f.nulB ver) (part := fun y => joinP x (bodyP ver x f.sub 0 y) (unknownP f.sub y.u)) (null := f.nullV ver (t.at i)) (t := t.at i) (by simp [kindOk, hk8]) hnv
            refine ⟨g, fun r => ?_, ?_, hb.wid, fun _ => hb.fit⟩
            · rw [if_pos hh, e]
              unfold decV
              rw [if_neg hlt, hb.rd]
            · rw [if_pos hh, e]
              unfold encV
              rw [if_neg hlt]
              exact hb.enc
        · refine ⟨.nstr none, fun r => ?_, ?_, rfl, fun h => absurd h hh⟩
          · rw [if_neg hh]; simp [fE, hh]
          · rw [if_neg hh]; simp [fE, hh]
      obtain ⟨g, g1, g2, g3, g4⟩ := key
      refine ⟨g :: gs, fun r => ?_, ?_, ⟨g, gs, rfl, g3, fun hh => g4 (by rw [← hv']; exact hh), k3⟩, ?_⟩
      · simp only [Sc.dec, hv]
        exact rt_cons (decF := fun s => if f.hasV ver = true then some (decV decStd x V ver s) else some (.nstr none, s)) g1 k1 r
      · simp only [Ap.enc, hv', k2, g2]
      · simp [GV.wids, g3, k4, Sc.size, Sc.dcs]; omega
    | _ => simp [Sc.rtB] at h
  | uid vc ff rest ih =>
    intro fds ap i t h hk
    cases fds with
    | nil => cases ap <;> simp [Sc.rtB] at h
    | cons f fs =>
    cases ap with
    | uid vc' f' rest' =>
      simp only [Sc.rtB, Bool.and_eq_true, decide_eq_true_eq, beq_iff_eq] at h
      obtain ⟨⟨⟨⟨htag, hv⟩, hv'⟩, hfld⟩, hrest⟩ := h
      obtain ⟨gs, k1, k2, k3, k4⟩ := ih fs rest' (i + 1) t hrest hk
      rw [body_cons htag]
      have key : ∃ g, (∀ r, (if f.hasV ver = true then some (decStd.prim .uuid x (at_ (fE ver x f t i ++ r))) else some (GV.arr (List.replicate 16 0), at_ (fE ver x f t i ++ r))) = some (g, at_ r)) ∧ (if f.hasV ver = true then encP .uuid x g else []) = fE ver x f t i ∧ g.wid = 16 ∧ (f.hasV ver = true → FitP .uuid g) := by
        by_cases hh : f.hasV ver = true
        · rw [hh] at hfld
          simp only [Bool.not_true, Bool.false_or, decide_eq_true_eq] at hfld
          have hf : f.enc ver x (t.at i) = valP x 7 (fun y => joinP x (bodyP ver x f.sub 0 y) (unknownP f.sub y.u)) (f.nullV ver (t.at i)) (t.at i) := by
            rw [FD.enc_eq']
            unfold fieldP
            rw [if_neg (by omega), if_neg (by omega), hfld]
          obtain ⟨g, hb⟩ := backP (x := x) (p := .uuid) (kind := 7) (nul := true) (null := f.nullV ver (t.at i)) (part := fun y => joinP x (bodyP ver x f.sub 0 y) (unknownP f.sub y.u)) (t := t.at i) rfl (fun _ => rfl)
          have e : fE ver x f t i = valP x 7 (fun y => joinP x (bodyP ver x f.sub 0 y) (unknownP f.sub y.u)) (f.nullV ver (t.at i)) (t.at i) := by unfold fE; rw [if_pos hh, hf]
          refine ⟨g, fun r => ?_, ?_, hb.wid, fun _ => hb.fit⟩
          · rw [if_pos hh, e, hb.rd]
          · rw [if_pos hh, e, hb.enc]
        · refine ⟨.arr (List.replicate 16 0), fun r => ?_, ?_, by simp [GV.wid], fun h => absurd h hh⟩
          · rw [if_neg hh]; simp [fE, hh]
          · rw [if_neg hh]; simp [fE, hh]
      obtain ⟨g, g1, g2, g3, g4⟩ := key
      refine ⟨g :: gs, fun r => ?_, ?_, ⟨g, gs, rfl, g3, fun hh => g4 (by rw [← hv']; exact hh), k3⟩, ?_⟩
      · simp only [Sc.dec, hv]
        exact rt_cons (decF := fun s => if f.hasV ver = true then some (decStd.prim .uuid x s) else some (.arr (List.replicate 16 0), s)) g1 k1 r
      · simp only [Ap.enc, hv', k2, g2]
      · simp [GV.wids, g3, k4, Sc.size, Sc.dcs, u8s]; omega
    | _ => simp [Sc.rtB] at h
  | lsp vc ln bytes d init rr p rest ih =>
    intro fds ap i t h hk
    cases fds with
    | nil => cases ap <;> simp [Sc.rtB] at h
    | cons f fs =>
    cases ap with
    | lsp vc' nul ln' p' a rest' =>
      simp only [Sc.rtB, Bool.and_eq_true, decide_eq_true_eq, beq_iff_eq] at h
      obtain ⟨⟨⟨⟨htag, hv⟩, hv'⟩, hfld⟩, hrest⟩ := h
      obtain ⟨gs, k1, k2, k3, k4⟩ := ih fs rest' (i + 1) t hrest hk
      rw [body_cons htag]
      have key : ∃ g, (∀ r, (if f.hasV ver = true then decLst decStd x bytes ver d.size (fun s => some (decStd.prim p x s)) (at_ (fE ver x f t i ++ r)) else some (GV.lst true 0 [], at_ (fE ver x f t i ++ r))) = some (g, at_ r)) ∧
          (if f.hasV ver = true then (match g with | .lst isnil _ es => encLen nul x isnil es.length ++ es.flatMap (encP p' x) | _ => []) else []) = fE ver x f t i ∧ g.wid = 1 ∧ (f.hasV ver = true → FitL 1 (FitP p') g ∧ p' ≠ .uuid) := by
        by_cases hh : f.hasV ver = true
        · rw [hh] at hfld
          simp only [Bool.not_true, Bool.false_or, Bool.and_eq_true, decide_eq_true_eq, Bool.not_eq_true'] at hfld
          obtain ⟨⟨⟨⟨⟨hkind, hko⟩, hpp⟩, hpu⟩, hsz⟩, hn⟩ := hfld
          have hpp := eqB_of hpp
          have hpu : p ≠ .uuid := neB_of (by simp [hpu])
          subst hpp
          have h10 : f.of ≠ 10 := by cases p <;> simp [kindOk] at hko <;> omega
          obtain ⟨isnil, s, es, e1, e2, e3, e4, e5⟩ := lst_back (x := x) (sz := d.size) (el := fun s => some (decStd.prim p x s)) (f := valP x f.of (fun y => joinP x (bodyP ver x f.sub 0 y) (unknownP f.sub y.u)) false) (encg := encP p x) (Pg := FitP p)
            (nul := nul) (nv := f.nullV ver (t.at i)) (lb := bytes) (ver := ver) (take_leN (b := f.nullV ver (t.at i)) (t.at i).l) (fun y hy => valP_pos x _ _ _ _ h10) (fun y hy => by
              obtain ⟨g, hb⟩ := backP (x := x) (null := false) (part := fun y => joinP x (bodyP ver x f.sub 0 y) (unknownP f.sub y.u)) (t := y) hko (by simp)
              exact ⟨g, fun r => by rw [hb.rd], hb.enc, hb.fit⟩) (nulOk_some hn) (nulOk_nv hn)
          have e : fE ver x f t i = countedP x (f.nullV ver (t.at i)) (if f.nullV ver (t.at i) = true then [] else (t.at i).l.take 32767).length 4 ++ (if f.nullV ver (t.at i) = true then [] else (t.at i).l.take 32767).flatMap (valP x f.of (fun y => joinP x (bodyP ver x f.sub 0 y) (unknownP f.sub y.u)) false) := by
            unfold fE; rw [if_pos hh, arr_encN hkind]
          refine ⟨.lst isnil s es, fun r => ?_, ?_, rfl, fun _ => ⟨⟨isnil, s, es, rfl, fun q => by rw [e3 q, hsz], e4, e5⟩, hpu⟩⟩
          · rw [if_pos hh, e, e1]
          · rw [if_pos hh, e]; exact e2
        · refine ⟨.lst true 0 [], fun r => ?_, ?_, rfl, fun h => absurd h hh⟩
          · rw [if_neg hh]; simp [fE, hh]
          · rw [if_neg hh]; simp [fE, hh]
      obtain ⟨g, g1, g2, g3, g4⟩ := key
      refine ⟨g :: gs, fun r => ?_, ?_, ⟨g, gs, rfl, g3, fun hh => g4 (by rw [← hv']; exact hh), k3⟩, ?_⟩
      · simp only [Sc.dec, hv]
        exact rt_cons (decF := fun s => if f.hasV ver = true then decLst decStd x bytes ver d.size (fun s => some (decStd.prim p x s)) s else some (.lst true 0 [], s)) g1 k1 r
      · simp only [Ap.enc, hv', k2]
        rw [← g2]
        rfl
      · simp [GV.wids, g3, k4, Sc.size, Sc.dcs]; omega
    | _ => simp [Sc.rtB] at h
  | lss vc ln bytes z dfl body rest ihb ih =>
    intro fds ap i t h hk
    cases fds with
    | nil => cases ap <;> simp [Sc.rtB] at h
    | cons f fs =>
    cases ap with
    | lss vc' nul ln' sz body' rest' =>
      simp only [Sc.rtB, Bool.and_eq_true, decide_eq_true_eq, beq_iff_eq] at h
      obtain ⟨⟨⟨⟨htag, hv⟩, hv'⟩, hfld⟩, hrest⟩ := h
      obtain ⟨gs, k1, k2, k3, k4⟩ := ih fs rest' (i + 1) t hrest hk
      rw [body_cons htag]
      have key : ∃ g, (∀ r, (if f.hasV ver = true then decLst decStd x bytes ver body.size (fun s => rcdD (body.dec decStd ver x s)) (at_ (fE ver x f t i ++ r)) else some (GV.lst true 0 [], at_ (fE ver x f t i ++ r))) = some (g, at_ r)) ∧
          (if f.hasV ver = true then (match g with | .lst isnil _ es => encLen nul x isnil es.length ++ es.flatMap (fun g => match g with | .rcd l => body'.enc ver x l | _ => []) | _ => []) else []) = fE ver x f t i ∧ g.wid = 1 ∧ (f.hasV ver = true → FitL sz (fun y => ∃ l, y = .rcd l ∧ body'.Fit ver l) g) := by
        by_cases hh : f.hasV ver = true
        · rw [hh] at hfld
          simp only [Bool.not_true, Bool.false_or, Bool.and_eq_true, decide_eq_true_eq, Bool.not_eq_true'] at hfld
          obtain ⟨⟨⟨⟨⟨⟨hkind, hof⟩, hsz⟩, hn⟩, hne⟩, hpl⟩, hbody⟩ := hfld
          have hval : ∀ y, valP x f.of (fun y => joinP x (bodyP ver x f.sub 0 y) (unknownP f.sub y.u)) false y = bodyP ver x f.sub 0 y ++ tailP x y.u := fun y => by
            rw [hof]
            show joinP x (bodyP ver x f.sub 0 y) (unknownP f.sub y.u) = _
            exact kok_body hpl
          obtain ⟨isnil, s, es, e1, e2, e3, e4, e5⟩ := lst_back (x := x) (sz := body.size) (el := fun s => rcdD (body.dec decStd ver x s)) (f := valP x f.of (fun y => joinP x (bodyP ver x f.sub 0 y) (unknownP f.sub y.u)) false)
            (encg := fun g => match g with | .rcd l => body'.enc ver x l | _ => []) (Pg := fun y => ∃ l, y = .rcd l ∧ body'.Fit ver l)
            (nul := nul) (nv := f.nullV ver (t.at i)) (lb := bytes) (ver := ver) (take_leN (b := f.nullV ver (t.at i)) (t.at i).l) (fun y hy => by rw [hval]; exact body_pos hne) (fun y hy => by
              have hy : y ∈ (t.at i).l.take 32767 := by
                split at hy
                · simp at hy
                · exact hy
              obtain ⟨gy, q1, q2, q3, q4⟩ := ihb f.sub body' 0 y hbody (TR.kok_mem (hk.at i) (List.mem_of_mem_take hy))
              refine ⟨.rcd gy, fun r => ?_, ?_, gy, rfl, q3⟩
              · rw [hval, q1]; rfl
              · rw [hval]; exact q2) (nulOk_some hn) (nulOk_nv hn)
          have e : fE ver x f t i = countedP x (f.nullV ver (t.at i)) (if f.nullV ver (t.at i) = true then [] else (t.at i).l.take 32767).length 4 ++ (if f.nullV ver (t.at i) = true then [] else (t.at i).l.take 32767).flatMap (valP x f.of (fun y => joinP x (bodyP ver x f.sub 0 y) (unknownP f.sub y.u)) false) := by
            unfold fE; rw [if_pos hh, arr_encN hkind]
          refine ⟨.lst isnil s es, fun r => ?_, ?_, rfl, fun _ => ⟨isnil, s, es, rfl, fun q => by rw [e3 q, hsz], e4, e5⟩⟩
          · rw [if_pos hh, e, e1]
          · rw [if_pos hh, e]; exact e2
        · refine ⟨.lst true 0 [], fun r => ?_, ?_, rfl, fun h => absurd h hh⟩
          · rw [if_neg hh]; simp [fE, hh]
          · rw [if_neg hh]; simp [fE, hh]
      obtain ⟨g, g1, g2, g3, g4⟩ := key
      refine ⟨g :: gs, fun r => ?_, ?_, ⟨g, gs, rfl, g3, fun hh => g4 (by rw [← hv']; exact hh), k3⟩, ?_⟩
      · simp only [Sc.dec, hv]
        exact rt_cons (decF := fun s => if f.hasV ver = true then decLst decStd x bytes ver body.size (fun s => rcdD (body.dec decStd ver x s)) s else some (.lst true 0 [], s)) g1 k1 r
      · simp only [Ap.enc, hv', k2]
        rw [← g2]
        rfl
      · simp [GV.wids, g3, k4, Sc.size, Sc.dcs]; omega
    | _ => simp [Sc.rtB] at h
  | sub vc dfl body rest ihb ih =>
    intro fds ap i t h hk
    cases fds with
    | nil => cases ap <;> simp [Sc.rtB] at h
    | cons f fs =>
    cases ap with
    | sub vc' sz body' rest' =>
      simp only [Sc.rtB, Bool.and_eq_true, decide_eq_true_eq, beq_iff_eq] at h
      obtain ⟨⟨⟨⟨⟨htag, hv⟩, hv'⟩, hsz⟩, hfld⟩, hrest⟩ := h
      obtain ⟨gs, k1, k2, k3, k4⟩ := ih fs rest' (i + 1) t hrest hk
      rw [body_cons htag]
      have key : ∃ g, (∀ r, (if f.hasV ver = true then rcdD (body.dec decStd ver x (at_ (fE ver x f t i ++ r))) else some (GV.rcd body.dgv, at_ (fE ver x f t i ++ r))) = some (g, at_ r)) ∧
          (if f.hasV ver = true then (match g with | .rcd l => body'.enc ver x l | _ => []) else []) = fE ver x f t i ∧ g.wid = sz ∧ (f.hasV ver = true → ∃ l, g = .rcd l ∧ body'.Fit ver l) := by
        by_cases hh : f.hasV ver = true
        · rw [hh] at hfld
          simp only [Bool.not_true, Bool.false_or, Bool.and_eq_true, decide_eq_true_eq] at hfld
          obtain ⟨⟨⟨hkind, hnl⟩, hpl⟩, hbody⟩ := hfld
          have hf : f.enc ver x (t.at i) = bodyP ver x f.sub 0 (t.at i) ++ tailP x (t.at i).u := by
            rw [FD.enc_eq']
            unfold fieldP
            rw [if_neg (by omega), if_neg (by omega), hkind]
            show joinP x (bodyP ver x f.sub 0 (t.at i)) (unknownP f.sub (t.at i).u) = _
            exact kok_body hpl
          have e : fE ver x f t i = bodyP ver x f.sub 0 (t.at i) ++ tailP x (t.at i).u := by unfold fE; rw [if_pos hh, hf]
          obtain ⟨gy, q1, q2, q3, q4⟩ := ihb f.sub body' 0 (t.at i) hbody (hk.at i)
          refine ⟨.rcd gy, fun r => ?_, ?_, ?_, fun _ => ⟨gy, rfl, q3⟩⟩
          · rw [if_pos hh, e, q1]; rfl
          · rw [if_pos hh, e]; exact q2
          · show GV.wids gy = sz
            rw [q4, hsz]
        · refine ⟨.rcd body.dgv, fun r => ?_, ?_, ?_, fun h => absurd h hh⟩
          · rw [if_neg hh]; simp [fE, hh]
          · rw [if_neg hh]; simp [fE, hh]
          · show GV.wids body.dgv = sz
            rw [Sc.wid_d, hsz]
      obtain ⟨g, g1, g2, g3, g4⟩ := key
      refine ⟨g :: gs, fun r => ?_, ?_, ⟨g, gs, rfl, g3, fun hh => g4 (by rw [← hv']; exact hh), k3⟩, ?_⟩
      · simp only [Sc.dec, hv]
        exact rt_cons (decF := fun s => if f.hasV ver = true then rcdD (body.dec decStd ver x s) else some (.rcd body.dgv, s)) g1 k1 r
      · simp only [Ap.enc, hv', k2]
        rw [← g2]
        rfl
      · simp only [GV.wids, g3, k4, Sc.size, Sc.dcs, List.flatten_cons, List.length_append] at hsz ⊢
        omega
    | _ => simp [Sc.rtB] at h
end Go.Msk

namespace Go.Msk
open Go.RowKit
set_option maxRecDepth 100000
def rtV (T : Top) (A : ATop) (m : MD) (ver : Int) : Bool :=
  T.rv.isNone && (T.x ver == m.isFlex ver) && (A.x ver == m.isFlex ver) && neB ver (m.isFlex ver) m.fs && T.sc.rtB ver (m.isFlex ver) m.fs A.ap
def rtOk (T : Top) (A : ATop) (m : MD) (most : Nat) : Bool := FD.plainL m.fs && (List.range (most + 1)).all fun v => rtV T A m (v : Nat)
theorem top_rt {T : Top} {A : ATop} {m : MD} {most : Nat} (h : rtOk T A m most = true) {ver : Int} (h0 : 0 ≤ ver) (h1 : ver ≤ most) {t : TR} (hk : t.kok) :
    0 < (writeP m ver t).length ∧ ∃ gs, T.dec decStd ver (at_ (writeP m ver t)) = some ((ver, gs), at_ []) ∧ A.ap.enc ver (A.x ver) gs = writeP m ver t ∧ A.ap.Fit ver gs := by
  simp only [rtOk, Bool.and_eq_true] at h
  obtain ⟨hp, h⟩ := h
  rw [List.all_eq_true] at h
  have hv := h ver.toNat (by rw [List.mem_range]; omega)
  rw [Int.toNat_of_nonneg h0] at hv
  simp only [rtV, Bool.and_eq_true, beq_iff_eq] at hv
  obtain ⟨⟨⟨⟨hrv, hx⟩, hx2⟩, hne⟩, hsc⟩ := hv
  have hrv : T.rv.isSome = false := by cases hr : T.rv <;> simp_all
  have e : writeP m ver t = bodyP ver (m.isFlex ver) m.fs 0 t ++ tailP (m.isFlex ver) t.u := by
    unfold writeP partP
    rw [unknownP_plain hp]; rfl
  obtain ⟨gs, k1, k2, k3, -⟩ := T.sc.rt m.fs A.ap 0 t hsc hk
  rw [← e] at k1 k2
  refine ⟨by rw [e]; exact body_pos hne, gs, ?_, by rw [hx2]; exact k2, k3⟩
  have := k1 []
  rw [List.append_nil] at this
  unfold Top.dec
  rw [hrv]
  simp only [Bool.false_eq_true, if_false, hx, this]
def valM (k : Int) (part : Nat) : Nat := if k = 10 then part else if k = 8 ∨ k = 9 then 32772 else 16
def tagM (x : Bool) : Nat := if x then 5 + 32767 * 32777 else 0
mutual
def FD.maxB (x : Bool) : FD → Nat
  | .mk kind _ _ _ _ _ of sub => if kind = 11 then 5 + 32767 * valM of (FD.maxL x sub + tagM x) else 1 + valM kind (FD.maxL x sub + tagM x)
def FD.maxL (x : Bool) : List FD → Nat
  | [] => 0
  | f :: l => f.maxB x + FD.maxL x l
end
theorem lenU_le (n : Nat) : lenU n ≤ 5 := by unfold lenU; repeat' split
                                             all_goals omega
theorem uvE_le {n : Nat} (h : n < 4294967296) : (uvE n).length ≤ 5 := by rw [uvE_length h]; exact lenU_le n
theorem countedP_le {x nl : Bool} {n k : Nat} (hn : n ≤ 32767) (hk : k ≤ 4) : (countedP x nl n k).length ≤ 5 := by
  have := uvE_le (n := n + 1) (by omega)
  unfold countedP
  cases x <;> cases nl <;> simp [beI_length] <;> omega
theorem valP_le {x nl : Bool} {k : Int} {part : TR → List UInt8} {t : TR} {M : Nat} (hp : (part t).length ≤ M) : (valP x k part nl t).length ≤ valM k M := by
  have hw := wholeP_le t.s
  have hw2 : (if nl = true then [] else wholeP t.s).length ≤ 32767 := by cases nl <;> simp <;> omega
  unfold valP valM
  by_cases h0 : k = 0
  · subst h0; simp
  rw [if_neg h0]
  by_cases h7 : k = 7
  · subst h7; simp [uuidP]; omega
  rw [if_neg h7]
  by_cases h8 : k = 8
  · subst h8
    have := countedP_le (x := x) (nl := nl) (k := 2) hw2 (by omega)
    simp only [if_true, List.length_append]
    rw [if_neg (show ¬ ((8 : Int) = 10) by decide), if_pos (Or.inl trivial)]; omega
  rw [if_neg h8]
  by_cases h9 : k = 9
  · subst h9
    have := countedP_le (x := x) (nl := nl) (k := 4) hw2 (by omega)
    simp only [if_true, List.length_append]
    rw [if_neg (show ¬ ((9 : Int) = 10) by decide), if_pos (Or.inr trivial)]; omega
  rw [if_neg h9]
  by_cases h10 : k = 10
  · subst h10; simp only [if_true]; exact hp
  · rw [if_neg h10, if_neg h10, if_neg (by omega), beI_length]
    have := widthP_le k; omega
theorem flat_le {α : Type} {f : α → List UInt8} {M : Nat} : ∀ {l : List α}, (∀ y ∈ l, (f y).length ≤ M) → (l.flatMap f).length ≤ l.length * M
  | [], _ => by simp
  | y :: l, h => by
    have h1 := h y (by simp)
    have h2 := flat_le (l := l) fun z hz => h z (by simp [hz])
    simp only [List.flatMap_cons, List.length_append, List.length_cons, Nat.add_mul, Nat.one_mul]
    omega
theorem tail_le {x : Bool} {u : List (Nat × List UInt8)} (h : ∀ p ∈ u, p.1 < 4294967296) : (tailP x u).length ≤ tagM x := by
  obtain ⟨h1, h2⟩ := unk_ok h
  cases x with
  | false => simp [tailP, tagM]
  | true =>
    have e1 := uvE_le (n := (unk u).length) (by omega)
    have e2 : (tagsP (unk u)).length ≤ (unk u).length * 32777 := flat_le fun p hp => by
      have a := uvE_le (h1.2 p hp)
      have b := wholeP_le p.2
      have c := uvE_le (n := (wholeP p.2).length) (by omega)
      simp only [List.length_append]; omega
    simp only [tailP, tagM, if_true, List.length_append]
    have : (unk u).length * 32777 ≤ 32767 * 32777 := Nat.mul_le_mul_right _ h2
    omega
theorem TR.kok_u {t : TR} (h : t.kok) : ∀ p ∈ t.u, p.1 < 4294967296 := by cases t; exact h.1
mutual
theorem FD.enc_le (ver : Int) (x : Bool) : ∀ (f : FD) (t : TR), f.plain = true → t.kok → (f.enc ver x t).length ≤ f.maxB x
  | .mk kind frm to null tag dfl of sub, t, hp, hk => by
    simp only [FD.plain, Bool.and_eq_true, decide_eq_true_eq] at hp
    have hpl := hp.2.2
    have part : ∀ y : TR, y.kok → (joinP x (bodyP ver x sub 0 y) (unknownP sub y.u)).length ≤ FD.maxL x sub + tagM x := fun y hy => by
      rw [kok_body hpl, List.length_append]
      have a := FD.bodyP_le ver x sub 0 y hpl hy
      have b := tail_le (x := x) (TR.kok_u hy)
      omega
    rw [FD.enc_eq']
    simp only [FD.kind, FD.of, FD.null, FD.sub, FD.maxB]
    unfold fieldP
    by_cases h11 : kind = 11
    · rw [if_pos h11, if_pos h11, List.length_append]
      have hl : (if FD.nullV (.mk kind frm to null tag dfl of sub) ver t = true then [] else t.l.take 32767).length ≤ 32767 := by
        split
        · simp
        · exact take_le _
      have c := countedP_le (x := x) (nl := FD.nullV (.mk kind frm to null tag dfl of sub) ver t) (k := 4) hl (by omega)
      have f1 : ((if FD.nullV (.mk kind frm to null tag dfl of sub) ver t = true then [] else t.l.take 32767).flatMap (valP x of (fun y => joinP x (bodyP ver x sub 0 y) (unknownP sub y.u)) false)).length ≤ (if FD.nullV (.mk kind frm to null tag dfl of sub) ver t = true then [] else t.l.take 32767).length * valM of (FD.maxL x sub + tagM x) :=
        flat_le fun y hy => valP_le (part y (by
          split at hy
          · simp at hy
          · exact TR.kok_mem hk (List.mem_of_mem_take hy)))
      have := Nat.mul_le_mul_right (valM of (FD.maxL x sub + tagM x)) hl
      omega
    · rw [if_neg h11, if_neg h11]
      split
      · rename_i h10
        have : valM kind (FD.maxL x sub + tagM x) = FD.maxL x sub + tagM x := by unfold valM; rw [if_pos h10.1]
        rw [this]
        split
        · rw [beI_length]; omega
        · rw [List.length_append, beI_length]
          have : ((fun y => joinP x (bodyP ver x sub 0 y) (unknownP sub y.u)) t).length ≤ FD.maxL x sub + tagM x := part t hk
          omega
      · have := valP_le (x := x) (nl := FD.nullV (.mk kind frm to null tag dfl of sub) ver t) (k := kind) (part := fun y => joinP x (bodyP ver x sub 0 y) (unknownP sub y.u)) (part t hk)
        omega
theorem FD.bodyP_le (ver : Int) (x : Bool) : ∀ (l : List FD) (i : Nat) (t : TR), FD.plainL l = true → t.kok → (bodyP ver x l i t).length ≤ FD.maxL x l
  | [], _, _, _, _ => by simp [bodyP]
  | f :: l, i, t, hp, hk => by
    simp only [FD.plainL, Bool.and_eq_true] at hp
    have a := FD.enc_le ver x f (t.at i) hp.1 (hk.at i)
    have b := FD.bodyP_le ver x l (i + 1) t hp.2 hk
    simp only [bodyP, FD.maxL, List.length_append]
    split
    · omega
    · simp; omega
end
theorem writeP_le {m : MD} {ver : Int} {t : TR} {N : Nat} (hp : FD.plainL m.fs = true) (hk : t.kok) (hN : FD.maxL (m.isFlex ver) m.fs + tagM (m.isFlex ver) ≤ N) : (writeP m ver t).length ≤ N := by
  have e : writeP m ver t = bodyP ver (m.isFlex ver) m.fs 0 t ++ tailP (m.isFlex ver) t.u := by
    unfold writeP partP
    rw [unknownP_plain hp]; rfl
  rw [e, List.length_append]
  have a := FD.bodyP_le ver (m.isFlex ver) m.fs 0 t hp hk
  have b := tail_le (x := m.isFlex ver) (TR.kok_u hk)
  omega
end Go.Msk

namespace Go.Msk
set_option maxRecDepth 100000
def wtU : List (Nat × List UInt8) → Nat
  | [] => 0
  | p :: u => 1 + p.2.length + wtU u
mutual
/-- How much a tree holds. -/
def TR.wt : TR → Nat
  | .mk _ s _ l u => 1 + s.length + TR.wtL l + wtU u
def TR.wtL : List TR → Nat
  | [] => 0
  | t :: l => t.wt + TR.wtL l
end
mutual
/-- All numbers have 64 bits. -/
def TR.nok : TR → Prop
  | .mk n _ _ l _ => IntKind.i64.wrap n = n ∧ TR.nokL l
def TR.nokL : List TR → Prop
  | [] => True
  | t :: l => t.nok ∧ TR.nokL l
end
end Go.Msk
