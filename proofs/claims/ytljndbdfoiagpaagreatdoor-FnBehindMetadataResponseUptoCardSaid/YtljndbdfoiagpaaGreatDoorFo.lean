/- A small language of resolved operations, and what the generic and the generated functions do in it (part 15). -/
import Derived.Test.YtljndbdfoiagpaaGreatDoorFn
import Derived.WideKeyArgs

namespace Go.Msk
open Go.RowKit
set_option maxRecDepth 100000
abbrev at_ (l : List UInt8) : RS := ⟨l, false, false⟩
theorem beNat_beI : ∀ (k : Nat) (n : Int), (beNat (beI k n) : Int) = n % 256 ^ k
  | 0, n => by simp [beI, beNat]
  | k + 1, n => by
    have hp : (0 : Int) < 256 ^ k := Int.pow_pos (by omega)
    have ih := beNat_beI k n
    rw [beI, beNat_cons, beI_length]
    have h2 : 0 ≤ (n / 256 ^ k) % 256 := Int.emod_nonneg _ (by omega)
    have h3 : (n / 256 ^ k) % 256 < 256 := Int.emod_lt_of_pos _ (by omega)
    have e : (UInt8.ofNat ((n / 256 ^ k) % 256).toNat).toNat = ((n / 256 ^ k) % 256).toNat := by simp; omega
    rw [e]
    have e2 : (((n / 256 ^ k) % 256).toNat : Int) = (n / 256 ^ k) % 256 := Int.toNat_of_nonneg h2
    rw [Int.natCast_add, Int.natCast_mul, e2, ih, ediv_emod_256 _ _ hp, Int.pow_succ]
    have q : (n % (256 ^ k * 256)) % 256 ^ k = n % 256 ^ k := Int.emod_emod_of_dvd n ⟨256, rfl⟩
    rw [← q]
    have := Int.mul_ediv_add_emod (n % (256 ^ k * 256)) (256 ^ k)
    have e3 : ((256 ^ k : Nat) : Int) = (256 : Int) ^ k := by simp
    rw [e3, Int.mul_comm]
    exact this
theorem rdN_beI (k : Nat) (n : Int) (r : List UInt8) : ((rdN k (at_ (beI k n ++ r))).1 : Int) = n % 256 ^ k ∧ (rdN k (at_ (beI k n ++ r))).2 = at_ r := by
  have hl := beI_length k n
  have e : k ≤ (beI k n ++ r).length := by simp [hl]
  have e1 : (beI k n ++ r).take k = beI k n := by have := List.take_left (l₁ := beI k n) (l₂ := r); rwa [hl] at this
  have e2 : (beI k n ++ r).drop k = r := by have := List.drop_left (l₁ := beI k n) (l₂ := r); rwa [hl] at this
  unfold rdN
  simp only [e, if_true, e1, e2]
  exact ⟨beNat_beI k n, trivial⟩
theorem rdSpan_at (l r : List UInt8) : rdSpan (l.length : Nat) (at_ (l ++ r)) = (some l, at_ r) := by
  unfold rdSpan
  rw [if_neg (by simp only [List.length_append]; omega)]
  simp
theorem uvR_uvE : ∀ (k n : Nat) (r : List UInt8), n < 16 * 128 ^ k → uvR (k + 1) (uvE n ++ r) = some (n, (uvE n).length)
  | 0, n, r, h => by
    rw [uvE_small (by omega)]
    have e : (UInt8.ofNat n).toNat = n := by simp; omega
    simp only [List.cons_append, List.nil_append, uvR, e, List.length_cons, List.length_nil]
    rw [if_pos (by omega), if_neg (by omega)]
  | k + 1, n, r, h => by
    by_cases hn : n < 128
    · rw [uvE_small hn]
      have e : (UInt8.ofNat n).toNat = n := by simp; omega
      simp only [List.cons_append, List.nil_append, List.length_cons, List.length_nil]
      rw [uvR, e, if_pos hn, if_neg (by omega)]
    · rw [uvE_big (by omega)]
      have e : (UInt8.ofNat (n % 128 + 128)).toNat = n % 128 + 128 := by simp; omega
      have ih := uvR_uvE k (n / 128) r (by rw [Nat.pow_succ] at h; omega)
      simp only [List.cons_append, List.length_cons]
      rw [uvR, e, if_neg (by omega), ih]
      simp only
      congr 2
      omega
theorem rdUv_uvE {n : Nat} (h : n < 4294967296) (r : List UInt8) : rdUv (at_ (uvE n ++ r)) = (n, at_ r) := by
  unfold rdUv
  rw [uvR_uvE 4 n r (by omega)]
  simp
theorem wrap_mod_i16 (n : Int) : IntKind.i16.wrap n % 65536 = n % 65536 := by
  simp only [IntKind.wrap, IntKind.bits, IntKind.signed]; simp; split <;> omega
theorem wrap_mod_i32 (n : Int) : IntKind.i32.wrap n % 4294967296 = n % 4294967296 := by
  simp only [IntKind.wrap, IntKind.bits, IntKind.signed]; simp; split <;> omega
theorem wrap_mod_i64 (n : Int) : IntKind.i64.wrap n % 18446744073709551616 = n % 18446744073709551616 := by
  simp only [IntKind.wrap, IntKind.bits, IntKind.signed]; simp; split <;> omega
theorem wrap_mod_i8 (n : Int) : IntKind.i8.wrap n % 256 = n % 256 := by
  simp only [IntKind.wrap, IntKind.bits, IntKind.signed]; simp; split <;> omega
def kindOk (kind : Int) (nul : Bool) (p : PK) : Bool :=
  match p with
  | .bool => decide (kind = 0)
  | .i8 => decide (kind = 1)
  | .i16 => decide (kind = 2)
  | .u16 => decide (kind = 5)
  | .i32 => decide (kind = 3)
  | .i64 => decide (kind = 4)
  | .uuid => decide (kind = 7)
  | .str => decide (kind = 8) && !nul
  | .nstr => decide (kind = 8)
  | .byt => decide (kind = 9) && !nul
  | _ => false
theorem pair_of {α β : Type} {p : α × β} {a : α} {b : β} (h1 : p.1 = a) (h2 : p.2 = b) : p = (a, b) := by cases p; simp_all
theorem wc16 (j : Int) : IntKind.i16.wrap (j % 65536) = IntKind.i16.wrap j := by
  simp only [IntKind.wrap, IntKind.bits, IntKind.signed]; simp
theorem wc8 (j : Int) : IntKind.i8.wrap (j % 256) = IntKind.i8.wrap j := by
  simp only [IntKind.wrap, IntKind.bits, IntKind.signed]; simp
theorem wc32 (j : Int) : IntKind.i32.wrap (j % 4294967296) = IntKind.i32.wrap j := by
  simp only [IntKind.wrap, IntKind.bits, IntKind.signed]; simp
theorem wc64 (j : Int) : IntKind.i64.wrap (j % 18446744073709551616) = IntKind.i64.wrap j := by
  simp only [IntKind.wrap, IntKind.bits, IntKind.signed]; simp
theorem wholeP_le (l : List UInt8) : (wholeP l).length ≤ 32767 := by simp [wholeP]; omega
theorem i16_small {n : Nat} (h : n ≤ 32767) : IntKind.i16.wrap ((n : Int) % 65536) = n := by
  simp only [IntKind.wrap, IntKind.bits, IntKind.signed]; simp; split <;> omega
theorem i32_small {n : Nat} (h : n ≤ 2147483647) : IntKind.i32.wrap ((n : Int) % 4294967296) = n := by
  simp only [IntKind.wrap, IntKind.bits, IntKind.signed]; simp; split <;> omega
theorem rdCl_at {n : Nat} (h : n < 4294967295) (r : List UInt8) : rdCl (at_ (uvE (n + 1) ++ r)) = ((n : Int), at_ r) := by
  unfold rdCl
  rw [rdUv_uvE (by omega)]
  simp only [Prod.mk.injEq, and_true]
  omega
theorem rdStr_at (x : Bool) {s : List UInt8} (h : s.length ≤ 32767) (r : List UInt8) : (if x then rdCString (at_ ((if x then uvE (s.length + 1) ++ s else beI 2 s.length ++ s) ++ r)) else rdString (at_ ((if x then uvE (s.length + 1) ++ s else beI 2 s.length ++ s) ++ r))) = (s, at_ r) := by
  cases x with
  | true =>
    simp only [if_true, List.append_assoc]
    unfold rdCString
    rw [rdCl_at (by omega)]
    simp only [rdSpan_at, Option.getD_some]
  | false =>
    simp only [Bool.false_eq_true, if_false, List.append_assoc]
    unfold rdString
    obtain ⟨h1, h2⟩ := rdN_beI 2 s.length (s ++ r)
    rw [pair_of rfl h2]
    simp only [h1]
    rw [show (256 : Int) ^ 2 = 65536 by decide, i16_small h, rdSpan_at]
    rfl
def valG (p : PK) (null : Bool) (t : TR) : GV :=
  match p with
  | .bool => .num (.bool (decide (t.n % 2 ≠ 0)))
  | .i8 => .num (.int .i8 (IntKind.i8.wrap t.n))
  | .i16 => .num (.int .i16 (IntKind.i16.wrap t.n))
  | .i32 => .num (.int .i32 (IntKind.i32.wrap t.n))
  | .i64 => .num (.int .i64 (IntKind.i64.wrap t.n))
  | .u16 => .num (.int .u16 (t.n % 65536))
  | .uuid => .arr (uuidP t.s)
  | .str => .num (str (wholeP t.s))
  | .nstr => .nstr (if null then none else some (wholeP t.s))
  | _ => .byt (some (wholeP t.s))
structure ReadP (p : PK) (x : Bool) (l : List UInt8) (g : GV) : Prop where
  rd : ∀ r, decStd.prim p x (at_ (l ++ r)) = (g, at_ r)
  pos : 0 < l.length
theorem intR {k : IntKind} {m : Nat} {n : Int} {p : PK} {x : Bool} {M : Int} (hM : (256 : Int) ^ m = M) (hwc : ∀ j : Int, k.wrap (j % M) = k.wrap j) (hp : ∀ s, decStd.prim p x s = (.num (.int k (k.wrap (rdN m s).1)), (rdN m s).2)) (hm : 0 < m) : ReadP p x (beI m n) (.num (.int k (k.wrap n))) := by
  refine ⟨fun r => ?_, by rw [beI_length]; exact hm⟩
  rw [hp]
  obtain ⟨h1, h2⟩ := rdN_beI m n r
  rw [h1, h2, hM, hwc]
theorem readP {p : PK} {kind : Int} {nul null x : Bool} {part : TR → List UInt8} {t : TR} (hk : kindOk kind nul p = true) (hn : null = true → nul = true) : ReadP p x (valP x kind part null t) (valG p null t) := by
  cases p with
  | bool =>
    simp only [kindOk, decide_eq_true_eq] at hk
    subst hk
    refine ⟨fun r => ?_, by simp [valP]⟩
    have h2 : t.n % 2 = 0 ∨ t.n % 2 = 1 := by omega
    rcases h2 with h2 | h2 <;> simp [valP, valG, decStd, rdN, h2, beNat]
  | i8 =>
    simp only [kindOk, decide_eq_true_eq] at hk
    subst hk
    exact intR (k := .i8) (m := 1) (n := t.n) (M := 256) (by decide) wc8 (fun _ => rfl) (by omega)
  | i16 =>
    simp only [kindOk, decide_eq_true_eq] at hk
    subst hk
    exact intR (k := .i16) (m := 2) (n := t.n) (M := 65536) (by decide) wc16 (fun _ => rfl) (by omega)
  | i32 =>
    simp only [kindOk, decide_eq_true_eq] at hk
    subst hk
    exact intR (k := .i32) (m := 4) (n := t.n) (M := 4294967296) (by decide) wc32 (fun _ => rfl) (by omega)
  | i64 =>
    simp only [kindOk, decide_eq_true_eq] at hk
    subst hk
    exact intR (k := .i64) (m := 8) (n := t.n) (M := 18446744073709551616) (by decide) wc64 (fun _ => rfl) (by omega)
  | u16 =>
    simp only [kindOk, decide_eq_true_eq] at hk
    subst hk
    refine ⟨fun r => ?_, ?_⟩
    · obtain ⟨h1, h2⟩ := rdN_beI 2 t.n r
      show (GV.num (.int .u16 (rdN 2 (at_ (beI 2 t.n ++ r))).1), (rdN 2 (at_ (beI 2 t.n ++ r))).2) = _
      rw [h1, h2]; rfl
    · show 0 < (beI 2 t.n).length
      rw [beI_length]; omega
  | uuid =>
    simp only [kindOk, decide_eq_true_eq] at hk
    subst hk
    have hl : (uuidP t.s).length = 16 := by simp [uuidP]; omega
    refine ⟨fun r => ?_, ?_⟩
    · have h := rdSpan_at (uuidP t.s) r
      rw [hl] at h
      show (GV.arr (rdUuid (at_ (uuidP t.s ++ r))).1, (rdUuid (at_ (uuidP t.s ++ r))).2) = _
      unfold rdUuid
      rw [show ((16 : Nat) : Int) = 16 from rfl] at h
      rw [h]; rfl
    · show 0 < (uuidP t.s).length
      omega
  | str =>
    simp only [kindOk, Bool.and_eq_true, decide_eq_true_eq, Bool.not_eq_true'] at hk
    obtain ⟨rfl, hnul⟩ := hk
    have hnull : null = false := by cases null <;> simp_all
    subst hnull
    have hw := wholeP_le t.s
    have e : valP x 8 part false t = if x then uvE ((wholeP t.s).length + 1) ++ wholeP t.s else beI 2 (wholeP t.s).length ++ wholeP t.s := by
      simp [valP, countedP]; cases x <;> simp
    rw [e]
    refine ⟨fun r => ?_, ?_⟩
    · have h := rdStr_at x hw r
      cases x with
      | true => simp only [if_true] at h ⊢; show (GV.num (str (rdCString _).1), (rdCString _).2) = _; rw [h]; rfl
      | false => simp only [Bool.false_eq_true, if_false] at h ⊢; show (GV.num (str (rdString _).1), (rdString _).2) = _; rw [h]; rfl
    · have := uvE_pos ((wholeP t.s).length + 1)
      cases x <;> simp [beI_length] <;> omega
  | nstr =>
    simp only [kindOk, decide_eq_true_eq] at hk
    subst hk
    cases null with
    | true =>
      have e : valP x 8 part true t = if x then [0] else beI 2 (-1) := by
        cases x <;> simp [valP, countedP]
      rw [e]
      refine ⟨fun r => ?_, by cases x <;> simp [beI_length]⟩
      cases x with
      | true =>
        simp only [if_true]
        show (GV.nstr (rdCNullableString _).1, (rdCNullableString _).2) = _
        have h : rdCl (at_ ([0] ++ r)) = (-1, at_ r) := by
          have := rdUv_uvE (n := 0) (by omega) r
          rw [uvE_small (by omega)] at this
          unfold rdCl
          rw [show ([0] : List UInt8) = [UInt8.ofNat 0] from rfl, this]; rfl
        unfold rdCNullableString
        rw [h]; rfl
      | false =>
        simp only [Bool.false_eq_true, if_false]
        show (GV.nstr (rdNullableString _).1, (rdNullableString _).2) = _
        obtain ⟨h1, h2⟩ := rdN_beI 2 (-1) r
        unfold rdNullableString
        simp only [h1, h2]
        rfl
    | false =>
      have hw := wholeP_le t.s
      have e : valP x 8 part false t = if x then uvE ((wholeP t.s).length + 1) ++ wholeP t.s else beI 2 (wholeP t.s).length ++ wholeP t.s := by
        simp [valP, countedP]; cases x <;> simp
      rw [e]
      refine ⟨fun r => ?_, ?_⟩
      · cases x with
        | true =>
          simp only [if_true, List.append_assoc]
          show (GV.nstr (rdCNullableString _).1, (rdCNullableString _).2) = _
          unfold rdCNullableString
          rw [rdCl_at (by omega)]
          simp only [rdSpan_at, Option.getD_some]
          rw [if_neg (by omega)]
          rfl
        | false =>
          simp only [Bool.false_eq_true, if_false, List.append_assoc]
          show (GV.nstr (rdNullableString _).1, (rdNullableString _).2) = _
          obtain ⟨h1, h2⟩ := rdN_beI 2 (wholeP t.s).length (wholeP t.s ++ r)
          unfold rdNullableString
          simp only [h1, h2]
          rw [show (256 : Int) ^ 2 = 65536 by decide, i16_small hw, if_neg (by omega), rdSpan_at]
          rfl
      · have := uvE_pos ((wholeP t.s).length + 1)
        cases x <;> simp [beI_length] <;> omega
  | byt =>
    simp only [kindOk, Bool.and_eq_true, decide_eq_true_eq, Bool.not_eq_true'] at hk
    obtain ⟨rfl, hnul⟩ := hk
    have hnull : null = false := by cases null <;> simp_all
    subst hnull
    have hw := wholeP_le t.s
    have e : valP x 9 part false t = if x then uvE ((wholeP t.s).length + 1) ++ wholeP t.s else beI 4 (wholeP t.s).length ++ wholeP t.s := by
      simp [valP, countedP]; cases x <;> simp
    rw [e]
    refine ⟨fun r => ?_, ?_⟩
    · cases x with
      | true =>
        simp only [if_true, List.append_assoc]
        show (GV.byt (rdCBytes _).1, (rdCBytes _).2) = _
        unfold rdCBytes
        rw [rdCl_at (by omega)]
        simp only [rdSpan_at]
        rw [if_neg (by omega)]
        rfl
      | false =>
        simp only [Bool.false_eq_true, if_false, List.append_assoc]
        show (GV.byt (rdBytes _).1, (rdBytes _).2) = _
        obtain ⟨h1, h2⟩ := rdN_beI 4 (wholeP t.s).length (wholeP t.s ++ r)
        unfold rdBytes
        simp only [h1, h2]
        rw [show (256 : Int) ^ 4 = 4294967296 by decide, i32_small (by omega), if_neg (by omega), rdSpan_at]
        rfl
    · have := uvE_pos ((wholeP t.s).length + 1)
      cases x <;> simp [beI_length] <;> omega
  | u32 => simp [kindOk] at hk
  | nbyt => simp [kindOk] at hk
end Go.Msk

namespace Go.Msk
open Go.RowKit
set_option maxRecDepth 100000
structure BackP (p : PK) (x : Bool) (l : List UInt8) (g : GV) : Prop where
  rd : ∀ r, decStd.prim p x (at_ (l ++ r)) = (g, at_ r)
  enc : encP p x g = l
  fit : FitP p g
  wid : g.wid = p.size
  pos : 0 < l.length
theorem backP {p : PK} {kind : Int} {nul null x : Bool} {part : TR → List UInt8} {t : TR} (hk : kindOk kind nul p = true) (hn : null = true → nul = true) : ∃ g, BackP p x (valP x kind part null t) g := by
  have hr := readP (x := x) (part := part) (t := t) hk hn
  refine ⟨valG p null t, hr.rd, ?_, ?_, ?_, hr.pos⟩
  · cases p with
    | bool =>
      simp only [kindOk, decide_eq_true_eq] at hk
      subst hk
      have h2 : t.n % 2 = 0 ∨ t.n % 2 = 1 := by omega
      rcases h2 with h2 | h2 <;> simp [valP, valG, encP, h2]
    | i8 => simp only [kindOk, decide_eq_true_eq] at hk; subst hk; exact beI_mod 1 _ _ (by rw [show (256 : Int) ^ 1 = 256 by decide, wrap_mod_i8])
    | i16 => simp only [kindOk, decide_eq_true_eq] at hk; subst hk; exact beI_mod 2 _ _ (by rw [show (256 : Int) ^ 2 = 65536 by decide, wrap_mod_i16])
    | i32 => simp only [kindOk, decide_eq_true_eq] at hk; subst hk; exact beI_mod 4 _ _ (by rw [show (256 : Int) ^ 4 = 4294967296 by decide, wrap_mod_i32])
    | i64 => simp only [kindOk, decide_eq_true_eq] at hk; subst hk; exact beI_mod 8 _ _ (by rw [show (256 : Int) ^ 8 = 18446744073709551616 by decide, wrap_mod_i64])
    | u16 => simp only [kindOk, decide_eq_true_eq] at hk; subst hk; exact beI_mod 2 _ _ (by rw [show (256 : Int) ^ 2 = 65536 by decide]; omega)
    | uuid => simp only [kindOk, decide_eq_true_eq] at hk; subst hk; rfl
    | str =>
      simp only [kindOk, Bool.and_eq_true, decide_eq_true_eq, Bool.not_eq_true'] at hk
      obtain ⟨rfl, hnul⟩ := hk
      have hnull : null = false := by cases null <;> simp_all
      subst hnull
      have e : valP x 8 part false t = if x then uvE ((wholeP t.s).length + 1) ++ wholeP t.s else beI 2 (wholeP t.s).length ++ wholeP t.s := by
        simp [valP, countedP]; cases x <;> simp
      rw [e]; rfl
    | nstr =>
      simp only [kindOk, decide_eq_true_eq] at hk
      subst hk
      cases null with
      | true =>
        have e : valP x 8 part true t = if x then [0] else beI 2 (-1) := by
          cases x <;> simp [valP, countedP]
        rw [e]; rfl
      | false =>
        have e : valP x 8 part false t = if x then uvE ((wholeP t.s).length + 1) ++ wholeP t.s else beI 2 (wholeP t.s).length ++ wholeP t.s := by
          simp [valP, countedP]; cases x <;> simp
        rw [e]; rfl
    | byt =>
      simp only [kindOk, Bool.and_eq_true, decide_eq_true_eq, Bool.not_eq_true'] at hk
      obtain ⟨rfl, hnul⟩ := hk
      have hnull : null = false := by cases null <;> simp_all
      subst hnull
      have e : valP x 9 part false t = if x then uvE ((wholeP t.s).length + 1) ++ wholeP t.s else beI 4 (wholeP t.s).length ++ wholeP t.s := by
        simp [valP, countedP]; cases x <;> simp
      rw [e]; rfl
    | u32 => simp [kindOk] at hk
    | nbyt => simp [kindOk] at hk
  · have hw := wholeP_le t.s
    cases p with
    | bool => exact ⟨_, rfl⟩
    | i8 => exact ⟨_, rfl⟩
    | i16 => exact ⟨_, rfl⟩
    | i32 => exact ⟨_, rfl⟩
    | i64 => exact ⟨_, rfl⟩
    | u16 => exact ⟨_, rfl, by omega, by omega⟩
    | uuid => exact ⟨_, rfl, by simp [uuidP]; omega⟩
    | str => exact ⟨_, rfl, by omega⟩
    | nstr =>
      cases null with
      | true => exact ⟨none, rfl, by simp⟩
      | false => exact ⟨_, rfl, by intro s h; cases h; omega⟩
    | byt => exact ⟨_, rfl, by intro s h; cases h; omega⟩
    | u32 => simp [kindOk] at hk
    | nbyt => simp [kindOk] at hk
  · cases p with
    | uuid => show (uuidP t.s).length = 16; simp [uuidP]; omega
    | u32 => simp [kindOk] at hk
    | nbyt => simp [kindOk] at hk
    | _ => rfl
end Go.Msk

namespace Go.Msk
open Go.RowKit
set_option maxRecDepth 100000
def unk (u : List (Nat × List UInt8)) : List (Nat × List UInt8) := (u.take 32767).foldl (unkStep 0) []
def tailP (x : Bool) (u : List (Nat × List UInt8)) : List UInt8 := if x then uvE (unk u).length ++ tagsP (unk u) else []
theorem knownP_plain : ∀ (fs : List FD), FD.plainL fs = true → knownP fs = 0 := by
  intro fs h
  unfold knownP
  induction fs with
  | nil => rfl
  | cons f fs ih =>
    simp only [FD.plainL, Bool.and_eq_true] at h
    have ht : f.tag < 0 := by
      have := h.1
      obtain ⟨k, a, b, c, tag, d, e, sub⟩ := f
      simp only [FD.plain, Bool.and_eq_true, decide_eq_true_eq] at this
      exact this.1
    simp only [List.foldl_cons]
    rw [if_neg (by omega)]
    exact ih h.2
theorem unknownP_plain {fs : List FD} (h : FD.plainL fs = true) (u : List (Nat × List UInt8)) : unknownP fs u = unk u := by
  unfold unknownP unk; rw [knownP_plain fs h]
def Ris (l : List (Nat × List UInt8)) : Prop := l.Pairwise (fun a b => a.1 < b.1) ∧ ∀ p ∈ l, p.1 < 4294967296
theorem insU_mem {k : Nat} {b : List UInt8} : ∀ {l : List (Nat × List UInt8)} {p}, p ∈ insU k b l → p = (k, b) ∨ p ∈ l
  | [], p, h => by simp [insU] at h; exact .inl h
  | (k', b') :: r, p, h => by
    simp only [insU] at h
    split at h
    · rcases List.mem_cons.1 h with h | h
      · exact .inr (by simp [h])
      · rcases insU_mem h with h | h
        · exact .inl h
        · exact .inr (by simp [h])
    · split at h
      · exact .inr h
      · rcases List.mem_cons.1 h with h | h
        · exact .inl h
        · exact .inr h
theorem insU_ris {k : Nat} {b : List UInt8} (hk : k < 4294967296) : ∀ {l : List (Nat × List UInt8)}, Ris l → Ris (insU k b l)
  | [], _ => ⟨by simp [insU], by simp [insU]; exact hk⟩
  | (k', b') :: r, h => by
    have hr : Ris r := ⟨(List.pairwise_cons.1 h.1).2, fun p hp => h.2 p (by simp [hp])⟩
    simp only [insU]
    split
    · rename_i hlt
      have ih := insU_ris (b := b) hk hr
      refine ⟨List.pairwise_cons.2 ⟨fun p hp => ?_, ih.1⟩, fun p hp => ?_⟩
      · rcases insU_mem hp with rfl | hp
        · exact hlt
        · exact (List.pairwise_cons.1 h.1).1 p hp
      · rcases List.mem_cons.1 hp with rfl | hp
        · exact h.2 (k', b') (by simp)
        · exact ih.2 p hp
    · split
      · exact h
      · rename_i h1 h2
        refine ⟨List.pairwise_cons.2 ⟨fun p hp => ?_, h.1⟩, fun p hp => ?_⟩
        · rcases List.mem_cons.1 hp with rfl | hp
          · show k < k'; omega
          · have := (List.pairwise_cons.1 h.1).1 p hp
            show k < p.1
            have e : k' < p.1 := this
            omega
        · rcases List.mem_cons.1 hp with rfl | hp
          · exact hk
          · exact h.2 p hp
theorem insU_len {k : Nat} {b : List UInt8} : ∀ l : List (Nat × List UInt8), (insU k b l).length ≤ l.length + 1
  | [] => by simp [insU]
  | (k', b') :: r => by
    have := insU_len (k := k) (b := b) r
    simp only [insU]
    split
    · simp only [List.length_cons]; omega
    · split <;> simp
theorem unk_ok {u : List (Nat × List UInt8)} (h : ∀ p ∈ u, p.1 < 4294967296) : Ris (unk u) ∧ (unk u).length ≤ 32767 := by
  have gen : ∀ (v acc : List (Nat × List UInt8)), (∀ p ∈ v, p.1 < 4294967296) → Ris acc → Ris (v.foldl (unkStep 0) acc) ∧ (v.foldl (unkStep 0) acc).length ≤ acc.length + v.length := by
    intro v
    induction v with
    | nil => intro acc _ ha; exact ⟨ha, by simp⟩
    | cons p v ih =>
      intro acc hv ha
      have e : unkStep 0 acc p = insU p.1 p.2 acc := by unfold unkStep; rw [if_neg (by omega)]
      simp only [List.foldl_cons, e]
      obtain ⟨h1, h2⟩ := ih (insU p.1 p.2 acc) (fun q hq => hv q (by simp [hq])) (insU_ris (hv p (by simp)) ha)
      refine ⟨h1, Nat.le_trans h2 ?_⟩
      have := insU_len (k := p.1) (b := p.2) acc
      simp only [List.length_cons]; omega
  obtain ⟨h1, h2⟩ := gen (u.take 32767) [] (fun p hp => h p (List.mem_of_mem_take hp)) ⟨by simp, by simp⟩
  refine ⟨h1, Nat.le_trans h2 ?_⟩
  simp; omega
def wholeU (u : List (Nat × List UInt8)) : List (Nat × List UInt8) := u.map fun p => (p.1, wholeP p.2)
theorem putTag_new {k : Nat} {b : List UInt8} : ∀ {m : List (Nat × List UInt8)}, (∀ p ∈ m, p.1 < k) → putTag m k b = m ++ [(k, b)]
  | [], _ => rfl
  | (k', b') :: m, h => by
    have h1 : k' < k := h (k', b') (by simp)
    simp only [putTag, List.cons_append]
    rw [if_neg (by omega), putTag_new fun p hp => h p (by simp [hp])]
theorem rdTagsN_at : ∀ (u m : List (Nat × List UInt8)) (r : List UInt8), Ris u → (∀ p ∈ m, ∀ q ∈ u, p.1 < q.1) → rdTagsN u.length m (at_ (tagsP u ++ r)) = (m ++ wholeU u, at_ r)
  | [], m, r, _, _ => by simp [rdTagsN, tagsP, wholeU]
  | (k, b) :: u, m, r, h, hm => by
    have hk : k < 4294967296 := h.2 (k, b) (by simp)
    have hr : Ris u := ⟨(List.pairwise_cons.1 h.1).2, fun p hp => h.2 p (by simp [hp])⟩
    have hw := wholeP_le b
    have e : tagsP ((k, b) :: u) ++ r = uvE k ++ (uvE (wholeP b).length ++ (wholeP b ++ (tagsP u ++ r))) := by simp [tagsP]
    rw [e]
    simp only [List.length_cons, rdTagsN]
    rw [rdUv_uvE hk]
    simp only
    rw [rdUv_uvE (by omega)]
    simp only [rdSpan_at, Option.getD_some]
    rw [putTag_new fun p hp => hm p hp (k, b) (by simp)]
    rw [rdTagsN_at u _ r hr ?_]
    · simp [wholeU]
    · intro p hp q hq
      rcases List.mem_append.1 hp with hp | hp
      · exact hm p hp q (by simp [hq])
      · simp only [List.mem_singleton] at hp; subst hp
        exact (List.pairwise_cons.1 h.1).1 q hq
theorem sortT_ris : ∀ {m : List (Nat × List UInt8)}, m.Pairwise (fun a b => a.1 < b.1) → sortT m = m
  | [], _ => rfl
  | (k, b) :: m, h => by
    have ih := sortT_ris (List.pairwise_cons.1 h).2
    simp only [sortT, ih]
    cases m with
    | nil => rfl
    | cons p m =>
      have : k < p.1 := (List.pairwise_cons.1 h).1 p (by simp)
      simp only [insT]
      rw [if_pos this]
theorem flat_len {f : TR → List UInt8} : ∀ {ys : List TR}, (∀ y ∈ ys, 0 < (f y).length) → ys.length ≤ (ys.flatMap f).length
  | [], _ => by simp
  | y :: ys, h => by
    have h1 := h y (by simp)
    have h2 := flat_len (ys := ys) fun z hz => h z (by simp [hz])
    simp only [List.flatMap_cons, List.length_cons, List.length_append]
    omega
theorem len_rd {x : Bool} {n : Nat} (hl : n ≤ 32767) {l : List UInt8} (hn : n ≤ l.length) : decStd.len x (at_ (countedP x false n 4 ++ l)) = ((n : Int), at_ l) := by
  cases x with
  | true =>
    simp only [decStd, if_true, countedP, Bool.false_eq_true, if_false]
    unfold rdCArrayLen
    rw [rdUv_uvE (by omega)]
    have e : IntKind.i32.wrap (IntKind.i32.wrap ((n + 1 : Nat) : Int) - 1) = (n : Int) := by
      simp only [IntKind.wrap, IntKind.bits, IntKind.signed]; simp; omega
    simp only [e]
    rw [if_neg (by omega)]
  | false =>
    simp only [decStd, Bool.false_eq_true, if_false, countedP]
    unfold rdArrayLen
    obtain ⟨h1, h2⟩ := rdN_beI 4 n l
    simp only [h1, h2]
    rw [show (256 : Int) ^ 4 = 4294967296 by decide, i32_small (by omega)]
    rw [if_neg (by omega)]
theorem lenN_rd {x : Bool} {l : List UInt8} : decStd.len x (at_ (countedP x true 0 4 ++ l)) = (-1, at_ l) := by
  cases x with
  | true =>
    simp only [decStd, if_true, countedP]
    unfold rdCArrayLen
    have := rdUv_uvE (n := 0) (by omega) l
    rw [uvE_small (by omega)] at this
    rw [show ([0] : List UInt8) = [UInt8.ofNat 0] from rfl, this]
    have e : IntKind.i32.wrap (IntKind.i32.wrap ((0 : Nat) : Int) - 1) = -1 := by decide
    simp only [e]
    rw [if_neg (by omega)]
  | false =>
    simp only [decStd, Bool.false_eq_true, if_false, if_true, countedP]
    unfold rdArrayLen
    obtain ⟨h1, h2⟩ := rdN_beI 4 (-1) l
    simp only [h1, h2]
    rw [show IntKind.i32.wrap ((-1) % 256 ^ 4) = -1 by decide]
    rw [if_neg (by omega)]
end Go.Msk

namespace Go.Msk
open Go.RowKit
set_option maxRecDepth 100000
theorem tags_back {u : List (Nat × List UInt8)} (h : ∀ p ∈ u, p.1 < 4294967296) : ∃ m, (∀ r, rdTags (at_ (tailP true u ++ r)) = (m, at_ r)) ∧ uvE m.length ++ tagsR (sortT m) = tailP true u ∧ m.length ≤ 2147483647 ∧ ∀ p ∈ m, p.2.length ≤ 2147483647 := by
  obtain ⟨h1, h2⟩ := unk_ok h
  have hs : (wholeU (unk u)).Pairwise (fun a b => a.1 < b.1) := by
    unfold wholeU; rw [List.pairwise_map]; exact h1.1
  refine ⟨wholeU (unk u), fun r => ?_, ?_, by simp [wholeU]; omega, fun p hp => ?_⟩
  · simp only [tailP, if_true, List.append_assoc]
    unfold rdTags
    rw [rdUv_uvE (by omega)]
    simp only
    rw [rdTagsN_at _ [] r h1 (by simp)]
    simp
  · rw [sortT_ris hs]
    simp only [tailP, if_true]
    have : tagsR (wholeU (unk u)) = tagsP (unk u) := by simp [tagsR, tagsP, wholeU, List.flatMap_map]
    rw [this]
    simp [wholeU]
  · simp only [wholeU, List.mem_map] at hp
    obtain ⟨q, -, rfl⟩ := hp
    have := wholeP_le q.2
    show (wholeP q.2).length ≤ _
    omega
theorem list_back {el : RS → Option (GV × RS)} {f : TR → List UInt8} {encg : GV → List UInt8} {Pg : GV → Prop} : ∀ ys : List TR, (∀ y ∈ ys, ∃ g, (∀ r, el (at_ (f y ++ r)) = some (g, at_ r)) ∧ encg g = f y ∧ Pg g) →
    ∃ gs, gs.length = ys.length ∧ (∀ r, decList el ys.length (at_ (ys.flatMap f ++ r)) = some (gs, at_ r)) ∧ gs.flatMap encg = ys.flatMap f ∧ ∀ g ∈ gs, Pg g
  | [], _ => ⟨[], rfl, fun r => rfl, rfl, by simp⟩
  | y :: ys, h => by
    obtain ⟨g, h1, h2, h3⟩ := h y (by simp)
    obtain ⟨gs, k1, k2, k3, k4⟩ := list_back ys fun z hz => h z (by simp [hz])
    refine ⟨g :: gs, by simp [k1], fun r => ?_, by simp [h2, k3], fun z hz => ?_⟩
    · simp only [List.flatMap_cons, List.length_cons, decList, List.append_assoc, h1, k2]
    · rcases List.mem_cons.1 hz with rfl | hz
      · exact h3
      · exact k4 z hz
theorem lst_back {x nul nv : Bool} {lb : LB} {ver : Int} {sz : Nat} {el : RS → Option (GV × RS)} {f : TR → List UInt8} {encg : GV → List UInt8} {Pg : GV → Prop} {ys : List TR} (hl : ys.length ≤ 32767) (hpos : ∀ y ∈ ys, 0 < (f y).length)
    (h : ∀ y ∈ ys, ∃ g, (∀ r, el (at_ (f y ++ r)) = some (g, at_ r)) ∧ encg g = f y ∧ Pg g) (hnl : nul = true → ∃ V, lb.nul = some V ∧ V ≤ ver) (hnv : nv = true → nul = true ∧ ys = []) :
    ∃ isnil s es, (∀ r, decLst decStd x lb ver sz el (at_ (countedP x nv ys.length 4 ++ ys.flatMap f ++ r)) = some (.lst isnil s es, at_ r)) ∧ encLen nul x isnil es.length ++ es.flatMap encg = countedP x nv ys.length 4 ++ ys.flatMap f ∧
      (isnil = false → s = sz) ∧ es.length < 4294967295 ∧ ∀ y ∈ es, Pg y := by
  obtain ⟨gs, k1, k2, k3, k4⟩ := list_back ys h
  have hn := flat_len hpos
  cases nv with
  | true =>
    obtain ⟨hnul, rfl⟩ := hnv rfl
    obtain ⟨V, hV, hv⟩ := hnl hnul
    subst hnul
    have hgs : gs = [] := List.length_eq_zero_iff.1 k1
    subst hgs
    refine ⟨true, 0, [], fun r => ?_, ?_, fun h => (by cases h), by simp, by simp⟩
    · unfold decLst
      simp only [List.length_nil, List.flatMap_nil, List.append_nil]
      rw [lenN_rd]
      simp only [Bool.false_eq_true, if_false, LB.nil_some hV hv]
      rfl
    · cases x <;> simp [encLen, countedP]
  | false =>
    refine ⟨lb.nil ver ys.length, if lb.nil ver ys.length = true then 0 else sz, gs, fun r => ?_, ?_, fun hi => ?_, by omega, k4⟩
    · unfold decLst
      rw [List.append_assoc, len_rd hl (by simp only [List.length_append]; omega)]
      simp only [Bool.false_eq_true, if_false, Int.toNat_natCast, k2]
    · rw [k3, k1]
      cases nul with
      | false => cases x <;> simp [encLen, countedP]
      | true =>
        obtain ⟨V, hV, hv⟩ := hnl rfl
        have e : lb.nil ver ys.length = false := by rw [LB.nil_some hV hv]; simp
        rw [e]
        cases x <;> simp [encLen, countedP]
    · rw [if_neg (by simp [hi])]
end Go.Msk

namespace Go.Msk
open Go.RowKit
set_option maxRecDepth 100000
def FD.nulB (f : FD) (ver : Int) : Bool := decide (f.null ≥ 0) && decide (ver ≥ f.null)
def neB (ver : Int) (x : Bool) (fds : List FD) : Bool := x || fds.any fun f => decide (f.tag < 0) && (f.hasV ver && !decide (f.kind = 10))
theorem FD.enc_eq' (ver : Int) (x : Bool) (f : FD) (t : TR) : f.enc ver x t = fieldP x f.kind f.of f.null (f.nullV ver t) (fun y => joinP x (bodyP ver x f.sub 0 y) (unknownP f.sub y.u)) t := by
  obtain ⟨k, a, b, c, tag, d, e, sub⟩ := f; rfl
theorem rt_cons {decF : RS → Option (GV × RS)} {restD : RS → Option (List GV × RS)} {l1 l2 : List UInt8} {g : GV} {gs : List GV} (h1 : ∀ r, decF (at_ (l1 ++ r)) = some (g, at_ r)) (h2 : ∀ r, restD (at_ (l2 ++ r)) = some (gs, at_ r)) :
    ∀ r, consD (decF (at_ ((l1 ++ l2) ++ r))) restD = some (g :: gs, at_ r) := by
  intro r
  rw [List.append_assoc, h1]
  simp only [consD, h2]
def fE (ver : Int) (x : Bool) (f : FD) (t : TR) (i : Nat) : List UInt8 := if f.hasV ver = true then f.enc ver x (t.at i) else []
theorem body_cons {ver : Int} {x : Bool} {f : FD} {fs : List FD} {i : Nat} {t : TR} {z : List UInt8} (ht : f.tag < 0) : bodyP ver x (f :: fs) i t ++ z = fE ver x f t i ++ (bodyP ver x fs (i + 1) t ++ z) := by
  simp only [bodyP, fE, ht, true_and, List.append_assoc]
theorem kok_body {ver : Int} {x : Bool} {sub : List FD} {y : TR} (hp : FD.plainL sub = true) : joinP x (bodyP ver x sub 0 y) (unknownP sub y.u) = bodyP ver x sub 0 y ++ tailP x y.u := by
  rw [unknownP_plain hp]; rfl
theorem TR.kok_mem {t y : TR} (h : t.kok) (hy : y ∈ t.l) : y.kok := by
  cases t with
  | mk n s b l u => exact TR.kokL_mem h.2 y hy
theorem widthP_pos (k : Int) : 0 < widthP k := by
  unfold widthP; repeat' split
  all_goals omega
theorem countedP_pos (x nl : Bool) (n k : Nat) (hk : 0 < k) : 0 < (countedP x nl n k).length := by
  have := uvE_pos (n + 1)
  unfold countedP
  cases x <;> cases nl <;> simp [beI_length] <;> omega
theorem valP_pos (x : Bool) (k : Int) (part : TR → List UInt8) (nl : Bool) (t : TR) (h : k ≠ 10) : 0 < (valP x k part nl t).length := by
  unfold valP
  by_cases h0 : k = 0
  · rw [if_pos h0]; simp
  rw [if_neg h0]
  by_cases h7 : k = 7
  · rw [if_pos h7]; simp [uuidP]; omega
  rw [if_neg h7]
  by_cases h8 : k = 8
  · rw [if_pos h8, List.length_append]; have := countedP_pos x nl (if nl = true then [] else wholeP t.s).length 2 (by omega); omega
  rw [if_neg h8]
  by_cases h9 : k = 9
  · rw [if_pos h9, List.length_append]; have := countedP_pos x nl (if nl = true then [] else wholeP t.s).length 4 (by omega); omega
  rw [if_neg h9, if_neg h, beI_length]
  exact widthP_pos k
theorem enc_pos {ver : Int} {x : Bool} {f : FD} {t : TR} (h : f.kind ≠ 10) : 0 < (f.enc ver x t).length := by
  rw [FD.enc_eq']
  unfold fieldP
  by_cases h11 : f.kind = 11
  · rw [if_pos h11, List.length_append]
    have := countedP_pos x (f.nullV ver t) (if f.nullV ver t = true then [] else t.l.take 32767).length 4 (by omega)
    omega
  · rw [if_neg h11, if_neg (by simp [h])]
    exact valP_pos x _ _ _ _ h
theorem body_pos {ver : Int} {x : Bool} : ∀ {fds : List FD} {i : Nat} {t : TR}, neB ver x fds = true → 0 < (bodyP ver x fds i t ++ tailP x t.u).length := by
  intro fds i t h
  cases x with
  | true => simp only [tailP, if_true, List.length_append]; have := uvE_pos (unk t.u).length; omega
  | false =>
    simp only [neB, Bool.false_or] at h
    induction fds generalizing i with
    | nil => simp at h
    | cons f fs ih =>
      simp only [List.any_cons, Bool.or_eq_true] at h
      simp only [bodyP, List.length_append]
      rcases h with h | h
      · simp only [Bool.and_eq_true, decide_eq_true_eq, Bool.not_eq_true', decide_eq_false_iff_not] at h
        rw [if_pos ⟨h.1, h.2.1⟩]
        have := enc_pos (ver := ver) (x := false) (t := t.at i) h.2.2
        omega
      · have := ih (i := i + 1) h
        simp only [List.length_append] at this
        omega
theorem arr_encN {ver : Int} {x : Bool} {f : FD} {t : TR} (h : f.kind = 11) :
    f.enc ver x t = countedP x (f.nullV ver t) (if f.nullV ver t = true then [] else t.l.take 32767).length 4 ++ (if f.nullV ver t = true then [] else t.l.take 32767).flatMap (valP x f.of (fun y => joinP x (bodyP ver x f.sub 0 y) (unknownP f.sub y.u)) false) := by
  rw [FD.enc_eq']
  unfold fieldP
  rw [if_pos h]
theorem take_le (l : List TR) : (l.take 32767).length ≤ 32767 := by simp; omega
end Go.Msk

namespace Go.Msk
open Go.RowKit
set_option maxRecDepth 100000
def nulOk (nul : Bool) (lb : LB) (f : FD) (ver : Int) : Bool := if nul then (match lb.nul with
  | some V => decide (V ≤ ver)
  | none => false) else !f.nulB ver
theorem nulOk_some {nul : Bool} {lb : LB} {f : FD} {ver : Int} (h : nulOk nul lb f ver = true) : nul = true → ∃ V, lb.nul = some V ∧ V ≤ ver := by
  intro hn
  subst hn
  unfold nulOk at h
  cases hl : lb.nul with
  | none => rw [hl] at h; simp at h
  | some V => rw [hl] at h; exact ⟨V, rfl, by simpa using h⟩
theorem nulOk_nv {nul : Bool} {lb : LB} {f : FD} {ver : Int} {t : TR} {ys : List TR} (h : nulOk nul lb f ver = true) : f.nullV ver t = true → nul = true ∧ (if f.nullV ver t = true then [] else ys) = [] := by
  intro hn
  refine ⟨?_, if_pos hn⟩
  cases nul with
  | true => rfl
  | false =>
    simp only [nulOk, Bool.false_eq_true, if_false, FD.nulB, Bool.not_eq_true'] at h
    simp only [FD.nullV, h, Bool.and_false] at hn
    simp at hn
theorem take_leN {b : Bool} (l : List TR) : (if b = true then [] else l.take 32767).length ≤ 32767 := by split <;> simp; omega
def PK.eqB (p q : PK) : Bool := decide (p = q)
def Sc.rtB (ver : Int) (x : Bool) : Sc → List FD → Ap → Bool
  | .nil, fds, ap => match fds, ap with
    | [], .nil => !x
    | _, _ => false
  | .tags _, fds, ap => match fds, ap with
    | [], .tags _ _ _ => true
    | _, _ => false
  | .prm vc _ _ p d rest, fds, ap => match fds, ap with
    | f :: fs, .prm vc' _ p' _ rest' => decide (f.tag < 0) && (vc.holds ver == f.hasV ver) && (vc'.holds ver == f.hasV ver) && decide (d.size = 1) && (!f.hasV ver || (kindOk f.kind (f.nulB ver) p && p.eqB p' && !p.eqB .uuid)) && rest.rtB ver x fs rest'
    | _, _ => false
  | .enm vc _ _ p d rest, fds, ap => match fds, ap with
    | f :: fs, .prm vc' _ p' _ rest' => decide (f.tag < 0) && (vc.holds ver == f.hasV ver) && (vc'.holds ver == f.hasV ver) && decide (d.size = 1) && (!f.hasV ver || (kindOk f.kind (f.nulB ver) p && p.eqB p' && !p.eqB .uuid)) && rest.rtB ver x fs rest'
    | _, _ => false
  | .vst vc V _ _ rest, fds, ap => match fds, ap with
    | f :: fs, .vst vc' V' _ _ rest' => decide (f.tag < 0) && (vc.holds ver == f.hasV ver) && (vc'.holds ver == f.hasV ver) && (!f.hasV ver || (decide (f.kind = 8) && decide (V = V') && (!decide (ver < V) || !f.nulB ver))) && rest.rtB ver x fs rest'
    | _, _ => false
  | .uid vc _ rest, fds, ap => match fds, ap with
    | f :: fs, .uid vc' _ rest' => decide (f.tag < 0) && (vc.holds ver == f.hasV ver) && (vc'.holds ver == f.hasV ver) && (!f.hasV ver || decide (f.kind = 7)) && rest.rtB ver x fs rest'
    | _, _ => false
  | .lsp vc _ lb d _ _ p rest, fds, ap => match fds, ap with
    | f :: fs, .lsp vc' nul _ p' _ rest' => decide (f.tag < 0) && (vc.holds ver == f.hasV ver) && (vc'.holds ver == f.hasV ver) && (!f.hasV ver || (decide (f.kind = 11) && kindOk f.of false p && p.eqB p' && !p.eqB .uuid && decide (d.size = 1) && nulOk nul lb f ver)) && rest.rtB ver x fs rest'
    | _, _ => false
  | .lss vc _ lb _ _ body rest, fds, ap => match fds, ap with
    | f :: fs, .lss vc' nul _ sz body' rest' => decide (f.tag < 0) && (vc.holds ver == f.hasV ver) && (vc'.holds ver == f.hasV ver) && (!f.hasV ver || (decide (f.kind = 11) && decide (f.of = 10) && decide (body.size = sz) && nulOk nul lb f ver && neB ver x f.sub && FD.plainL f.sub && body.rtB ver x f.sub body')) && rest.rtB ver x fs rest'
    | _, _ => false
  | .sub vc _ body rest, fds, ap => match fds, ap with
    | f :: fs, .sub vc' sz body' rest' => decide (f.tag < 0) && (vc.holds ver == f.hasV ver) && (vc'.holds ver == f.hasV ver) && decide (body.size = sz) && (!f.hasV ver || (decide (f.kind = 10) && decide (f.null < 0) && FD.plainL f.sub && body.rtB ver x f.sub body')) && rest.rtB ver x fs rest'
    | _, _ => false
theorem Sc.wid_d : ∀ sc : Sc, GV.wids sc.dgv = sc.size := by
  intro sc
  have h := sc.drep [] (default : World)
  have : ∀ (l : List GV) (css : List (List Value)), RepL [] (default : World) l css → GV.wids l = css.flatten.length := by
    intro l
    induction l with
    | nil => intro css h; cases h; rfl
    | cons g l ih => intro css h; cases h with | cons h1 h2 => simp [GV.wids, ih _ h2, h1.wid]
  exact this _ _ h
def Back (ver : Int) (x : Bool) (sc : Sc) (ap : Ap) (l : List UInt8) (n : Nat) : Prop :=
  ∃ gs, (∀ r, sc.dec decStd ver x (at_ (l ++ r)) = some (gs, at_ r)) ∧ ap.enc ver x gs = l ∧ ap.Fit ver gs ∧ GV.wids gs = n
theorem eqB_of {p q : PK} (h : p.eqB q = true) : p = q := by simpa [PK.eqB] using h
theorem neB_of {p q : PK} (h : (!p.eqB q) = true) : p ≠ q := by simpa [PK.eqB] using h
theorem prm_back {ver : Int} {x : Bool} {f : FD} {t : TR} {i : Nat} {p : PK} {d : Df} (hd : d.size = 1) (hh : f.hasV ver = true → kindOk f.kind (f.nulB ver) p = true ∧ p ≠ .uuid) :
    ∃ g, (∀ r, (if f.hasV ver = true then some (decStd.prim p x (at_ (fE ver x f t i ++ r))) else some (d.gv, at_ (fE ver x f t i ++ r))) = some (g, at_ r)) ∧ (if f.hasV ver = true then encP p x g else []) = fE ver x f t i ∧ g.wid = 1 ∧ (f.hasV ver = true → FitP p g ∧ p ≠ .uuid) := by
  by_cases hv : f.hasV ver = true
  · obtain ⟨hk, hu⟩ := hh hv
    have hf : f.enc ver x (t.at i) = valP x f.kind (fun y => joinP x (bodyP ver x f.sub 0 y) (unknownP f.sub y.u)) (f.nullV ver (t.at i)) (t.at i) := by
      rw [FD.enc_eq']
      have h11 : f.kind ≠ 11 := by cases p <;> simp [kindOk] at hk <;> omega
      have h10 : f.kind ≠ 10 := by cases p <;> simp [kindOk] at hk <;> omega
      unfold fieldP
      rw [if_neg h11, if_neg (by simp [h10])]
    obtain ⟨g, hb⟩ := backP (x := x) (part := fun y => joinP x (bodyP ver x f.sub 0 y) (unknownP f.sub y.u)) (null := f.nullV ver (t.at i)) (t := t.at i) hk (by
      intro hn
      simp only [FD.nullV, FD.nulB, Bool.and_eq_true] at hn ⊢
      exact hn.2)
    have e : fE ver x f t i = valP x f.kind (fun y => joinP x (bodyP ver x f.sub 0 y) (unknownP f.sub y.u)) (f.nullV ver (t.at i)) (t.at i) := by unfold fE; rw [if_pos hv, hf]
    refine ⟨g, fun r => ?_, ?_, ?_, fun _ => ⟨hb.fit, hu⟩⟩
    · rw [if_pos hv, e, hb.rd]
    · rw [if_pos hv, e, hb.enc]
    · rw [hb.wid]; cases p <;> simp_all [PK.size]
  · refine ⟨d.gv, fun r => ?_, ?_, by rw [d.wid, hd], fun h => absurd h hv⟩
    · rw [if_neg hv]; simp [fE, hv]
    · rw [if_neg hv]; simp [fE, hv]
end Go.Msk

namespace Go.Msk
open Go.RowKit
set_option maxRecDepth 100000
theorem Sc.rt {ver : Int} {x : Bool} : ∀ (sc : Sc) (fds : List FD) (ap : Ap) (i : Nat) (t : TR), sc.rtB ver x fds ap = true → t.kok → Back ver x sc ap (bodyP ver x fds i t ++ tailP x t.u) sc.size := by
  intro sc
  induction sc with
  | nil =>
    intro fds ap i t h hk
    cases fds <;> cases ap <;> simp [Sc.rtB] at h
    subst h
    exact ⟨[], fun r => rfl, rfl, rfl, rfl⟩
  | tags f =>
    intro fds ap i t h hk
    cases fds <;> cases ap <;> simp [Sc.rtB] at h
    have hku : ∀ p ∈ t.u, p.1 < 4294967296 := by cases t; exact hk.1
    cases x with
    | true =>
      obtain ⟨m, h1, h2, h3, h4⟩ := tags_back hku
      refine ⟨[.tag m], fun r => ?_, ?_, ⟨_, rfl, m, rfl, h3, h4⟩, rfl⟩
      · simp only [Sc.dec, if_true, bodyP, List.nil_append]
        show some ([GV.tag (rdTags _).1], (rdTags _).2) = _
        rw [h1]
      · simpa [Ap.enc, bodyP] using h2
    | false => exact ⟨[.tag []], fun r => rfl, rfl, ⟨_, rfl, [], rfl, by simp, by simp⟩, rfl⟩
  | prm vc init rr p d rest ih =>
    intro fds ap i t h hk
    cases fds with
    | nil => cases ap <;> simp [Sc.rtB] at h
    | cons f fs =>
    cases ap with
    | prm vc' cp p' a rest' =>
      simp only [Sc.rtB, Bool.and_eq_true, decide_eq_true_eq, beq_iff_eq] at h
      obtain ⟨⟨⟨⟨⟨htag, hv⟩, hv'⟩, hsz⟩, hfld⟩, hrest⟩ := h
      obtain ⟨gs, k1, k2, k3, k4⟩ := ih fs rest' (i + 1) t hrest hk
      have hfld' : f.hasV ver = true → (kindOk f.kind (f.nulB ver) p = true ∧ p ≠ .uuid) ∧ p = p' := fun hh => by
        rw [hh] at hfld
        simp only [Bool.not_true, Bool.false_or, Bool.and_eq_true] at hfld
        exact ⟨⟨hfld.1.1, neB_of hfld.2⟩, eqB_of hfld.1.2⟩
      obtain ⟨g, g1, g2, g3, g4⟩ := prm_back (x := x) (t := t) (i := i) hsz fun hh => (hfld' hh).1
      rw [body_cons htag]
      refine ⟨g :: gs, fun r => ?_, ?_, ⟨g, gs, rfl, g3, fun hh => ?_, k3⟩, ?_⟩
      · simp only [Sc.dec, hv]
        exact rt_cons (decF := fun s => if f.hasV ver = true then some (decStd.prim p x s) else some (d.gv, s)) g1 k1 r
      · simp only [Ap.enc, hv', k2]
        rw [← g2]
        by_cases hh : f.hasV ver = true
        · rw [(hfld' hh).2]
        · simp [hh]
      · rw [hv'] at hh
        obtain ⟨q1, q2⟩ := g4 hh
        rw [← (hfld' hh).2]
        exact ⟨q1, q2⟩
      · simp only [GV.wids, g3, k4, Sc.size, Sc.dcs, List.flatten_cons, List.length_append, d.cells_length, hsz]
    | _ => simp [Sc.rtB] at h
  | enm vc init rr p d rest ih =>
    intro fds ap i t h hk
    cases fds with
    | nil => cases ap <;> simp [Sc.rtB] at h
    | cons f fs =>
    cases ap with
    | prm vc' cp p' a rest' =>
      simp only [Sc.rtB, Bool.and_eq_true, decide_eq_true_eq, beq_iff_eq] at h
      obtain ⟨⟨⟨⟨⟨htag, hv⟩, hv'⟩, hsz⟩, hfld⟩, hrest⟩ := h
      obtain ⟨gs, k1, k2, k3, k4⟩ := ih fs rest' (i + 1) t hrest hk
      have hfld' : f.hasV ver = true → (kindOk f.kind (f.nulB ver) p = true ∧ p ≠ .uuid) ∧ p = p' := fun hh => by
        rw [hh] at hfld
        simp only [Bool.not_true, Bool.false_or, Bool.and_eq_true] at hfld
        exact ⟨⟨hfld.1.1, neB_of hfld.2⟩, eqB_of hfld.1.2⟩
      obtain ⟨g, g1, g2, g3, g4⟩ := prm_back (x := x) (t := t) (i := i) hsz fun hh => (hfld' hh).1
      rw [body_cons htag]
      refine ⟨g :: gs, fun r => ?_, ?_, ⟨g, gs, rfl, g3, fun hh => ?_, k3⟩, ?_⟩
      · simp only [Sc.dec, hv]
        exact rt_cons (decF := fun s => if f.hasV ver = true then some (decStd.prim p x s) else some (d.gv, s)) g1 k1 r
      · simp only [Ap.enc, hv', k2]
        rw [← g2]
        by_cases hh : f.hasV ver = true
        · rw [(hfld' hh).2]
        · simp [hh]
      · rw [hv'] at hh
        obtain ⟨q1, q2⟩ := g4 hh
        rw [← (hfld' hh).2]
        exact ⟨q1, q2⟩
      · simp only [GV.wids, g3, k4, Sc.size, Sc.dcs, List.flatten_cons, List.length_append, d.cells_length, hsz]
    | _ => simp [Sc.rtB] at h
  | vst vc V r1 r2 rest ih =>
    intro fds ap i t h hk
    cases fds with
    | nil => cases ap <;> simp [Sc.rtB] at h
    | cons f fs =>
    cases ap with
    | vst vc' V' a1 a2 rest' =>
      simp only [Sc.rtB, Bool.and_eq_true, decide_eq_true_eq, beq_iff_eq] at h
      obtain ⟨⟨⟨⟨htag, hv⟩, hv'⟩, hfld⟩, hrest⟩ := h
      obtain ⟨gs, k1, k2, k3, k4⟩ := ih fs rest' (i + 1) t hrest hk
      rw [body_cons htag]
      have key : ∃ g, (∀ r, (if f.hasV ver = true then some (decV decStd x V ver (at_ (fE ver x f t i ++ r))) else some (GV.nstr none, at_ (fE ver x f t i ++ r))) = some (g, at_ r)) ∧ (if f.hasV ver = true then encV V' ver x g else []) = fE ver x f t i ∧ g.wid = 1 ∧ (f.hasV ver = true → FitP .nstr g) := by
        by_cases hh : f.hasV ver = true
        · rw [hh] at hfld
          simp only [Bool.not_true, Bool.false_or, Bool.and_eq_true, decide_eq_true_eq] at hfld
          obtain ⟨⟨hk8, rfl⟩, hn⟩ := hfld
          have hf : f.enc ver x (t.at i) = valP x f.kind (fun y => joinP x (bodyP ver x f.sub 0 y) (unknownP f.sub y.u)) (f.nullV ver (t.at i)) (t.at i) := by
            rw [FD.enc_eq']
            unfold fieldP
            rw [if_neg (by omega), if_neg (by omega)]
          have hnv : f.nullV ver (t.at i) = true → f.nulB ver = true := by
            intro hn
            simp only [FD.nullV, FD.nulB, Bool.and_eq_true] at hn ⊢
            exact hn.2
          have e : fE ver x f t i = valP x f.kind (fun y => joinP x (bodyP ver x f.sub 0 y) (unknownP f.sub y.u)) (f.nullV ver (t.at i)) (t.at i) := by unfold fE; rw [if_pos hh, hf]
          by_cases hlt : ver < V
          · have hnb : f.nulB ver = false := by
              rw [decide_eq_true hlt] at hn
              simpa using hn
            have hb := readP (x := x) (p := .str) (kind := f.kind) (nul := f.nulB ver) (part := fun y => joinP x (bodyP ver x f.sub 0 y) (unknownP f.sub y.u)) (null := f.nullV ver (t.at i)) (t := t.at i) (by simp [kindOk, hk8, hnb]) hnv
            obtain ⟨g, hb2⟩ := backP (x := x) (p := .str) (kind := f.kind) (nul := f.nulB ver) (part := fun y => joinP x (bodyP ver x f.sub 0 y) (unknownP f.sub y.u)) (null := f.nullV ver (t.at i)) (t := t.at i) (by simp [kindOk, hk8, hnb]) hnv
            have eg : g = .num (Msk.str (wholeP (t.at i).s)) := by
              have q1 := hb.rd []
              have q2 := hb2.rd []
              rw [q1] at q2
              exact (Prod.mk.inj q2).1.symm
            subst eg
            refine ⟨.nstr (some (wholeP (t.at i).s)), fun r => ?_, ?_, rfl, fun _ => ⟨_, rfl, fun s hs => ?_⟩⟩
            · rw [if_pos hh, e]
              unfold decV
              rw [if_pos hlt, hb2.rd]
              simp [GV.toN, Msk.str]
            · rw [if_pos hh, e]
              unfold encV
              rw [if_pos hlt]
              exact hb2.enc
            · simp only [Option.some.injEq] at hs
              subst hs
              have := wholeP_le (t.at i).s
              omega
          · obtain ⟨g, hb⟩ := backP (x := x) (p := .nstr) (kind := f.kind) (nul := f.nulB ver) (part := fun y => joinP x (bodyP ver x f.sub 0 y) (unknownP f.sub y.u)) (null := f.nullV ver (t.at i)) (t := t.at i) (by simp [kindOk, hk8]) hnv
            refine ⟨g, fun r => ?_, ?_, hb.wid, fun _ => hb.fit⟩
            · rw [if_pos hh, e]
              unfold decV
              rw [if_neg hlt, hb.rd]
            · rw [if_pos hh, e]
              unfold encV
              rw [if_neg hlt]
              exact hb.enc
        · refine ⟨.nstr none, fun r => ?_, ?_, rfl, fun h => absurd h hh⟩
          · rw [if_neg hh]; simp [fE, hh]
          · rw [if_neg hh]; simp [fE, hh]
      obtain ⟨g, g1, g2, g3, g4⟩ := key
      refine ⟨g :: gs, fun r => ?_, ?_, ⟨g, gs, rfl, g3, fun hh => g4 (by rw [← hv']; exact hh), k3⟩, ?_⟩
      · simp only [Sc.dec, hv]
        exact rt_cons (decF := fun s => if f.hasV ver = true then some (decV decStd x V ver s) else some (.nstr none, s)) g1 k1 r
      · simp only [Ap.enc, hv', k2, g2]
      · simp [GV.wids, g3, k4, Sc.size, Sc.dcs]; omega
    | _ => simp [Sc.rtB] at h
  | uid vc ff rest ih =>
    intro fds ap i t h hk
    cases fds with
    | nil => cases ap <;> simp [Sc.rtB] at h
    | cons f fs =>
    cases ap with
    | uid vc' f' rest' =>
      simp only [Sc.rtB, Bool.and_eq_true, decide_eq_true_eq, beq_iff_eq] at h
      obtain ⟨⟨⟨⟨htag, hv⟩, hv'⟩, hfld⟩, hrest⟩ := h
      obtain ⟨gs, k1, k2, k3, k4⟩ := ih fs rest' (i + 1) t hrest hk
      rw [body_cons htag]
      have key : ∃ g, (∀ r, (if f.hasV ver = true then some (decStd.prim .uuid x (at_ (fE ver x f t i ++ r))) else some (GV.arr (List.replicate 16 0), at_ (fE ver x f t i ++ r))) = some (g, at_ r)) ∧ (if f.hasV ver = true then encP .uuid x g else []) = fE ver x f t i ∧ g.wid = 16 ∧ (f.hasV ver = true → FitP .uuid g) := by
        by_cases hh : f.hasV ver = true
        · rw [hh] at hfld
          simp only [Bool.not_true, Bool.false_or, decide_eq_true_eq] at hfld
          have hf : f.enc ver x (t.at i) = valP x 7 (fun y => joinP x (bodyP ver x f.sub 0 y) (unknownP f.sub y.u)) (f.nullV ver (t.at i)) (t.at i) := by
            rw [FD.enc_eq']
            unfold fieldP
            rw [if_neg (by omega), if_neg (by omega), hfld]
          obtain ⟨g, hb⟩ := backP (x := x) (p := .uuid) (kind := 7) (nul := true) (null := f.nullV ver (t.at i)) (part := fun y => joinP x (bodyP ver x f.sub 0 y) (unknownP f.sub y.u)) (t := t.at i) rfl (fun _ => rfl)
          have e : fE ver x f t i = valP x 7 (fun y => joinP x (bodyP ver x f.sub 0 y) (unknownP f.sub y.u)) (f.nullV ver (t.at i)) (t.at i) := by unfold fE; rw [if_pos hh, hf]
          refine ⟨g, fun r => ?_, ?_, hb.wid, fun _ => hb.fit⟩
          · rw [if_pos hh, e, hb.rd]
          · rw [if_pos hh, e, hb.enc]
        · refine ⟨.arr (List.replicate 16 0), fun r => ?_, ?_, by simp [GV.wid], fun h => absurd h hh⟩
          · rw [if_neg hh]; simp [fE, hh]
          · rw [if_neg hh]; simp [fE, hh]
      obtain ⟨g, g1, g2, g3, g4⟩ := key
      refine ⟨g :: gs, fun r => ?_, ?_, ⟨g, gs, rfl, g3, fun hh => g4 (by rw [← hv']; exact hh), k3⟩, ?_⟩
      · simp only [Sc.dec, hv]
        exact rt_cons (decF := fun s => if f.hasV ver = true then some (decStd.prim .uuid x s) else some (.arr (List.replicate 16 0), s)) g1 k1 r
      · simp only [Ap.enc, hv', k2, g2]
      · simp [GV.wids, g3, k4, Sc.size, Sc.dcs, u8s]; omega
    | _ => simp [Sc.rtB] at h
  | lsp vc ln bytes d init rr p rest ih =>
    intro fds ap i t h hk
    cases fds with
    | nil => cases ap <;> simp [Sc.rtB] at h
    | cons f fs =>
    cases ap with
    | lsp vc' nul ln' p' a rest' =>
      simp only [Sc.rtB, Bool.and_eq_true, decide_eq_true_eq, beq_iff_eq] at h
      obtain ⟨⟨⟨⟨htag, hv⟩, hv'⟩, hfld⟩, hrest⟩ := h
      obtain ⟨gs, k1, k2, k3, k4⟩ := ih fs rest' (i + 1) t hrest hk
      rw [body_cons htag]
      have key : ∃ g, (∀ r, (if f.hasV ver = true then decLst decStd x bytes ver d.size (fun s => some (decStd.prim p x s)) (at_ (fE ver x f t i ++ r)) else some (GV.lst true 0 [], at_ (fE ver x f t i ++ r))) = some (g, at_ r)) ∧
          (if f.hasV ver = true then (match g with | .lst isnil _ es => encLen nul x isnil es.length ++ es.flatMap (encP p' x) | _ => []) else []) = fE ver x f t i ∧ g.wid = 1 ∧ (f.hasV ver = true → FitL 1 (FitP p') g ∧ p' ≠ .uuid) := by
        by_cases hh : f.hasV ver = true
        · rw [hh] at hfld
          simp only [Bool.not_true, Bool.false_or, Bool.and_eq_true, decide_eq_true_eq, Bool.not_eq_true'] at hfld
          obtain ⟨⟨⟨⟨⟨hkind, hko⟩, hpp⟩, hpu⟩, hsz⟩, hn⟩ := hfld
          have hpp := eqB_of hpp
          have hpu : p ≠ .uuid := neB_of (by simp [hpu])
          subst hpp
          have h10 : f.of ≠ 10 := by cases p <;> simp [kindOk] at hko <;> omega
          obtain ⟨isnil, s, es, e1, e2, e3, e4, e5⟩ := lst_back (x := x) (sz := d.size) (el := fun s => some (decStd.prim p x s)) (f := valP x f.of (fun y => joinP x (bodyP ver x f.sub 0 y) (unknownP f.sub y.u)) false) (encg := encP p x) (Pg := FitP p)
            (nul := nul) (nv := f.nullV ver (t.at i)) (lb := bytes) (ver := ver) (take_leN (b := f.nullV ver (t.at i)) (t.at i).l) (fun y hy => valP_pos x _ _ _ _ h10) (fun y hy => by
              obtain ⟨g, hb⟩ := backP (x := x) (null := false) (part := fun y => joinP x (bodyP ver x f.sub 0 y) (unknownP f.sub y.u)) (t := y) hko (by simp)
              exact ⟨g, fun r => by rw [hb.rd], hb.enc, hb.fit⟩) (nulOk_some hn) (nulOk_nv hn)
          have e : fE ver x f t i = countedP x (f.nullV ver (t.at i)) (if f.nullV ver (t.at i) = true then [] else (t.at i).l.take 32767).length 4 ++ (if f.nullV ver (t.at i) = true then [] else (t.at i).l.take 32767).flatMap (valP x f.of (fun y => joinP x (bodyP ver x f.sub 0 y) (unknownP f.sub y.u)) false) := by
            unfold fE; rw [if_pos hh, arr_encN hkind]
          refine ⟨.lst isnil s es, fun r => ?_, ?_, rfl, fun _ => ⟨⟨isnil, s, es, rfl, fun q => by rw [e3 q, hsz], e4, e5⟩, hpu⟩⟩
          · rw [if_pos hh, e, e1]
          · rw [if_pos hh, e]; exact e2
        · refine ⟨.lst true 0 [], fun r => ?_, ?_, rfl, fun h => absurd h hh⟩
          · rw [if_neg hh]; simp [fE, hh]
          · rw [if_neg hh]; simp [fE, hh]
      obtain ⟨g, g1, g2, g3, g4⟩ := key
      refine ⟨g :: gs, fun r => ?_, ?_, ⟨g, gs, rfl, g3, fun hh => g4 (by rw [← hv']; exact hh), k3⟩, ?_⟩
      · simp only [Sc.dec, hv]
        exact rt_cons (decF := fun s => if f.hasV ver = true then decLst decStd x bytes ver d.size (fun s => some (decStd.prim p x s)) s else some (.lst true 0 [], s)) g1 k1 r
      · simp only [Ap.enc, hv', k2]
        rw [← g2]
        rfl
      · simp [GV.wids, g3, k4, Sc.size, Sc.dcs]; omega
    | _ => simp [Sc.rtB] at h
  | lss vc ln bytes z dfl body rest ihb ih =>
    intro fds ap i t h hk
    cases fds with
    | nil => cases ap <;> simp [Sc.rtB] at h
    | cons f fs =>
    cases ap with
    | lss vc' nul ln' sz body' rest' =>
      simp only [Sc.rtB, Bool.and_eq_true, decide_eq_true_eq, beq_iff_eq] at h
      obtain ⟨⟨⟨⟨htag, hv⟩, hv'⟩, hfld⟩, hrest⟩ := h
      obtain ⟨gs, k1, k2, k3, k4⟩ := ih fs rest' (i + 1) t hrest hk
      rw [body_cons htag]
      have key : ∃ g, (∀ r, (if f.hasV ver = true then decLst decStd x bytes ver body.size (fun s => rcdD (body.dec decStd ver x s)) (at_ (fE ver x f t i ++ r)) else some (GV.lst true 0 [], at_ (fE ver x f t i ++ r))) = some (g, at_ r)) ∧
          (if f.hasV ver = true then (match g with | .lst isnil _ es => encLen nul x isnil es.length ++ es.flatMap (fun g => match g with | .rcd l => body'.enc ver x l | _ => []) | _ => []) else []) = fE ver x f t i ∧ g.wid = 1 ∧ (f.hasV ver = true → FitL sz (fun y => ∃ l, y = .rcd l ∧ body'.Fit ver l) g) := by
        by_cases hh : f.hasV ver = true
        · rw [hh] at hfld
          simp only [Bool.not_true, Bool.false_or, Bool.and_eq_true, decide_eq_true_eq, Bool.not_eq_true'] at hfld
          obtain ⟨⟨⟨⟨⟨⟨hkind, hof⟩, hsz⟩, hn⟩, hne⟩, hpl⟩, hbody⟩ := hfld
          have hval : ∀ y, valP x f.of (fun y => joinP x (bodyP ver x f.sub 0 y) (unknownP f.sub y.u)) false y = bodyP ver x f.sub 0 y ++ tailP x y.u := fun y => by
            rw [hof]
            show joinP x (bodyP ver x f.sub 0 y) (unknownP f.sub y.u) = _
            exact kok_body hpl
          obtain ⟨isnil, s, es, e1, e2, e3, e4, e5⟩ := lst_back (x := x) (sz := body.size) (el := fun s => rcdD (body.dec decStd ver x s)) (f := valP x f.of (fun y => joinP x (bodyP ver x f.sub 0 y) (unknownP f.sub y.u)) false)
            (encg := fun g => match g with | .rcd l => body'.enc ver x l | _ => []) (Pg := fun y => ∃ l, y = .rcd l ∧ body'.Fit ver l)
            (nul := nul) (nv := f.nullV ver (t.at i)) (lb := bytes) (ver := ver) (take_leN (b := f.nullV ver (t.at i)) (t.at i).l) (fun y hy => by rw [hval]; exact body_pos hne) (fun y hy => by
              have hy : y ∈ (t.at i).l.take 32767 := by
                split at hy
                · simp at hy
                · exact hy
              obtain ⟨gy, q1, q2, q3, q4⟩ := ihb f.sub body' 0 y hbody (TR.kok_mem (hk.at i) (List.mem_of_mem_take hy))
              refine ⟨.rcd gy, fun r => ?_, ?_, gy, rfl, q3⟩
              · rw [hval, q1]; rfl
              · rw [hval]; exact q2) (nulOk_some hn) (nulOk_nv hn)
          have e : fE ver x f t i = countedP x (f.nullV ver (t.at i)) (if f.nullV ver (t.at i) = true then [] else (t.at i).l.take 32767).length 4 ++ (if f.nullV ver (t.at i) = true then [] else (t.at i).l.take 32767).flatMap (valP x f.of (fun y => joinP x (bodyP ver x f.sub 0 y) (unknownP f.sub y.u)) false) := by
            unfold fE; rw [if_pos hh, arr_encN hkind]
          refine ⟨.lst isnil s es, fun r => ?_, ?_, rfl, fun _ => ⟨isnil, s, es, rfl, fun q => by rw [e3 q, hsz], e4, e5⟩⟩
          · rw [if_pos hh, e, e1]
          · rw [if_pos hh, e]; exact e2
        · refine ⟨.lst true 0 [], fun r => ?_, ?_, rfl, fun h => absurd h hh⟩
          · rw [if_neg hh]; simp [fE, hh]
          · rw [if_neg hh]; simp [fE, hh]
      obtain ⟨g, g1, g2, g3, g4⟩ := key
      refine ⟨g :: gs, fun r => ?_, ?_, ⟨g, gs, rfl, g3, fun hh => g4 (by rw [← hv']; exact hh), k3⟩, ?_⟩
      · simp only [Sc.dec, hv]
        exact rt_cons (decF := fun s => if f.hasV ver = true then decLst decStd x bytes ver body.size (fun s => rcdD (body.dec decStd ver x s)) s else some (.lst true 0 [], s)) g1 k1 r
      · simp only [Ap.enc, hv', k2]
        rw [← g2]
        rfl
      · simp [GV.wids, g3, k4, Sc.size, Sc.dcs]; omega
    | _ => simp [Sc.rtB] at h
  | sub vc dfl body rest ihb ih =>
    intro fds ap i t h hk
    cases fds with
    | nil => cases ap <;> simp [Sc.rtB] at h
    | cons f fs =>
    cases ap with
    | sub vc' sz body' rest' =>
      simp only [Sc.rtB, Bool.and_eq_true, decide_eq_true_eq, beq_iff_eq] at h
      obtain ⟨⟨⟨⟨⟨htag, hv⟩, hv'⟩, hsz⟩, hfld⟩, hrest⟩ := h
      obtain ⟨gs, k1, k2, k3, k4⟩ := ih fs rest' (i + 1) t hrest hk
      rw [body_cons htag]
      have key : ∃ g, (∀ r, (if f.hasV ver = true then rcdD (body.dec decStd ver x (at_ (fE ver x f t i ++ r))) else some (GV.rcd body.dgv, at_ (fE ver x f t i ++ r))) = some (g, at_ r)) ∧
          (if f.hasV ver = true then (match g with | .rcd l => body'.enc ver x l | _ => []) else []) = fE ver x f t i ∧ g.wid = sz ∧ (f.hasV ver = true → ∃ l, g = .rcd l ∧ body'.Fit ver l) := by
        by_cases hh : f.hasV ver = true
        · rw [hh] at hfld
          simp only [Bool.not_true, Bool.false_or, Bool.and_eq_true, decide_eq_true_eq] at hfld
          obtain ⟨⟨⟨hkind, hnl⟩, hpl⟩, hbody⟩ := hfld
          have hf : f.enc ver x (t.at i) = bodyP ver x f.sub 0 (t.at i) ++ tailP x (t.at i).u := by
            rw [FD.enc_eq']
            unfold fieldP
            rw [if_neg (by omega), if_neg (by omega), hkind]
            show joinP x (bodyP ver x f.sub 0 (t.at i)) (unknownP f.sub (t.at i).u) = _
            exact kok_body hpl
          have e : fE ver x f t i = bodyP ver x f.sub 0 (t.at i) ++ tailP x (t.at i).u := by unfold fE; rw [if_pos hh, hf]
          obtain ⟨gy, q1, q2, q3, q4⟩ := ihb f.sub body' 0 (t.at i) hbody (hk.at i)
          refine ⟨.rcd gy, fun r => ?_, ?_, ?_, fun _ => ⟨gy, rfl, q3⟩⟩
          · rw [if_pos hh, e, q1]; rfl
          · rw [if_pos hh, e]; exact q2
          · show GV.wids gy = sz
            rw [q4, hsz]
        · refine ⟨.rcd body.dgv, fun r => ?_, ?_, ?_, fun h => absurd h hh⟩
          · rw [if_neg hh]; simp [fE, hh]
          · rw [if_neg hh]; simp [fE, hh]
          · show GV.wids body.dgv = sz
            rw [Sc.wid_d, hsz]
      obtain ⟨g, g1, g2, g3, g4⟩ := key
      refine ⟨g :: gs, fun r => ?_, ?_, ⟨g, gs, rfl, g3, fun hh => g4 (by rw [← hv']; exact hh), k3⟩, ?_⟩
      · simp only [Sc.dec, hv]
        exact rt_cons (decF := fun s => if f.hasV ver = true then rcdD (body.dec decStd ver x s) else some (.rcd body.dgv, s)) g1 k1 r
      · simp only [Ap.enc, hv', k2]
        rw [← g2]
        rfl
      · simp only [GV.wids, g3, k4, Sc.size, Sc.dcs, List.flatten_cons, List.length_append] at hsz ⊢
        omega
    | _ => simp [Sc.rtB] at h
end Go.Msk

namespace Go.Msk
open Go.RowKit
set_option maxRecDepth 100000
def rtV (T : Top) (A : ATop) (m : MD) (ver : Int) : Bool :=
  T.rv.isNone && (T.x ver == m.isFlex ver) && (A.x ver == m.isFlex ver) && neB ver (m.isFlex ver) m.fs && T.sc.rtB ver (m.isFlex ver) m.fs A.ap
def rtOk (T : Top) (A : ATop) (m : MD) (most : Nat) : Bool := FD.plainL m.fs && (List.range (most + 1)).all fun v => rtV T A m (v : Nat)
theorem top_rt {T : Top} {A : ATop} {m : MD} {most : Nat} (h : rtOk T A m most = true) {ver : Int} (h0 : 0 ≤ ver) (h1 : ver ≤ most) {t : TR} (hk : t.kok) :
    0 < (writeP m ver t).length ∧ ∃ gs, T.dec decStd ver (at_ (writeP m ver t)) = some ((ver, gs), at_ []) ∧ A.ap.enc ver (A.x ver) gs = writeP m ver t ∧ A.ap.Fit ver gs := by
  simp only [rtOk, Bool.and_eq_true] at h
  obtain ⟨hp, h⟩ := h
  rw [List.all_eq_true] at h
  have hv := h ver.toNat (by rw [List.mem_range]; omega)
  rw [Int.toNat_of_nonneg h0] at hv
  simp only [rtV, Bool.and_eq_true, beq_iff_eq] at hv
  obtain ⟨⟨⟨⟨hrv, hx⟩, hx2⟩, hne⟩, hsc⟩ := hv
  have hrv : T.rv.isSome = false := by cases hr : T.rv <;> simp_all
  have e : writeP m ver t = bodyP ver (m.isFlex ver) m.fs 0 t ++ tailP (m.isFlex ver) t.u := by
    unfold writeP partP
    rw [unknownP_plain hp]; rfl
  obtain ⟨gs, k1, k2, k3, -⟩ := T.sc.rt m.fs A.ap 0 t hsc hk
  rw [← e] at k1 k2
  refine ⟨by rw [e]; exact body_pos hne, gs, ?_, by rw [hx2]; exact k2, k3⟩
  have := k1 []
  rw [List.append_nil] at this
  unfold Top.dec
  rw [hrv]
  simp only [Bool.false_eq_true, if_false, hx, this]
theorem lenU_le (n : Nat) : lenU n ≤ 5 := by unfold lenU; repeat' split
                                             all_goals omega
theorem uvE_le {n : Nat} (h : n < 4294967296) : (uvE n).length ≤ 5 := by rw [uvE_length h]; exact lenU_le n
theorem countedP_le {x nl : Bool} {n k : Nat} (hn : n ≤ 32767) (hk : k ≤ 4) : (countedP x nl n k).length ≤ 5 := by
  have := uvE_le (n := n + 1) (by omega)
  unfold countedP
  cases x <;> cases nl <;> simp [beI_length] <;> omega
theorem TR.kok_u {t : TR} (h : t.kok) : ∀ p ∈ t.u, p.1 < 4294967296 := by cases t; exact h.1
end Go.Msk

namespace Go.Msk
set_option maxRecDepth 100000
def wtU : List (Nat × List UInt8) → Nat
  | [] => 0
  | p :: u => 1 + p.2.length + wtU u
mutual
/-- How much a tree holds. -/
def TR.wt : TR → Nat
  | .mk _ s _ l u => 1 + s.length + TR.wtL l + wtU u
def TR.wtL : List TR → Nat
  | [] => 0
  | t :: l => t.wt + TR.wtL l
end
mutual
def FD.kB : FD → Nat
  | .mk _ _ _ _ _ _ _ sub => 60 + FD.kL sub
def FD.kL : List FD → Nat
  | [] => 0
  | f :: l => f.kB + FD.kL l
end
mutual
/-- All numbers have 64 bits. -/
def TR.nok : TR → Prop
  | .mk n _ _ l _ => IntKind.i64.wrap n = n ∧ TR.nokL l
def TR.nokL : List TR → Prop
  | [] => True
  | t :: l => t.nok ∧ TR.nokL l
end
theorem TR.wt_pos (t : TR) : 1 ≤ t.wt := by cases t; simp only [TR.wt]; omega
theorem wtL_mem : ∀ {l : List TR} {y : TR}, y ∈ l → y.wt ≤ TR.wtL l
  | t :: l, y, h => by
    simp only [TR.wtL]
    rcases List.mem_cons.1 h with rfl | h
    · omega
    · have := wtL_mem h; omega
theorem TR.wt_at (t : TR) (i : Nat) : (t.at i).wt ≤ t.wt := by
  unfold TR.at
  cases h : t.l[i]? with
  | none => simp only [Option.getD_none]; have := t.wt_pos; simp [TR.zero, TR.wt, TR.wtL, wtU]; omega
  | some y =>
    simp only [Option.getD_some]
    have := wtL_mem (List.mem_of_getElem? h)
    cases t with
    | mk n s b l u => simp only [TR.wt, TR.l] at this ⊢; omega
theorem wtL_take (l : List TR) (k : Nat) : TR.wtL (l.take k) ≤ TR.wtL l := by
  induction l generalizing k with
  | nil => simp [TR.wtL]
  | cons t l ih =>
    cases k with
    | zero => simp [TR.wtL]
    | succ k => simp only [List.take_succ_cons, TR.wtL]; have := ih k; omega
theorem wtU_take (u : List (Nat × List UInt8)) (k : Nat) : wtU (u.take k) ≤ wtU u := by
  induction u generalizing k with
  | nil => simp [wtU]
  | cons t u ih =>
    cases k with
    | zero => simp [wtU]
    | succ k => simp only [List.take_succ_cons, wtU]; have := ih k; omega
theorem insU_wt (k : Nat) (b : List UInt8) : ∀ l, wtU (insU k b l) ≤ 1 + b.length + wtU l
  | [] => by simp [insU, wtU]
  | (k', b') :: r => by
    have := insU_wt k b r
    simp only [insU]
    split
    · simp only [wtU]; omega
    · split <;> simp only [wtU] <;> omega
theorem unk_wt (u : List (Nat × List UInt8)) : wtU (unk u) ≤ wtU u := by
  have gen : ∀ (v acc : List (Nat × List UInt8)), wtU (v.foldl (unkStep 0) acc) ≤ wtU acc + wtU v := by
    intro v
    induction v with
    | nil => intro acc; simp [wtU]
    | cons p v ih =>
      intro acc
      have e : unkStep 0 acc p = insU p.1 p.2 acc := by unfold unkStep; rw [if_neg (by omega)]
      simp only [List.foldl_cons, e, wtU]
      have a := ih (insU p.1 p.2 acc)
      have b := insU_wt p.1 p.2 acc
      omega
  have a := gen (u.take 32767) []
  have b := wtU_take u 32767
  simp only [wtU] at a
  unfold unk
  omega
theorem tagsP_wt : ∀ {u : List (Nat × List UInt8)}, (∀ p ∈ u, p.1 < 4294967296) → (tagsP u).length ≤ 11 * wtU u
  | [], _ => by simp [tagsP, wtU]
  | p :: u, h => by
    have a := tagsP_wt (u := u) fun q hq => h q (by simp [hq])
    have b := uvE_le (h p (by simp))
    have c := wholeP_le p.2
    have d := uvE_le (n := (wholeP p.2).length) (by omega)
    have e : (wholeP p.2).length ≤ p.2.length := by simp [wholeP]; omega
    have f : tagsP (p :: u) = (uvE p.1 ++ (uvE (wholeP p.2).length ++ wholeP p.2)) ++ tagsP u := by simp [tagsP]
    rw [f]
    simp only [List.length_append, wtU] at *
    omega
theorem tail_wt {x : Bool} {t : TR} (h : t.kok) : (tailP x t.u).length ≤ 16 * t.wt := by
  obtain ⟨h1, h2⟩ := unk_ok (TR.kok_u h)
  have hw : wtU t.u ≤ t.wt := by cases t; simp only [TR.u, TR.wt]; omega
  have hp := t.wt_pos
  cases x with
  | false => simp [tailP]
  | true =>
    have e1 := uvE_le (n := (unk t.u).length) (by omega)
    have e2 := tagsP_wt h1.2
    have e3 := unk_wt t.u
    simp only [tailP, if_true, List.length_append]
    omega
theorem wt_flat {f : TR → List UInt8} {K : Nat} : ∀ {l : List TR}, (∀ y ∈ l, (f y).length ≤ K * y.wt) → (l.flatMap f).length ≤ K * TR.wtL l
  | [], _ => by simp [TR.wtL]
  | y :: l, h => by
    have h1 := h y (by simp)
    have h2 := wt_flat (l := l) fun z hz => h z (by simp [hz])
    simp only [List.flatMap_cons, List.length_append, TR.wtL, Nat.mul_add]
    omega
theorem valP_wt {x nl : Bool} {k : Int} {part : TR → List UInt8} {t : TR} {K : Nat} (hp : (part t).length ≤ K * t.wt) : (valP x k part nl t).length ≤ (20 + K) * t.wt := by
  have h1 := t.wt_pos
  have hs : t.s.length + 1 ≤ t.wt := by cases t; simp only [TR.s, TR.wt]; omega
  have hw := wholeP_le t.s
  have hws : (wholeP t.s).length ≤ t.s.length := by simp [wholeP]; omega
  have hw2 : (if nl = true then [] else wholeP t.s).length ≤ 32767 := by cases nl <;> simp <;> omega
  have hw3 : (if nl = true then [] else wholeP t.s).length ≤ t.s.length := by cases nl <;> simp; omega
  rw [Nat.add_mul]
  have hb : ∀ n, n ≤ 20 → n ≤ 20 * t.wt := fun n hn => by omega
  unfold valP
  by_cases h0 : k = 0
  · rw [if_pos h0]; simp; omega
  rw [if_neg h0]
  by_cases h7 : k = 7
  · rw [if_pos h7]; simp [uuidP]; omega
  rw [if_neg h7]
  by_cases h8 : k = 8
  · rw [if_pos h8]
    have := countedP_le (x := x) (nl := nl) (k := 2) hw2 (by omega)
    simp only [List.length_append]; omega
  rw [if_neg h8]
  by_cases h9 : k = 9
  · rw [if_pos h9]
    have := countedP_le (x := x) (nl := nl) (k := 4) hw2 (by omega)
    simp only [List.length_append]; omega
  rw [if_neg h9]
  by_cases h10 : k = 10
  · rw [if_pos h10]; omega
  · rw [if_neg h10, beI_length]
    have := widthP_le k; omega
end Go.Msk

namespace Go.Msk
open Go.RowKit Go.ChangeShapes Go.WideShapes Go.ChangeAt
set_option maxRecDepth 100000
structure TreeTy (P : Program) (tT ti tS u8 tB tL tU tG tk : TypeId) : Prop where
  hT : ∃ fs : Array Field, P.underlying tT = some (.struct fs) ∧ fs.toList.map (fun f => (f.type, f.offset)) = [(ti, 0), (tS, 1), (tB, 2), (tL, 3), (tU, 4)]
  cT : P.cellsOf tT = 5
  hi : P.underlying ti = some (.int .i64)
  ci : P.cellsOf ti = 1
  hS : P.underlying tS = some (.slice u8)
  cS : P.cellsOf tS = 1
  h8 : P.underlying u8 = some (.int .u8)
  c8 : P.cellsOf u8 = 1
  hB : P.underlying tB = some .bool
  cB : P.cellsOf tB = 1
  hL : P.underlying tL = some (.slice tT)
  cL : P.cellsOf tL = 1
  hU : P.underlying tU = some (.slice tG)
  cU : P.cellsOf tU = 1
  hG : ∃ fs : Array Field, P.underlying tG = some (.struct fs) ∧ fs.toList.map (fun f => (f.type, f.offset)) = [(tk, 0), (tS, 1)]
  cG : P.cellsOf tG = 2
  hk : P.underlying tk = some (.int .u32)
  ck : P.cellsOf tk = 1
structure Bulk {H : Type} (f : DataW H → Nat) (fa : List (DataW H) → Nat) : Prop where
  int : ∀ k n, 1 ≤ f (.lit (.int k n))
  bool : ∀ b, 1 ≤ f (.lit (.bool b))
  none : 1 ≤ f .nil
  slice : ∀ a b, f (.slice a b) = fa a + fa b + 1
  agg : ∀ a, f (.agg a) = fa a + 1
  nil : fa [] = 0
  cons : ∀ d r, fa (d :: r) = f d + fa r
theorem Cells.join {w : World} {B o : Nat} {a b : List Value} (h : Cells w ⟨B, o, none⟩ a) (k : Cells w ⟨B, o + a.length, none⟩ b) : Cells w ⟨B, o, none⟩ (a ++ b) := by
  refine ⟨rfl, fun i v hv => ?_⟩
  by_cases hi : i < a.length
  · rw [List.getElem?_append_left hi] at hv; exact h.2 i v hv
  · rw [List.getElem?_append_right (by omega)] at hv
    have := k.2 _ v hv
    rwa [show o + a.length + (i - a.length) = o + i by omega] at this
theorem Cells.joinAll {w : World} {B sz : Nat} : ∀ {css : List (List Value)} {o : Nat}, (∀ c ∈ css, c.length = sz) → (∀ (i : Nat) (c : List Value), css[i]? = some c → Cells w ⟨B, o + i * sz, none⟩ c) → Cells w ⟨B, o, none⟩ css.flatten
  | [], o, _, _ => ⟨rfl, fun i v hv => by simp at hv⟩
  | c :: css, o, hs, h => by
    rw [List.flatten_cons]
    have h0 := h 0 c rfl
    refine Cells.join (by simpa using h0) ?_
    rw [hs c (by simp)]
    refine Cells.joinAll (fun x hx => hs x (by simp [hx])) fun i x hx => ?_
    have := h (i + 1) x (by simpa using hx)
    rwa [show o + sz + i * sz = o + (i + 1) * sz by rw [Nat.add_mul, Nat.one_mul]; omega]
section
variable {H : Type} {enc : TypeId × Value → H} {P : Program} {w : World}
theorem cells?_spec {a : Addr} {n : Nat} {cs : List Value} (h : w.cells? 0 a n = some cs) : cs.length = n ∧ (0 < n → a.spot = none ∧ a.block < w.heap.size ∧ Cells w a cs) := by
  unfold World.cells? at h
  rw [if_pos (Nat.zero_le _)] at h
  have hl : cs.length = n := by simpa using mapM_some_length h
  refine ⟨hl, fun hn => ?_⟩
  have hg : ∀ i, i < n → w.cell? (a.add i) = cs[i]? := fun i hi => mapM_some_get h i i (by simp [hi])
  have h0 := hg 0 hn
  obtain ⟨v, hv⟩ : ∃ v, cs[0]? = some v := ⟨cs[0], List.getElem?_eq_getElem (by omega)⟩
  rw [hv] at h0
  have hspot : a.spot = none := by simpa [Addr.add] using World.cell?_spot h0
  have hlt : a.block < w.heap.size := by have := World.block_lt_of_cell? w _ h0; simpa [Addr.add] using this
  refine ⟨hspot, hlt, hspot, fun i v hi => ?_⟩
  have hi' : i < n := by rw [← hl]; exact (List.getElem?_eq_some_iff.1 hi).1
  have := hg i hi'
  rw [hi, Addr.add_of hspot] at this
  exact this
theorem slice_things {base : Addr} {len cap sz n : Nat} {e : TypeId} {elems rest : List (DataW H × List MemPlace)} (hsz : P.cellsOf e = sz) (hpos : 0 < sz) (hlen : len ≤ cap) (hel : elems.length = len)
    (he : ∀ i, i < len → (w.cells? 0 (base.add (i * P.cellsOf e)) (P.cellsOf e)).bind (DataW.trod enc P w 0 (fun _ => true) true n e) = elems[i]?)
    (hr : rest.length = cap - len ∧ ∀ j, j < cap - len → (w.cells? 0 (base.add ((len + j) * P.cellsOf e)) (P.cellsOf e)).bind (DataW.trod enc P w 0 (fun _ => true) true n e) = rest[j]?) :
    ∃ css : List (List Value), css.length = len ∧ SlC anyB w (.slice (some base) len cap) len css.flatten ∧ (∀ c ∈ css, c.length = sz) ∧ ∀ (i : Nat) (c : List Value), css[i]? = some c → ∃ y, elems[i]? = some y ∧ DataW.trod enc P w 0 (fun _ => true) true n e c = some y := by
  subst hsz
  have hone : ∀ i, i < len → ∃ cs y, w.cells? 0 (base.add (i * P.cellsOf e)) (P.cellsOf e) = some cs ∧ DataW.trod enc P w 0 (fun _ => true) true n e cs = some y ∧ elems[i]? = some y := by
    intro i hi
    have h := he i hi
    have hg := List.getElem?_eq_getElem (l := elems) (i := i) (by omega)
    rw [hg] at h
    obtain ⟨cs, h1, h2⟩ := Option.bind_eq_some_iff.1 h
    exact ⟨cs, _, h1, h2, hg⟩
  have hb : 0 < cap → base.spot = none ∧ base.block < w.heap.size := by
    intro hc
    by_cases h0 : 0 < len
    · obtain ⟨cs, y, h1, -⟩ := hone 0 h0
      obtain ⟨-, h2⟩ := cells?_spec h1
      obtain ⟨q1, q2, -⟩ := h2 hpos
      exact ⟨by simpa [Addr.add] using q1, by simpa [Addr.add] using q2⟩
    · have h := hr.2 0 (by omega)
      rw [List.getElem?_eq_getElem (by omega)] at h
      obtain ⟨cs, h1, -⟩ := Option.bind_eq_some_iff.1 h
      have e0 : len = 0 := by omega
      subst e0
      obtain ⟨-, h2⟩ := cells?_spec h1
      obtain ⟨q1, q2, -⟩ := h2 hpos
      exact ⟨by simpa [Addr.add] using q1, by simpa [Addr.add] using q2⟩
  let css := (List.range len).map fun i => (w.cells? 0 (base.add (i * P.cellsOf e)) (P.cellsOf e)).getD []
  have hget : ∀ (i : Nat) (c : List Value), css[i]? = some c → i < len ∧ w.cells? 0 (base.add (i * P.cellsOf e)) (P.cellsOf e) = some c := by
    intro i c hc
    have hi : i < len := by have := (List.getElem?_eq_some_iff.1 hc).1; simpa [css] using this
    refine ⟨hi, ?_⟩
    obtain ⟨cs, y, h1, -⟩ := hone i hi
    simp only [css, List.getElem?_map, List.getElem?_range hi, Option.map_some, h1, Option.getD_some, Option.some.injEq] at hc
    rw [h1, hc]
  have hszs : ∀ c ∈ css, c.length = P.cellsOf e := by
    intro c hc
    obtain ⟨i, hi⟩ := List.getElem?_of_mem hc
    exact (cells?_spec (hget i c hi).2).1
  refine ⟨css, by simp [css], ⟨some base, cap, rfl, hlen, by simp, fun a ha hc => ?_⟩, hszs, fun i c hi => ?_⟩
  · simp only [Option.some.injEq] at ha; subst ha
    obtain ⟨h1, h2⟩ := hb hc
    refine ⟨trivial, h2, ?_⟩
    obtain ⟨B, o, s⟩ := base
    simp only at h1
    subst h1
    refine Cells.joinAll hszs fun i c hi => ?_
    obtain ⟨hil, hcs⟩ := hget i c hi
    obtain ⟨-, h3⟩ := cells?_spec hcs
    obtain ⟨-, -, q⟩ := h3 hpos
    rwa [Addr.add_mk] at q
  · obtain ⟨hil, hcs⟩ := hget i c hi
    obtain ⟨cs, y, h1, h2, h3⟩ := hone i hil
    rw [h1] at hcs
    simp only [Option.some.injEq] at hcs
    exact ⟨y, h3, by rw [← hcs]; exact h2⟩
theorem octets_of {t u : TypeId} {n : Nat} {cs : List Value} {x : DataW H × List MemPlace} (ht : P.underlying t = some (.slice u)) (hu : P.underlying u = some (.int .u8)) (hc : P.cellsOf u = 1) (h : DataW.trod enc P w 0 (fun _ => true) true n t cs = some x) :
    ∃ v l, cs = [v] ∧ SlC anyB w v l.length (u8s l) ∧ ∀ f fa, Bulk (H := H) f fa → l.length + 1 ≤ f x.1 := by
  rcases DataW.trod_slice ht h with ⟨rfl, rfl⟩ | ⟨a, len, cap, elems, rest, m, -, rfl, ex, -, hl, -, hel, he, hr, -⟩
  · exact ⟨_, [], rfl, SlC.nil, fun f fa B => B.none⟩
  · obtain ⟨css, k1, k2, k3, k4⟩ := slice_things (sz := 1) hc (by omega) hl hel he (hr rfl)
    have key : ∀ (css : List (List Value)) (es : List (DataW H × List MemPlace)), (∀ (i : Nat) (c : List Value), css[i]? = some c → ∃ y, es[i]? = some y ∧ DataW.trod enc P w 0 (fun _ => true) true m u c = some y) → ∃ l : List UInt8, l.length = css.length ∧ css.flatten = u8s l ∧ ∀ f fa, Bulk (H := H) f fa → l.length ≤ fa (es.map (·.1)) := by
      intro css
      induction css with
      | nil => intro es _; exact ⟨[], rfl, rfl, fun f fa _ => Nat.zero_le _⟩
      | cons c css ih =>
        intro es hh
        obtain ⟨y, h0, hy⟩ := hh 0 c rfl
        obtain ⟨es, rfl⟩ : ∃ r, es = y :: r := by
          cases es with
          | nil => simp at h0
          | cons a r => simp only [List.getElem?_cons_zero, Option.some.injEq] at h0; exact ⟨r, by rw [h0]⟩
        obtain ⟨z, rfl, ey, hw⟩ := DataW.trod_int hu hy
        obtain ⟨l, h1, h2, h3⟩ := ih es fun i x hx => by have := hh (i + 1) x (by simpa using hx); simpa using this
        obtain ⟨z0, z1⟩ := u8_of hw
        refine ⟨UInt8.ofNat z.toNat :: l, by simp [h1], ?_, fun f fa B => by
          have q := h3 f fa B
          have q0 := B.int .u8 z
          rw [List.map_cons, B.cons, ey, List.length_cons]
          show _ ≤ f (.lit (.int .u8 z)) + _
          omega⟩
        have e : ((UInt8.ofNat z.toNat).toNat : Int) = z := by simp; omega
        simp only [List.flatten_cons, h2, u8s, List.map_cons, List.cons_append, List.nil_append]
        rw [e]
    obtain ⟨l, h1, h2, h3⟩ := key css elems k4
    refine ⟨_, l, rfl, ?_, fun f fa B => ?_⟩
    · rw [h1, k1, ← h2]; exact k2
    · have q := h3 f fa B
      rw [ex]
      show _ ≤ f (.slice _ _)
      rw [B.slice]
      omega
theorem u32_of {n : Int} (h : (Lit.int .u32 n).wf = true) : 0 ≤ n ∧ n < 4294967296 := by
  simp only [Lit.wf, Bool.and_eq_true, decide_eq_true_eq] at h
  have h1 : IntKind.u32.min = 0 := by rfl
  have h2 : IntKind.u32.max = 4294967295 := by rfl
  omega
theorem i64_of {n : Int} (h : (Lit.int .i64 n).wf = true) : IntKind.i64.wrap n = n := by
  simp only [Lit.wf, Bool.and_eq_true, decide_eq_true_eq] at h
  have h1 : IntKind.i64.min = -9223372036854775808 := by rfl
  have h2 : IntKind.i64.max = 9223372036854775807 := by rfl
  simp only [IntKind.wrap, IntKind.bits, IntKind.signed]; simp; omega
variable {tT ti tS u8 tB tL tU tG tk : TypeId}
theorem field_at {fs : Array Field} {l : List (TypeId × Nat)} (h : fs.toList.map (fun f => (f.type, f.offset)) = l) {i : Nat} {t : TypeId} {o : Nat} (hi : l[i]? = some (t, o)) : ∃ f, fs[i]? = some f ∧ f.type = t ∧ f.offset = o := by
  rw [← h, List.getElem?_map] at hi
  obtain ⟨f, hf, e⟩ := Option.map_eq_some_iff.1 hi
  simp only [Prod.mk.injEq] at e
  exact ⟨f, by simpa using hf, e.1, e.2⟩
theorem tag_of (T : TreeTy P tT ti tS u8 tB tL tU tG tk) {n : Nat} {cs : List Value} {x : DataW H × List MemPlace} (h : DataW.trod enc P w 0 (fun _ => true) true n tG cs = some x) :
    ∃ (k : Nat) (v : Value) (l : List UInt8), cs = [.int .u32 k, v] ∧ k < 4294967296 ∧ SlC anyB w v l.length (u8s l) ∧ ∀ f fa, Bulk (H := H) f fa → 1 + l.length ≤ f x.1 := by
  obtain ⟨fs, hfs, hl⟩ := T.hG
  obtain ⟨xs, m, -, ex, hlen, hxl, hx⟩ := DataW.trod_struct hfs h
  rw [T.cG] at hlen
  obtain ⟨a, b, rfl⟩ : ∃ a b, cs = [a, b] := by match cs, hlen with | [a, b], _ => exact ⟨a, b, rfl⟩
  have hn : xs.length = 2 := by rw [hxl, ← Array.length_toList, ← List.length_map (f := fun f : Field => (f.type, f.offset)), hl]; rfl
  obtain ⟨f0, g0, g1, g2⟩ := field_at hl (i := 0) rfl
  obtain ⟨f1, k0, k1, k2⟩ := field_at hl (i := 1) rfl
  have q0 := hx 0 f0 g0
  have q1 := hx 1 f1 k0
  rw [g1, g2, T.ck, List.getElem?_eq_getElem (by omega)] at q0
  rw [k1, k2, T.cS, List.getElem?_eq_getElem (by omega)] at q1
  simp only [List.drop_zero, List.take_succ_cons, List.take_zero, List.drop_succ_cons] at q0 q1
  obtain ⟨z, e0, -, hw⟩ := DataW.trod_int T.hk q0
  obtain ⟨v, l, e1, hs, hb⟩ := octets_of T.hS T.h8 T.c8 q1
  simp only [List.cons.injEq, and_true] at e0 e1
  obtain ⟨z0, z1⟩ := u32_of hw
  refine ⟨z.toNat, v, l, ?_, by omega, hs, fun f fa B => ?_⟩
  · rw [e0, e1, Int.toNat_of_nonneg z0]
  · have q := hb f fa B
    obtain ⟨a, b, rfl⟩ : ∃ a b, xs = [a, b] := by match xs, hn with | [a, b], _ => exact ⟨a, b, rfl⟩
    simp only [List.getElem_cons_succ, List.getElem_cons_zero] at q
    rw [ex]
    show _ ≤ f (.agg _)
    rw [B.agg]
    simp only [List.map_cons, B.cons]
    omega
theorem tree_of (T : TreeTy P tT ti tS u8 tB tL tU tG tk) : ∀ (n : Nat) (cs : List Value) (x : DataW H × List MemPlace), DataW.trod enc P w 0 (fun _ => true) true n tT cs = some x → ∃ t : TR, RepT anyB w t cs ∧ t.kok ∧ t.nok ∧ ∀ f fa, Bulk (H := H) f fa → t.wt ≤ f x.1 := by
  intro n
  induction n using Nat.strongRecOn with
  | ind n ih =>
  intro cs x h
  obtain ⟨fs, hfs, hl⟩ := T.hT
  obtain ⟨xs, m, hm, ex, hlen, hxl, hx⟩ := DataW.trod_struct hfs h
  rw [T.cT] at hlen
  obtain ⟨a, b, c, d, e, rfl⟩ : ∃ a b c d e, cs = [a, b, c, d, e] := by match cs, hlen with | [a, b, c, d, e], _ => exact ⟨a, b, c, d, e, rfl⟩
  have hn : xs.length = 5 := by rw [hxl, ← Array.length_toList, ← List.length_map (f := fun f : Field => (f.type, f.offset)), hl]; rfl
  obtain ⟨f0, g0, g1, g2⟩ := field_at hl (i := 0) rfl
  obtain ⟨f1, k0, k1, k2⟩ := field_at hl (i := 1) rfl
  obtain ⟨f2, m0, m1, m2⟩ := field_at hl (i := 2) rfl
  obtain ⟨f3, p0, p1, p2⟩ := field_at hl (i := 3) rfl
  obtain ⟨f4, r0, r1, r2⟩ := field_at hl (i := 4) rfl
  have q0 := hx 0 f0 g0
  have q1 := hx 1 f1 k0
  have q2 := hx 2 f2 m0
  have q3 := hx 3 f3 p0
  have q4 := hx 4 f4 r0
  rw [g1, g2, T.ci, List.getElem?_eq_getElem (by omega)] at q0
  rw [k1, k2, T.cS, List.getElem?_eq_getElem (by omega)] at q1
  rw [m1, m2, T.cB, List.getElem?_eq_getElem (by omega)] at q2
  rw [p1, p2, T.cL, List.getElem?_eq_getElem (by omega)] at q3
  rw [r1, r2, T.cU, List.getElem?_eq_getElem (by omega)] at q4
  simp only [List.drop_zero, List.take_succ_cons, List.take_zero, List.drop_succ_cons] at q0 q1 q2 q3 q4
  obtain ⟨z, e0, -, hwz⟩ := DataW.trod_int T.hi q0
  obtain ⟨sv, s, e1, hs, hsb⟩ := octets_of T.hS T.h8 T.c8 q1
  obtain ⟨nb, e2, -⟩ := DataW.trod_bool T.hB q2
  simp only [List.cons.injEq, and_true] at e0 e1 e2
  -- the tree's own
  have hlist : ∃ (ls : List TR) (css : List (List Value)), SlC anyB w d ls.length css.flatten ∧ RepTL anyB w ls css ∧ TR.kokL ls ∧ TR.nokL ls ∧ ∀ f fa, Bulk (H := H) f fa → TR.wtL ls + 1 ≤ f (xs[3]'(by omega)).1 := by
    rcases DataW.trod_slice T.hL q3 with ⟨e3, e4⟩ | ⟨ad, len, cap, elems, rest, mm, hmm, e3, e4, -, hle, -, hel, he, hr, -⟩
    · simp only [List.cons.injEq, and_true] at e3
      subst e3
      exact ⟨[], [], SlC.nil, .nil, trivial, trivial, fun f fa B => by rw [e4]; exact B.none⟩
    · simp only [List.cons.injEq, and_true] at e3
      subst e3
      obtain ⟨css, u1, u2, -, u4⟩ := slice_things (sz := 5) T.cT (by omega) hle hel he (hr rfl)
      have key : ∀ (css : List (List Value)) (es : List (DataW H × List MemPlace)), (∀ (i : Nat) (c : List Value), css[i]? = some c → ∃ y, es[i]? = some y ∧ DataW.trod enc P w 0 (fun _ => true) true mm tT c = some y) → ∃ ls : List TR, ls.length = css.length ∧ RepTL anyB w ls css ∧ TR.kokL ls ∧ TR.nokL ls ∧ ∀ f fa, Bulk (H := H) f fa → TR.wtL ls ≤ fa (es.map (·.1)) := by
        intro css
        induction css with
        | nil => intro es _; exact ⟨[], rfl, .nil, trivial, trivial, fun f fa _ => Nat.zero_le _⟩
        | cons c css ihc =>
          intro es hh
          obtain ⟨y, h0, hy⟩ := hh 0 c rfl
          obtain ⟨es, rfl⟩ : ∃ r, es = y :: r := by
            cases es with
            | nil => simp at h0
            | cons a r => simp only [List.getElem?_cons_zero, Option.some.injEq] at h0; exact ⟨r, by rw [h0]⟩
          obtain ⟨t, ht, hk, hno, hb⟩ := ih mm (by omega) c y hy
          obtain ⟨ls, v1, v2, v3, v5, v4⟩ := ihc es fun i x hx => by have := hh (i + 1) x (by simpa using hx); simpa using this
          exact ⟨t :: ls, by simp [v1], .cons ht v2, ⟨hk, v3⟩, ⟨hno, v5⟩, fun f fa B => by
            have q1 := hb f fa B
            have q2 := v4 f fa B
            rw [List.map_cons, B.cons]
            simp only [TR.wtL]
            omega⟩
      obtain ⟨ls, v1, v2, v3, v5, v4⟩ := key css elems u4
      exact ⟨ls, css, by rw [v1, u1]; exact u2, v2, v3, v5, fun f fa B => by
        have q := v4 f fa B
        rw [e4]
        show _ ≤ f (.slice _ _)
        rw [B.slice]
        omega⟩
  have htags : ∃ (u : List (Nat × List UInt8)) (uss : List (List Value)), SlC anyB w e u.length uss.flatten ∧ RepU anyB w u uss ∧ (∀ p ∈ u, p.1 < 4294967296) ∧ ∀ f fa, Bulk (H := H) f fa → wtU u + 1 ≤ f (xs[4]'(by omega)).1 := by
    rcases DataW.trod_slice T.hU q4 with ⟨e3, e4⟩ | ⟨ad, len, cap, elems, rest, mm, hmm, e3, e4, -, hle, -, hel, he, hr, -⟩
    · simp only [List.cons.injEq, and_true] at e3
      subst e3
      exact ⟨[], [], SlC.nil, .nil, by simp, fun f fa B => by rw [e4]; exact B.none⟩
    · simp only [List.cons.injEq, and_true] at e3
      subst e3
      obtain ⟨css, u1, u2, -, u4⟩ := slice_things (sz := 2) T.cG (by omega) hle hel he (hr rfl)
      have key : ∀ (css : List (List Value)) (es : List (DataW H × List MemPlace)), (∀ (i : Nat) (c : List Value), css[i]? = some c → ∃ y, es[i]? = some y ∧ DataW.trod enc P w 0 (fun _ => true) true mm tG c = some y) → ∃ u : List (Nat × List UInt8), u.length = css.length ∧ RepU anyB w u css ∧ (∀ p ∈ u, p.1 < 4294967296) ∧ ∀ f fa, Bulk (H := H) f fa → wtU u ≤ fa (es.map (·.1)) := by
        intro css
        induction css with
        | nil => intro es _; exact ⟨[], rfl, .nil, by simp, fun f fa _ => Nat.zero_le _⟩
        | cons c css ihc =>
          intro es hh
          obtain ⟨y, h0, hy⟩ := hh 0 c rfl
          obtain ⟨es, rfl⟩ : ∃ r, es = y :: r := by
            cases es with
            | nil => simp at h0
            | cons a r => simp only [List.getElem?_cons_zero, Option.some.injEq] at h0; exact ⟨r, by rw [h0]⟩
          obtain ⟨k, v, l, rfl, hk, hv, hb⟩ := tag_of T hy
          obtain ⟨u, v1, v2, v3, v4⟩ := ihc es fun i x hx => by have := hh (i + 1) x (by simpa using hx); simpa using this
          refine ⟨(k, l) :: u, by simp [v1], .cons hv v2, fun p hp => ?_, fun f fa B => ?_⟩
          · rcases List.mem_cons.1 hp with rfl | hp
            · exact hk
            · exact v3 p hp
          · have q1 := hb f fa B
            have q2 := v4 f fa B
            rw [List.map_cons, B.cons]
            simp only [wtU]
            omega
      obtain ⟨u, v1, v2, v3, v4⟩ := key css elems u4
      exact ⟨u, css, by rw [v1, u1]; exact u2, v2, v3, fun f fa B => by
        have q := v4 f fa B
        rw [e4]
        show _ ≤ f (.slice _ _)
        rw [B.slice]
        omega⟩
  obtain ⟨ls, css, l1, l2, l3, l5, l4⟩ := hlist
  obtain ⟨u, uss, w1, w2, w3, w4⟩ := htags
  subst e0; subst e1; subst e2
  refine ⟨.mk z s nb ls u, .mk hs l1 l2 w1 w2, ⟨w3, l3⟩, ⟨i64_of hwz, l5⟩, fun f fa B => ?_⟩
  have a1 := hsb f fa B
  have a2 := l4 f fa B
  have a3 := w4 f fa B
  obtain ⟨x0, x1, x2, x3, x4, rfl⟩ : ∃ a b c d e, xs = [a, b, c, d, e] := by match xs, hn with | [a, b, c, d, e], _ => exact ⟨a, b, c, d, e, rfl⟩
  simp only [List.getElem_cons_succ, List.getElem_cons_zero] at a1 a2 a3
  rw [ex]
  show _ ≤ f (.agg _)
  rw [B.agg]
  simp only [List.map_cons, B.cons, TR.wt]
  omega
theorem open_tree (T : TreeTy P tT ti tS u8 tB tL tU tG tk) (hl : laidOutB P = true) (hrd : P.readableRec tT = true) (hrow : tT < P.types.size) {v : Value} {d : DataW H} {p : List MemPlace} {base : Nat} (hv : Value.okWide P w .any base tT v)
    (h : DataW.Trod enc P w 0 (fun _ => true) true tT v d p) :
    ∃ (t : TR) (ts : List Value), v = .agg ts.toArray ∧ RepT anyB w t ts ∧ t.kok ∧ t.nok ∧ (∀ f fa, Bulk (H := H) f fa → t.wt ≤ f d) ∧ ∀ W', Mod [] w W' → DataW.Trod enc P W' 0 (fun b => decide (b < w.heap.size)) true tT v d p := by
  obtain ⟨fs, hfs, -⟩ := T.hT
  simp only [Value.okWide, hfs] at hv
  obtain ⟨cs, rfl, -, -⟩ := hv
  obtain ⟨n, hn⟩ := id h
  obtain ⟨t, ht, hk, hno, hb⟩ := tree_of T n _ _ hn
  have ec : (Value.agg cs).cells.toList = cs.toList := rfl
  rw [ec] at ht
  have hlt : ∀ q ∈ p, q.block < w.heap.size := fun q hq => DataW.trod_lt n tT _ _ hn q hq
  refine ⟨t, cs.toList, by simp, ht, hk, hno, hb, fun W' hm => ?_⟩
  refine Go.WideElems.Trod_stays hl hrd hrow h (fun q hq => ?_) fun q hq => by simpa using hlt q hq
  have hq := hlt q hq
  cases q with
  | cell b off => exact World.cell?_of_block (hm.block b hq (by simp))
  | map b => exact hm.block b hq (by simp)
end
end Go.Msk
