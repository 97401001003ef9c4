/- A small language of resolved operations, and what the generic and the generated functions do in it (part 14). -/
import Derived.Test.YtcknmmkgmlkhaaaGreatDoorFm
import Derived.WideKeyArgs
import Derived.JoinedCond

namespace Go.Msk
open Go.RowKit
set_option maxRecDepth 100000
def zz3Code : IC × List RV × Nat :=
  (.seq (.blk [⟨some 1, .box (.tmp 0), none⟩, ⟨some 2, .mv (.const (.bool false)), none⟩])
  (.seq (.seq (.blk [⟨some 3, .fad (.tmp 1) 1, none⟩, ⟨some 4, .ld (.tmp 3), none⟩, ⟨some 5, .len (.tmp 4), none⟩, ⟨some 6, .bin .gtr (.tmp 5) (.const (.int .i64 2147483647)), none⟩])
    (.cond (.tmp 6) (.seq (.blk [⟨some 2, .mv (.const (.bool false)), none⟩]) .ret) .skip))
  (.seq (.blk [⟨some 2, .mv (.const (.bool true)), none⟩]) .ret)), [.tmp 2], 7)
def zz2Code (z3 : FuncId) : IC × List RV × Nat :=
  (.seq (.blk [⟨some 2, .mv (.const (.bool false)), none⟩])
  (.seq (.seq (.blk [⟨some 5, .mv (.tmp 0), none⟩, ⟨some 6, .len (.tmp 5), none⟩, ⟨some 7, .bin .gtr (.tmp 6) (.const (.int .i64 2147483647)), none⟩])
    (.cond (.tmp 7) (.seq (.blk [⟨some 2, .mv (.const (.bool false)), none⟩]) .ret) .skip))
  (.seq (.seq (.blk [⟨some 8, .mv (.tmp 0), none⟩, ⟨some 9, .len (.tmp 8), none⟩, ⟨some 10, .mv (.const (.int .i64 0)), none⟩])
    (.block 0 (.loop (.seq (.blk [⟨some 11, .bin .lss (.tmp 10) (.tmp 9), none⟩])
        (.seq (.cond (.tmp 11) .skip (.exit 0))
        (.seq (.block 1 (.seq (.blk [⟨some 12, .iad (.tmp 8) (.tmp 10) 2, none⟩, ⟨some 13, .ldn (.tmp 12) 2, none⟩, ⟨some 4, .alloc [.int .u32 0, .slice none 0 0], none⟩, ⟨none, .st (.tmp 4) 2 (.tmp 13), none⟩])
            (.seq (.blk [⟨some 14, .ldn (.tmp 4) 2, none⟩, ⟨some 15, .call z3 [.tmp 14], none⟩, ⟨some 16, .lnot (.tmp 15), none⟩])
            (.cond (.tmp 16) (.seq (.blk [⟨some 2, .mv (.const (.bool false)), none⟩]) .ret) .skip))))
        (.blk [⟨some 17, .bin .add (.tmp 10) (.const (.int .i64 1)), none⟩, ⟨some 10, .mv (.tmp 17), none⟩])))))))
  (.seq (.blk [⟨some 2, .mv (.const (.bool true)), none⟩]) .ret))), [.tmp 2], 18)
def zz1Code (z2 : FuncId) : IC × List RV × Nat :=
  (.seq (.blk [⟨some 1, .box (.tmp 0), none⟩, ⟨some 2, .mv (.const (.bool false)), none⟩])
  (.seq (.seq (.blk [⟨some 3, .fad (.tmp 1) 1, none⟩, ⟨some 4, .ld (.tmp 3), none⟩, ⟨some 5, .len (.tmp 4), none⟩, ⟨some 6, .bin .gtr (.tmp 5) (.const (.int .i64 2147483647)), none⟩])
    (.cond (.tmp 6) (.seq (.blk [⟨some 2, .mv (.const (.bool false)), none⟩]) .ret) .skip))
  (.seq (.seq (.blk [⟨some 7, .fad (.tmp 1) 3, none⟩, ⟨some 8, .ld (.tmp 7), none⟩, ⟨some 9, .len (.tmp 8), none⟩, ⟨some 10, .bin .gtr (.tmp 9) (.const (.int .i64 2147483647)), none⟩])
    (.cond (.tmp 10) (.seq (.blk [⟨some 2, .mv (.const (.bool false)), none⟩]) .ret) .skip))
  (.seq (.seq (.blk [⟨some 11, .fad (.tmp 1) 4, none⟩, ⟨some 12, .ld (.tmp 11), none⟩, ⟨some 13, .call z2 [.tmp 12], none⟩, ⟨some 14, .lnot (.tmp 13), none⟩])
    (.cond (.tmp 14) (.seq (.blk [⟨some 2, .mv (.const (.bool false)), none⟩]) .ret) .skip))
  (.seq (.blk [⟨some 2, .mv (.const (.bool true)), none⟩]) .ret)))), [.tmp 2], 15)
def BoolR (w : World) : Ending → World → Prop := fun e w' => ∃ b, e = .returned (.bool b) ∧ Mod [] w w'
section
variable {P : Program}
attribute [local simp] gOk updo upd ev RK.val? isShift intBin Addr.add_mk args0 Value.cells undef
theorem zz3_call (hm : P.follows .mixedOrders = true) {f : FuncId} (h : liftF P f = some zz3Code) {w : World} {k : Value} {n : Nat} {b : Option Addr} {c : Nat} : Calls P f [.agg #[k, .slice b n c]].toArray w (BoolR w) := by
  unfold zz3Code at h
  refine call_of h hm (by simp) ?_
  clear h
  rw [wpC_seq, wpC_blk]
  refine goBox (v := .agg #[k, .slice b n c]) (by simp) fun w1 hb1 hm1 => ?_
  have hb1 : Blk w1 w.heap.size [k, .slice b n c] := by simpa using hb1
  have c1 := fun j => hb1.cell j
  refine go1 (v := .bool false) rfl (by simp) (goEnd ?_)
  simp only [thenC]
  rw [wpC_seq, wpC_seq, wpC_blk]
  refine go1 (v := .pointer (some ⟨w.heap.size, 1, none⟩)) rfl (by simp) ?_
  refine go1 (v := .slice b n c) rfl (by simp [c1]) ?_
  refine go1 (v := .int .i64 (n : Nat)) rfl (by simp) ?_
  refine go1 (v := .bool (decide ((n : Int) > 2147483647))) rfl (by simp) (goEnd ?_)
  simp only [thenC]
  by_cases hc : (n : Int) > 2147483647
  · rw [wpC_cond_t (by simp [hc]), wpC_seq, wpC_blk]
    refine go1 (v := .bool false) rfl (by simp) (goEnd ?_)
    simp only [thenC]
    repeat first | refine retThen ?_ | refine retBlk ?_
    exact ret1 (v := .bool false) (by simp) ⟨_, rfl, hm1⟩
  · rw [wpC_cond_f (by simp [hc]), wpC_skip]
    simp only [thenC]
    rw [wpC_seq, wpC_blk]
    refine go1 (v := .bool true) rfl (by simp) (goEnd ?_)
    simp only [thenC]
    exact ret1 (v := .bool true) (by simp) ⟨_, rfl, hm1⟩
theorem zz2_call (hm : P.follows .mixedOrders = true) {f z3 : FuncId} (h : liftF P f = some (zz2Code z3)) (h3 : liftF P z3 = some zz3Code) {w : World} {v : Value} {u : List (Nat × List UInt8)} {uss : List (List Value)} (hv : SlC anyB w v u.length uss.flatten) (hu : RepU anyB w u uss) :
    Calls P f [v].toArray w (BoolR w) := by
  unfold zz2Code at h
  refine call_of h hm (by simp) ?_
  clear h
  obtain ⟨vb, vc, ev'⟩ := hv.shape
  have ul : u.length = uss.length := by
    clear hv ev'
    induction hu with
    | nil => rfl
    | cons _ _ ih => simp [ih]
  rw [wpC_seq, wpC_blk]
  refine go1 (v := .bool false) rfl (by simp) (goEnd ?_)
  simp only [thenC]
  rw [wpC_seq, wpC_seq, wpC_blk]
  refine go1 (v := v) rfl (by simp) ?_
  refine go1 (v := .int .i64 (u.length : Nat)) rfl (by simp [ev']) ?_
  refine go1 (v := .bool (decide ((u.length : Int) > 2147483647))) rfl (by simp) (goEnd ?_)
  simp only [thenC]
  by_cases hc : (u.length : Int) > 2147483647
  · rw [wpC_cond_t (by simp [hc]), wpC_seq, wpC_blk]
    refine go1 (v := .bool false) rfl (by simp) (goEnd ?_)
    simp only [thenC]
    repeat first | refine retThen ?_ | refine retBlk ?_
    exact ret1 (v := .bool false) (by simp) ⟨_, rfl, Mod.refl _ _⟩
  · rw [wpC_cond_f (by simp [hc]), wpC_skip]
    simp only [thenC]
    rw [wpC_seq, wpC_seq, wpC_blk]
    refine go1 (v := v) rfl (by simp) ?_
    refine go1 (v := .int .i64 (u.length : Nat)) rfl (by simp [ev']) ?_
    refine go1 (v := .int .i64 (0 : Nat)) rfl (by simp) (goEnd ?_)
    simp only [thenC]
    refine rangeLoop (n := u.length) (fun j σ w' => σ 8 = v ∧ σ 10 = .int .i64 (j : Nat) ∧ σ 9 = .int .i64 (u.length : Nat) ∧ Mod [] w w') (by omega) (by omega) (fun j σ w h => ⟨h.2.1, h.2.2.1⟩) ?_ ?_ ?_
    · exact ⟨by simp, by simp, by simp, Mod.refl _ _⟩
    · rintro j σ w1 hj ⟨k8, k10, k9, hm1⟩
      have hsh : ∀ {u : List (Nat × List UInt8)} {uss : List (List Value)}, RepU anyB w u uss → ∀ c ∈ uss, ∃ a b n d, c = [a, .slice b n d] := by
        intro u uss h
        induction h with
        | nil => simp
        | cons h _ ih =>
          intro c hc
          rcases List.mem_cons.1 hc with rfl | hc
          · obtain ⟨b, d, e⟩ := h.shape
            exact ⟨_, b, _, d, by rw [e]⟩
          · exact ih c hc
      have hc1 : uss[j]? = some uss[j] := List.getElem?_eq_getElem (by omega)
      obtain ⟨ka, kb, kn, kd, ek⟩ := hsh hu _ (List.mem_of_getElem? hc1)
      have hsz : ∀ c ∈ uss, c.length = 2 := fun c hc => by obtain ⟨a, b, n, d, rfl⟩ := hsh hu c hc; rfl
      obtain ⟨base, cap, e1, e2, e3, e4⟩ := hv
      cases base with
      | none => have := e3 rfl; omega
      | some a =>
        obtain ⟨-, q2, q3⟩ := e4 a rfl (by omega)
        obtain ⟨ab, ao, as⟩ := a
        have eb : as = none := q3.1
        subst eb
        have hce := q3.each hsz hc1
        rw [ek] at hce
        have hld := cellsAt_of' (hce.mod hm1 (.inr (by simp))) (show [ka, Value.slice kb kn kd].length = 2 from rfl)
        subst e1
        rw [wpC_seq, wpC_blk]
        refine go1 (v := .pointer (some ⟨ab, ao + j * 2, none⟩)) rfl (by simp [k8, k10, hj]) ?_
        refine go1 (v := .agg #[ka, .slice kb kn kd]) rfl (by simp [hld]) ?_
        refine goAlloc fun w2 hb2 hm2 => ?_
        have hone : ∀ y ∈ (Value.agg #[ka, .slice kb kn kd]).cells.toList, y.oneCell' = true := by
          have hku : ∀ {u : List (Nat × List UInt8)} {uss : List (List Value)}, RepU anyB w u uss → ∀ c ∈ uss, ∀ y ∈ c, y.oneCell' = true := by
            intro u uss h
            induction h with
            | nil => simp
            | cons h _ ih =>
              intro c hc y hy
              rcases List.mem_cons.1 hc with rfl | hc
              · simp only [List.mem_cons, List.not_mem_nil, or_false] at hy
                rcases hy with rfl | rfl
                · rfl
                · exact h.one
              · exact ih c hc y hy
          have := hku hu _ (List.mem_of_getElem? hc1)
          rw [ek] at this
          simpa using this
        refine goSt (b := w1.heap.size) (v := .agg #[ka, .slice kb kn kd]) (by simp) (by simp) hb2 (by simp) (by simp) hone fun w3 hb3 hm3 => goEnd ?_
        simp only [thenC]
        have hb3 : Blk w3 w1.heap.size [ka, .slice kb kn kd] := by simpa using hb3
        have hm13 : Mod [] w1 w3 := Mod.drop (b := w1.heap.size) (S := []) (hm2.nil.trans hm3) (Nat.le_refl _)
        have hld3 := cellsAt_of' hb3.cells (show [ka, Value.slice kb kn kd].length = 2 from rfl)
        rw [wpC_seq, wpC_blk]
        refine go1 (v := .agg #[ka, .slice kb kn kd]) rfl (by simp [hld3]) ?_
        refine goCall rfl (vs := [.agg #[ka, .slice kb kn kd]]) (by simp) (zz3_call hm h3) ?_
        rintro e w4 ⟨b, rfl, hm4⟩
        refine ⟨_, rfl, go1 (v := .bool !b) rfl (by simp) (goEnd ?_)⟩
        simp only [thenC]
        have hm04 := (hm1.trans hm13).trans hm4
        cases b with
        | false =>
          rw [wpC_cond_t (by simp), wpC_seq, wpC_blk]
          refine go1 (v := .bool false) rfl (by simp) (goEnd ?_)
          simp only [thenC]
          repeat first | refine retThen ?_ | refine retBlk ?_ | refine retRng ?_
          exact ret1 (v := .bool false) (by simp) ⟨_, rfl, hm04⟩
        | true =>
          rw [wpC_cond_f (by simp), wpC_skip]
          refine ⟨by simp [k10], by simp [k8], by simp, by simp [k9], hm04⟩
    · rintro σ w1 ⟨-, -, -, hm1⟩
      simp only [thenC]
      rw [wpC_seq, wpC_blk]
      refine go1 (v := .bool true) rfl (by simp) (goEnd ?_)
      simp only [thenC]
      exact ret1 (v := .bool true) (by simp) ⟨_, rfl, hm1⟩
theorem zz1_call (hm : P.follows .mixedOrders = true) {f z2 z3 : FuncId} (h : liftF P f = some (zz1Code z2)) (h2 : liftF P z2 = some (zz2Code z3)) (h3 : liftF P z3 = some zz3Code) {w : World} {t : TR} {ts : List Value} (ht : RepT anyB w t ts) :
    Calls P f [.agg ts.toArray].toArray w (BoolR w) := by
  unfold zz1Code at h
  refine call_of h hm (by simp) ?_
  clear h
  cases ht with
  | @mk n s null l u sv lv uv css uss q1 q2 q3 q4 q5 =>
  obtain ⟨b1, c1, e1⟩ := q1.shape
  obtain ⟨b2, c2, e2⟩ := q2.shape
  rw [wpC_seq, wpC_blk]
  refine goBox (v := .agg #[.int .i64 n, sv, .bool null, lv, uv]) (by simp) fun w1 hb1 hm1 => ?_
  have hb1 : Blk w1 w.heap.size [.int .i64 n, sv, .bool null, lv, uv] := by simpa using hb1
  have cc := fun j => hb1.cell j
  refine go1 (v := .bool false) rfl (by simp) (goEnd ?_)
  simp only [thenC]
  rw [wpC_seq, wpC_seq, wpC_blk]
  refine go1 (v := .pointer (some ⟨w.heap.size, 1, none⟩)) rfl (by simp) ?_
  refine go1 (v := sv) rfl (by simp [cc]) ?_
  refine go1 (v := .int .i64 (s.length : Nat)) rfl (by simp [e1]) ?_
  refine go1 (v := .bool (decide ((s.length : Int) > 2147483647))) rfl (by simp) (goEnd ?_)
  simp only [thenC]
  by_cases hc : (s.length : Int) > 2147483647
  · rw [wpC_cond_t (by simp [hc]), wpC_seq, wpC_blk]
    refine go1 (v := .bool false) rfl (by simp) (goEnd ?_)
    simp only [thenC]
    repeat first | refine retThen ?_ | refine retBlk ?_
    exact ret1 (v := .bool false) (by simp) ⟨_, rfl, hm1⟩
  rw [wpC_cond_f (by simp [hc]), wpC_skip]
  simp only [thenC]
  rw [wpC_seq, wpC_seq, wpC_blk]
  refine go1 (v := .pointer (some ⟨w.heap.size, 3, none⟩)) rfl (by simp) ?_
  refine go1 (v := lv) rfl (by simp [cc]) ?_
  refine go1 (v := .int .i64 (l.length : Nat)) rfl (by simp [e2]) ?_
  refine go1 (v := .bool (decide ((l.length : Int) > 2147483647))) rfl (by simp) (goEnd ?_)
  simp only [thenC]
  by_cases hc2 : (l.length : Int) > 2147483647
  · rw [wpC_cond_t (by simp [hc2]), wpC_seq, wpC_blk]
    refine go1 (v := .bool false) rfl (by simp) (goEnd ?_)
    simp only [thenC]
    repeat first | refine retThen ?_ | refine retBlk ?_
    exact ret1 (v := .bool false) (by simp) ⟨_, rfl, hm1⟩
  rw [wpC_cond_f (by simp [hc2]), wpC_skip]
  simp only [thenC]
  rw [wpC_seq, wpC_seq, wpC_blk]
  refine go1 (v := .pointer (some ⟨w.heap.size, 4, none⟩)) rfl (by simp) ?_
  refine go1 (v := uv) rfl (by simp [cc]) ?_
  refine goCall rfl (vs := [uv]) (by simp) (zz2_call hm h2 h3 (q4.keep hm1) (q5.mod hm1 (by simp) fun _ _ _ => trivial)) ?_
  rintro e w2 ⟨b, rfl, hm2⟩
  refine ⟨_, rfl, go1 (v := .bool !b) rfl (by simp) (goEnd ?_)⟩
  simp only [thenC]
  have hm02 := hm1.trans hm2
  cases b with
  | false =>
    rw [wpC_cond_t (by simp), wpC_seq, wpC_blk]
    refine go1 (v := .bool false) rfl (by simp) (goEnd ?_)
    simp only [thenC]
    repeat first | refine retThen ?_ | refine retBlk ?_
    exact ret1 (v := .bool false) (by simp) ⟨_, rfl, hm02⟩
  | true =>
    rw [wpC_cond_f (by simp), wpC_skip]
    simp only [thenC]
    rw [wpC_seq, wpC_blk]
    refine go1 (v := .bool true) rfl (by simp) (goEnd ?_)
    simp only [thenC]
    exact ret1 (v := .bool true) (by simp) ⟨_, rfl, hm02⟩
end
end Go.Msk

namespace Go.Msk
open Go.RowKit
set_option maxRecDepth 100000
abbrev at_ (l : List UInt8) : RS := ⟨l, false, false⟩
theorem beNat_beI : ∀ (k : Nat) (n : Int), (beNat (beI k n) : Int) = n % 256 ^ k
  | 0, n => by simp [beI, beNat]
  | k + 1, n => by
    have hp : (0 : Int) < 256 ^ k := Int.pow_pos (by omega)
    have ih := beNat_beI k n
    rw [beI, beNat_cons, beI_length]
    have h2 : 0 ≤ (n / 256 ^ k) % 256 := Int.emod_nonneg _ (by omega)
    have h3 : (n / 256 ^ k) % 256 < 256 := Int.emod_lt_of_pos _ (by omega)
    have e : (UInt8.ofNat ((n / 256 ^ k) % 256).toNat).toNat = ((n / 256 ^ k) % 256).toNat := by simp; omega
    rw [e]
    have e2 : (((n / 256 ^ k) % 256).toNat : Int) = (n / 256 ^ k) % 256 := Int.toNat_of_nonneg h2
    rw [Int.natCast_add, Int.natCast_mul, e2, ih, ediv_emod_256 _ _ hp, Int.pow_succ]
    have q : (n % (256 ^ k * 256)) % 256 ^ k = n % 256 ^ k := Int.emod_emod_of_dvd n ⟨256, rfl⟩
    rw [← q]
    have := Int.mul_ediv_add_emod (n % (256 ^ k * 256)) (256 ^ k)
    have e3 : ((256 ^ k : Nat) : Int) = (256 : Int) ^ k := by simp
    rw [e3, Int.mul_comm]
    exact this
theorem rdN_beI (k : Nat) (n : Int) (r : List UInt8) : ((rdN k (at_ (beI k n ++ r))).1 : Int) = n % 256 ^ k ∧ (rdN k (at_ (beI k n ++ r))).2 = at_ r := by
  have hl := beI_length k n
  have e : k ≤ (beI k n ++ r).length := by simp [hl]
  have e1 : (beI k n ++ r).take k = beI k n := by have := List.take_left (l₁ := beI k n) (l₂ := r); rwa [hl] at this
  have e2 : (beI k n ++ r).drop k = r := by have := List.drop_left (l₁ := beI k n) (l₂ := r); rwa [hl] at this
  unfold rdN
  simp only [e, if_true, e1, e2]
  exact ⟨beNat_beI k n, trivial⟩
theorem rdSpan_at (l r : List UInt8) : rdSpan (l.length : Nat) (at_ (l ++ r)) = (some l, at_ r) := by
  unfold rdSpan
  rw [if_neg (by simp only [List.length_append]; omega)]
  simp
theorem uvR_uvE : ∀ (k n : Nat) (r : List UInt8), n < 16 * 128 ^ k → uvR (k + 1) (uvE n ++ r) = some (n, (uvE n).length)
  | 0, n, r, h => by
    rw [uvE_small (by omega)]
    have e : (UInt8.ofNat n).toNat = n := by simp; omega
    simp only [List.cons_append, List.nil_append, uvR, e, List.length_cons, List.length_nil]
    rw [if_pos (by omega), if_neg (by omega)]
  | k + 1, n, r, h => by
    by_cases hn : n < 128
    · rw [uvE_small hn]
      have e : (UInt8.ofNat n).toNat = n := by simp; omega
      simp only [List.cons_append, List.nil_append, List.length_cons, List.length_nil]
      rw [uvR, e, if_pos hn, if_neg (by omega)]
    · rw [uvE_big (by omega)]
      have e : (UInt8.ofNat (n % 128 + 128)).toNat = n % 128 + 128 := by simp; omega
      have ih := uvR_uvE k (n / 128) r (by rw [Nat.pow_succ] at h; omega)
      simp only [List.cons_append, List.length_cons]
      rw [uvR, e, if_neg (by omega), ih]
      simp only
      congr 2
      omega
theorem rdUv_uvE {n : Nat} (h : n < 4294967296) (r : List UInt8) : rdUv (at_ (uvE n ++ r)) = (n, at_ r) := by
  unfold rdUv
  rw [uvR_uvE 4 n r (by omega)]
  simp
def kindOk (kind : Int) (nul : Bool) (p : PK) : Bool :=
  match p with
  | .bool => decide (kind = 0)
  | .i8 => decide (kind = 1)
  | .i16 => decide (kind = 2)
  | .u16 => decide (kind = 5)
  | .i32 => decide (kind = 3)
  | .i64 => decide (kind = 4)
  | .uuid => decide (kind = 7)
  | .str => decide (kind = 8) && !nul
  | .nstr => decide (kind = 8)
  | .byt => decide (kind = 9) && !nul
  | _ => false
theorem pair_of {α β : Type} {p : α × β} {a : α} {b : β} (h1 : p.1 = a) (h2 : p.2 = b) : p = (a, b) := by cases p; simp_all
theorem wc16 (j : Int) : IntKind.i16.wrap (j % 65536) = IntKind.i16.wrap j := by
  simp only [IntKind.wrap, IntKind.bits, IntKind.signed]; simp
theorem wc8 (j : Int) : IntKind.i8.wrap (j % 256) = IntKind.i8.wrap j := by
  simp only [IntKind.wrap, IntKind.bits, IntKind.signed]; simp
theorem wc32 (j : Int) : IntKind.i32.wrap (j % 4294967296) = IntKind.i32.wrap j := by
  simp only [IntKind.wrap, IntKind.bits, IntKind.signed]; simp
theorem wc64 (j : Int) : IntKind.i64.wrap (j % 18446744073709551616) = IntKind.i64.wrap j := by
  simp only [IntKind.wrap, IntKind.bits, IntKind.signed]; simp
theorem wholeP_le (l : List UInt8) : (wholeP l).length ≤ 32767 := by simp [wholeP]; omega
theorem i16_small {n : Nat} (h : n ≤ 32767) : IntKind.i16.wrap ((n : Int) % 65536) = n := by
  simp only [IntKind.wrap, IntKind.bits, IntKind.signed]; simp; split <;> omega
theorem i32_small {n : Nat} (h : n ≤ 2147483647) : IntKind.i32.wrap ((n : Int) % 4294967296) = n := by
  simp only [IntKind.wrap, IntKind.bits, IntKind.signed]; simp; split <;> omega
theorem rdCl_at {n : Nat} (h : n < 4294967295) (r : List UInt8) : rdCl (at_ (uvE (n + 1) ++ r)) = ((n : Int), at_ r) := by
  unfold rdCl
  rw [rdUv_uvE (by omega)]
  simp only [Prod.mk.injEq, and_true]
  omega
theorem rdStr_at (x : Bool) {s : List UInt8} (h : s.length ≤ 32767) (r : List UInt8) : (if x then rdCString (at_ ((if x then uvE (s.length + 1) ++ s else beI 2 s.length ++ s) ++ r)) else rdString (at_ ((if x then uvE (s.length + 1) ++ s else beI 2 s.length ++ s) ++ r))) = (s, at_ r) := by
  cases x with
  | true =>
    simp only [if_true, List.append_assoc]
    unfold rdCString
    rw [rdCl_at (by omega)]
    simp only [rdSpan_at, Option.getD_some]
  | false =>
    simp only [Bool.false_eq_true, if_false, List.append_assoc]
    unfold rdString
    obtain ⟨h1, h2⟩ := rdN_beI 2 s.length (s ++ r)
    rw [pair_of rfl h2]
    simp only [h1]
    rw [show (256 : Int) ^ 2 = 65536 by decide, i16_small h, rdSpan_at]
    rfl
def valG (p : PK) (null : Bool) (t : TR) : GV :=
  match p with
  | .bool => .num (.bool (decide (t.n % 2 ≠ 0)))
  | .i8 => .num (.int .i8 (IntKind.i8.wrap t.n))
  | .i16 => .num (.int .i16 (IntKind.i16.wrap t.n))
  | .i32 => .num (.int .i32 (IntKind.i32.wrap t.n))
  | .i64 => .num (.int .i64 (IntKind.i64.wrap t.n))
  | .u16 => .num (.int .u16 (t.n % 65536))
  | .uuid => .arr (uuidP t.s)
  | .str => .num (str (wholeP t.s))
  | .nstr => .nstr (if null then none else some (wholeP t.s))
  | _ => .byt (some (wholeP t.s))
structure ReadP (p : PK) (x : Bool) (l : List UInt8) (g : GV) : Prop where
  rd : ∀ r, decStd.prim p x (at_ (l ++ r)) = (g, at_ r)
  pos : 0 < l.length
theorem intR {k : IntKind} {m : Nat} {n : Int} {p : PK} {x : Bool} {M : Int} (hM : (256 : Int) ^ m = M) (hwc : ∀ j : Int, k.wrap (j % M) = k.wrap j) (hp : ∀ s, decStd.prim p x s = (.num (.int k (k.wrap (rdN m s).1)), (rdN m s).2)) (hm : 0 < m) : ReadP p x (beI m n) (.num (.int k (k.wrap n))) := by
  refine ⟨fun r => ?_, by rw [beI_length]; exact hm⟩
  rw [hp]
  obtain ⟨h1, h2⟩ := rdN_beI m n r
  rw [h1, h2, hM, hwc]
theorem readP {p : PK} {kind : Int} {nul null x : Bool} {part : TR → List UInt8} {t : TR} (hk : kindOk kind nul p = true) (hn : null = true → nul = true) : ReadP p x (valP x kind part null t) (valG p null t) := by
  cases p with
  | bool =>
    simp only [kindOk, decide_eq_true_eq] at hk
    subst hk
    refine ⟨fun r => ?_, by simp [valP]⟩
    have h2 : t.n % 2 = 0 ∨ t.n % 2 = 1 := by omega
    rcases h2 with h2 | h2 <;> simp [valP, valG, decStd, rdN, h2, beNat]
  | i8 =>
    simp only [kindOk, decide_eq_true_eq] at hk
    subst hk
    exact intR (k := .i8) (m := 1) (n := t.n) (M := 256) (by decide) wc8 (fun _ => rfl) (by omega)
  | i16 =>
    simp only [kindOk, decide_eq_true_eq] at hk
    subst hk
    exact intR (k := .i16) (m := 2) (n := t.n) (M := 65536) (by decide) wc16 (fun _ => rfl) (by omega)
  | i32 =>
    simp only [kindOk, decide_eq_true_eq] at hk
    subst hk
    exact intR (k := .i32) (m := 4) (n := t.n) (M := 4294967296) (by decide) wc32 (fun _ => rfl) (by omega)
  | i64 =>
    simp only [kindOk, decide_eq_true_eq] at hk
    subst hk
    exact intR (k := .i64) (m := 8) (n := t.n) (M := 18446744073709551616) (by decide) wc64 (fun _ => rfl) (by omega)
  | u16 =>
    simp only [kindOk, decide_eq_true_eq] at hk
    subst hk
    refine ⟨fun r => ?_, ?_⟩
    · obtain ⟨h1, h2⟩ := rdN_beI 2 t.n r
      show (GV.num (.int .u16 (rdN 2 (at_ (beI 2 t.n ++ r))).1), (rdN 2 (at_ (beI 2 t.n ++ r))).2) = _
      rw [h1, h2]; rfl
    · show 0 < (beI 2 t.n).length
      rw [beI_length]; omega
  | uuid =>
    simp only [kindOk, decide_eq_true_eq] at hk
    subst hk
    have hl : (uuidP t.s).length = 16 := by simp [uuidP]; omega
    refine ⟨fun r => ?_, ?_⟩
    · have h := rdSpan_at (uuidP t.s) r
      rw [hl] at h
      show (GV.arr (rdUuid (at_ (uuidP t.s ++ r))).1, (rdUuid (at_ (uuidP t.s ++ r))).2) = _
      unfold rdUuid
      rw [show ((16 : Nat) : Int) = 16 from rfl] at h
      rw [h]; rfl
    · show 0 < (uuidP t.s).length
      omega
  | str =>
    simp only [kindOk, Bool.and_eq_true, decide_eq_true_eq, Bool.not_eq_true'] at hk
    obtain ⟨rfl, hnul⟩ := hk
    have hnull : null = false := by cases null <;> simp_all
    subst hnull
    have hw := wholeP_le t.s
    have e : valP x 8 part false t = if x then uvE ((wholeP t.s).length + 1) ++ wholeP t.s else beI 2 (wholeP t.s).length ++ wholeP t.s := by
      simp [valP, countedP]; cases x <;> simp
    rw [e]
    refine ⟨fun r => ?_, ?_⟩
    · have h := rdStr_at x hw r
      cases x with
      | true => simp only [if_true] at h ⊢; show (GV.num (str (rdCString _).1), (rdCString _).2) = _; rw [h]; rfl
      | false => simp only [Bool.false_eq_true, if_false] at h ⊢; show (GV.num (str (rdString _).1), (rdString _).2) = _; rw [h]; rfl
    · have := uvE_pos ((wholeP t.s).length + 1)
      cases x <;> simp [beI_length] <;> omega
  | nstr =>
    simp only [kindOk, decide_eq_true_eq] at hk
    subst hk
    cases null with
    | true =>
      have e : valP x 8 part true t = if x then [0] else beI 2 (-1) := by
        cases x <;> simp [valP, countedP]
      rw [e]
      refine ⟨fun r => ?_, by cases x <;> simp [beI_length]⟩
      cases x with
      | true =>
        simp only [if_true]
        show (GV.nstr (rdCNullableString _).1, (rdCNullableString _).2) = _
        have h : rdCl (at_ ([0] ++ r)) = (-1, at_ r) := by
          have := rdUv_uvE (n := 0) (by omega) r
          rw [uvE_small (by omega)] at this
          unfold rdCl
          rw [show ([0] : List UInt8) = [UInt8.ofNat 0] from rfl, this]; rfl
        unfold rdCNullableString
        rw [h]; rfl
      | false =>
        simp only [Bool.false_eq_true, if_false]
        show (GV.nstr (rdNullableString _).1, (rdNullableString _).2) = _
        obtain ⟨h1, h2⟩ := rdN_beI 2 (-1) r
        unfold rdNullableString
        simp only [h1, h2]
        rfl
    | false =>
      have hw := wholeP_le t.s
      have e : valP x 8 part false t = if x then uvE ((wholeP t.s).length + 1) ++ wholeP t.s else beI 2 (wholeP t.s).length ++ wholeP t.s := by
        simp [valP, countedP]; cases x <;> simp
      rw [e]
      refine ⟨fun r => ?_, ?_⟩
      · cases x with
        | true =>
          simp only [if_true, List.append_assoc]
          show (GV.nstr (rdCNullableString _).1, (rdCNullableString _).2) = _
          unfold rdCNullableString
          rw [rdCl_at (by omega)]
          simp only [rdSpan_at, Option.getD_some]
          rw [if_neg (by omega)]
          rfl
        | false =>
          simp only [Bool.false_eq_true, if_false, List.append_assoc]
          show (GV.nstr (rdNullableString _).1, (rdNullableString _).2) = _
          obtain ⟨h1, h2⟩ := rdN_beI 2 (wholeP t.s).length (wholeP t.s ++ r)
          unfold rdNullableString
          simp only [h1, h2]
          rw [show (256 : Int) ^ 2 = 65536 by decide, i16_small hw, if_neg (by omega), rdSpan_at]
          rfl
      · have := uvE_pos ((wholeP t.s).length + 1)
        cases x <;> simp [beI_length] <;> omega
  | byt =>
    simp only [kindOk, Bool.and_eq_true, decide_eq_true_eq, Bool.not_eq_true'] at hk
    obtain ⟨rfl, hnul⟩ := hk
    have hnull : null = false := by cases null <;> simp_all
    subst hnull
    have hw := wholeP_le t.s
    have e : valP x 9 part false t = if x then uvE ((wholeP t.s).length + 1) ++ wholeP t.s else beI 4 (wholeP t.s).length ++ wholeP t.s := by
      simp [valP, countedP]; cases x <;> simp
    rw [e]
    refine ⟨fun r => ?_, ?_⟩
    · cases x with
      | true =>
        simp only [if_true, List.append_assoc]
        show (GV.byt (rdCBytes _).1, (rdCBytes _).2) = _
        unfold rdCBytes
        rw [rdCl_at (by omega)]
        simp only [rdSpan_at]
        rw [if_neg (by omega)]
        rfl
      | false =>
        simp only [Bool.false_eq_true, if_false, List.append_assoc]
        show (GV.byt (rdBytes _).1, (rdBytes _).2) = _
        obtain ⟨h1, h2⟩ := rdN_beI 4 (wholeP t.s).length (wholeP t.s ++ r)
        unfold rdBytes
        simp only [h1, h2]
        rw [show (256 : Int) ^ 4 = 4294967296 by decide, i32_small (by omega), if_neg (by omega), rdSpan_at]
        rfl
    · have := uvE_pos ((wholeP t.s).length + 1)
      cases x <;> simp [beI_length] <;> omega
  | u32 => simp [kindOk] at hk
  | nbyt => simp [kindOk] at hk
end Go.Msk

namespace Go.Msk
open Go.RowKit
set_option maxRecDepth 100000
def unk (u : List (Nat × List UInt8)) : List (Nat × List UInt8) := (u.take 32767).foldl (unkStep 0) []
def tailP (x : Bool) (u : List (Nat × List UInt8)) : List UInt8 := if x then uvE (unk u).length ++ tagsP (unk u) else []
theorem knownP_plain : ∀ (fs : List FD), FD.plainL fs = true → knownP fs = 0 := by
  intro fs h
  unfold knownP
  induction fs with
  | nil => rfl
  | cons f fs ih =>
    simp only [FD.plainL, Bool.and_eq_true] at h
    have ht : f.tag < 0 := by
      have := h.1
      obtain ⟨k, a, b, c, tag, d, e, sub⟩ := f
      simp only [FD.plain, Bool.and_eq_true, decide_eq_true_eq] at this
      exact this.1
    simp only [List.foldl_cons]
    rw [if_neg (by omega)]
    exact ih h.2
theorem unknownP_plain {fs : List FD} (h : FD.plainL fs = true) (u : List (Nat × List UInt8)) : unknownP fs u = unk u := by
  unfold unknownP unk; rw [knownP_plain fs h]
def Ris (l : List (Nat × List UInt8)) : Prop := l.Pairwise (fun a b => a.1 < b.1) ∧ ∀ p ∈ l, p.1 < 4294967296
theorem insU_mem {k : Nat} {b : List UInt8} : ∀ {l : List (Nat × List UInt8)} {p}, p ∈ insU k b l → p = (k, b) ∨ p ∈ l
  | [], p, h => by simp [insU] at h; exact .inl h
  | (k', b') :: r, p, h => by
    simp only [insU] at h
    split at h
    · rcases List.mem_cons.1 h with h | h
      · exact .inr (by simp [h])
      · rcases insU_mem h with h | h
        · exact .inl h
        · exact .inr (by simp [h])
    · split at h
      · exact .inr h
      · rcases List.mem_cons.1 h with h | h
        · exact .inl h
        · exact .inr h
theorem insU_ris {k : Nat} {b : List UInt8} (hk : k < 4294967296) : ∀ {l : List (Nat × List UInt8)}, Ris l → Ris (insU k b l)
  | [], _ => ⟨by simp [insU], by simp [insU]; exact hk⟩
  | (k', b') :: r, h => by
    have hr : Ris r := ⟨(List.pairwise_cons.1 h.1).2, fun p hp => h.2 p (by simp [hp])⟩
    simp only [insU]
    split
    · rename_i hlt
      have ih := insU_ris (b := b) hk hr
      refine ⟨List.pairwise_cons.2 ⟨fun p hp => ?_, ih.1⟩, fun p hp => ?_⟩
      · rcases insU_mem hp with rfl | hp
        · exact hlt
        · exact (List.pairwise_cons.1 h.1).1 p hp
      · rcases List.mem_cons.1 hp with rfl | hp
        · exact h.2 (k', b') (by simp)
        · exact ih.2 p hp
    · split
      · exact h
      · rename_i h1 h2
        refine ⟨List.pairwise_cons.2 ⟨fun p hp => ?_, h.1⟩, fun p hp => ?_⟩
        · rcases List.mem_cons.1 hp with rfl | hp
          · show k < k'; omega
          · have := (List.pairwise_cons.1 h.1).1 p hp
            show k < p.1
            have e : k' < p.1 := this
            omega
        · rcases List.mem_cons.1 hp with rfl | hp
          · exact hk
          · exact h.2 p hp
theorem insU_len {k : Nat} {b : List UInt8} : ∀ l : List (Nat × List UInt8), (insU k b l).length ≤ l.length + 1
  | [] => by simp [insU]
  | (k', b') :: r => by
    have := insU_len (k := k) (b := b) r
    simp only [insU]
    split
    · simp only [List.length_cons]; omega
    · split <;> simp
theorem unk_ok {u : List (Nat × List UInt8)} (h : ∀ p ∈ u, p.1 < 4294967296) : Ris (unk u) ∧ (unk u).length ≤ 32767 := by
  have gen : ∀ (v acc : List (Nat × List UInt8)), (∀ p ∈ v, p.1 < 4294967296) → Ris acc → Ris (v.foldl (unkStep 0) acc) ∧ (v.foldl (unkStep 0) acc).length ≤ acc.length + v.length := by
    intro v
    induction v with
    | nil => intro acc _ ha; exact ⟨ha, by simp⟩
    | cons p v ih =>
      intro acc hv ha
      have e : unkStep 0 acc p = insU p.1 p.2 acc := by unfold unkStep; rw [if_neg (by omega)]
      simp only [List.foldl_cons, e]
      obtain ⟨h1, h2⟩ := ih (insU p.1 p.2 acc) (fun q hq => hv q (by simp [hq])) (insU_ris (hv p (by simp)) ha)
      refine ⟨h1, Nat.le_trans h2 ?_⟩
      have := insU_len (k := p.1) (b := p.2) acc
      simp only [List.length_cons]; omega
  obtain ⟨h1, h2⟩ := gen (u.take 32767) [] (fun p hp => h p (List.mem_of_mem_take hp)) ⟨by simp, by simp⟩
  refine ⟨h1, Nat.le_trans h2 ?_⟩
  simp; omega
def wholeU (u : List (Nat × List UInt8)) : List (Nat × List UInt8) := u.map fun p => (p.1, wholeP p.2)
theorem putTag_new {k : Nat} {b : List UInt8} : ∀ {m : List (Nat × List UInt8)}, (∀ p ∈ m, p.1 < k) → putTag m k b = m ++ [(k, b)]
  | [], _ => rfl
  | (k', b') :: m, h => by
    have h1 : k' < k := h (k', b') (by simp)
    simp only [putTag, List.cons_append]
    rw [if_neg (by omega), putTag_new fun p hp => h p (by simp [hp])]
theorem rdTagsN_at : ∀ (u m : List (Nat × List UInt8)) (r : List UInt8), Ris u → (∀ p ∈ m, ∀ q ∈ u, p.1 < q.1) → rdTagsN u.length m (at_ (tagsP u ++ r)) = (m ++ wholeU u, at_ r)
  | [], m, r, _, _ => by simp [rdTagsN, tagsP, wholeU]
  | (k, b) :: u, m, r, h, hm => by
    have hk : k < 4294967296 := h.2 (k, b) (by simp)
    have hr : Ris u := ⟨(List.pairwise_cons.1 h.1).2, fun p hp => h.2 p (by simp [hp])⟩
    have hw := wholeP_le b
    have e : tagsP ((k, b) :: u) ++ r = uvE k ++ (uvE (wholeP b).length ++ (wholeP b ++ (tagsP u ++ r))) := by simp [tagsP]
    rw [e]
    simp only [List.length_cons, rdTagsN]
    rw [rdUv_uvE hk]
    simp only
    rw [rdUv_uvE (by omega)]
    simp only [rdSpan_at, Option.getD_some]
    rw [putTag_new fun p hp => hm p hp (k, b) (by simp)]
    rw [rdTagsN_at u _ r hr ?_]
    · simp [wholeU]
    · intro p hp q hq
      rcases List.mem_append.1 hp with hp | hp
      · exact hm p hp q (by simp [hq])
      · simp only [List.mem_singleton] at hp; subst hp
        exact (List.pairwise_cons.1 h.1).1 q hq
theorem tags_rd {u : List (Nat × List UInt8)} (h : ∀ p ∈ u, p.1 < 4294967296) (r : List UInt8) : rdTags (at_ (tailP true u ++ r)) = (wholeU (unk u), at_ r) := by
  obtain ⟨h1, h2⟩ := unk_ok h
  simp only [tailP, if_true, List.append_assoc]
  unfold rdTags
  rw [rdUv_uvE (by omega)]
  simp only
  rw [rdTagsN_at _ [] r h1 (by simp)]
  simp
theorem list_rd {el : RS → Option (GV × RS)} {f : TR → List UInt8} {val : TR → GV} : ∀ ys : List TR, (∀ y ∈ ys, ∀ r, el (at_ (f y ++ r)) = some (val y, at_ r)) → ∀ r, decList el ys.length (at_ (ys.flatMap f ++ r)) = some (ys.map val, at_ r)
  | [], _, r => rfl
  | y :: ys, h, r => by
    have h1 := h y (by simp)
    have k1 := list_rd ys fun z hz => h z (by simp [hz])
    simp only [List.flatMap_cons, List.length_cons, decList, List.append_assoc, h1, k1, List.map_cons]
theorem flat_len {f : TR → List UInt8} : ∀ {ys : List TR}, (∀ y ∈ ys, 0 < (f y).length) → ys.length ≤ (ys.flatMap f).length
  | [], _ => by simp
  | y :: ys, h => by
    have h1 := h y (by simp)
    have h2 := flat_len (ys := ys) fun z hz => h z (by simp [hz])
    simp only [List.flatMap_cons, List.length_cons, List.length_append]
    omega
def lstG (sz : Nat) (val : TR → GV) (ys : List TR) : GV := .lst (decide ((ys.length : Int) ≤ 0)) (if (ys.length : Int) ≤ 0 then 0 else sz) (ys.map val)
theorem len_rd {x : Bool} {n : Nat} (hl : n ≤ 32767) {l : List UInt8} (hn : n ≤ l.length) : decStd.len x (at_ (countedP x false n 4 ++ l)) = ((n : Int), at_ l) := by
  cases x with
  | true =>
    simp only [decStd, if_true, countedP, Bool.false_eq_true, if_false]
    unfold rdCArrayLen
    rw [rdUv_uvE (by omega)]
    have e : IntKind.i32.wrap (IntKind.i32.wrap ((n + 1 : Nat) : Int) - 1) = (n : Int) := by
      simp only [IntKind.wrap, IntKind.bits, IntKind.signed]; simp; omega
    simp only [e]
    rw [if_neg (by omega)]
  | false =>
    simp only [decStd, Bool.false_eq_true, if_false, countedP]
    unfold rdArrayLen
    obtain ⟨h1, h2⟩ := rdN_beI 4 n l
    simp only [h1, h2]
    rw [show (256 : Int) ^ 4 = 4294967296 by decide, i32_small (by omega)]
    rw [if_neg (by omega)]
theorem lst_rd {x : Bool} {sz : Nat} {el : RS → Option (GV × RS)} {f : TR → List UInt8} {val : TR → GV} {ys : List TR} (hl : ys.length ≤ 32767) (hpos : ∀ y ∈ ys, 0 < (f y).length)
    (h : ∀ y ∈ ys, ∀ r, el (at_ (f y ++ r)) = some (val y, at_ r)) (r : List UInt8) : decLst decStd x sz el (at_ (countedP x false ys.length 4 ++ ys.flatMap f ++ r)) = some (lstG sz val ys, at_ r) := by
  have hn := flat_len hpos
  unfold decLst lstG
  rw [List.append_assoc, len_rd hl (by simp only [List.length_append]; omega)]
  simp only [Bool.false_eq_true, if_false, Int.toNat_natCast, list_rd ys h r]
end Go.Msk

namespace Go.Msk
open Go.RowKit
set_option maxRecDepth 100000
def FD.nulB (f : FD) (ver : Int) : Bool := decide (f.null ≥ 0) && decide (ver ≥ f.null)
def neB (ver : Int) (x : Bool) (fds : List FD) : Bool := x || fds.any fun f => decide (f.tag < 0) && (f.hasV ver && !decide (f.kind = 10))
theorem FD.enc_eq' (ver : Int) (x : Bool) (f : FD) (t : TR) : f.enc ver x t = fieldP x f.kind f.of f.null (f.nullV ver t) (fun y => joinP x (bodyP ver x f.sub 0 y) (unknownP f.sub y.u)) t := by
  obtain ⟨k, a, b, c, tag, d, e, sub⟩ := f; rfl
theorem rt_cons {decF : RS → Option (GV × RS)} {restD : RS → Option (List GV × RS)} {l1 l2 : List UInt8} {g : GV} {gs : List GV} (h1 : ∀ r, decF (at_ (l1 ++ r)) = some (g, at_ r)) (h2 : ∀ r, restD (at_ (l2 ++ r)) = some (gs, at_ r)) :
    ∀ r, consD (decF (at_ ((l1 ++ l2) ++ r))) restD = some (g :: gs, at_ r) := by
  intro r
  rw [List.append_assoc, h1]
  simp only [consD, h2]
def fE (ver : Int) (x : Bool) (f : FD) (t : TR) (i : Nat) : List UInt8 := if f.hasV ver = true then f.enc ver x (t.at i) else []
theorem body_cons {ver : Int} {x : Bool} {f : FD} {fs : List FD} {i : Nat} {t : TR} {z : List UInt8} (ht : f.tag < 0) : bodyP ver x (f :: fs) i t ++ z = fE ver x f t i ++ (bodyP ver x fs (i + 1) t ++ z) := by
  simp only [bodyP, fE, ht, true_and, List.append_assoc]
theorem kok_body {ver : Int} {x : Bool} {sub : List FD} {y : TR} (hp : FD.plainL sub = true) : joinP x (bodyP ver x sub 0 y) (unknownP sub y.u) = bodyP ver x sub 0 y ++ tailP x y.u := by
  rw [unknownP_plain hp]; rfl
theorem TR.kok_mem {t y : TR} (h : t.kok) (hy : y ∈ t.l) : y.kok := by
  cases t with
  | mk n s b l u => exact TR.kokL_mem h.2 y hy
theorem widthP_pos (k : Int) : 0 < widthP k := by
  unfold widthP; repeat' split
  all_goals omega
theorem countedP_pos (x nl : Bool) (n k : Nat) (hk : 0 < k) : 0 < (countedP x nl n k).length := by
  have := uvE_pos (n + 1)
  unfold countedP
  cases x <;> cases nl <;> simp [beI_length] <;> omega
theorem valP_pos (x : Bool) (k : Int) (part : TR → List UInt8) (nl : Bool) (t : TR) (h : k ≠ 10) : 0 < (valP x k part nl t).length := by
  unfold valP
  by_cases h0 : k = 0
  · rw [if_pos h0]; simp
  rw [if_neg h0]
  by_cases h7 : k = 7
  · rw [if_pos h7]; simp [uuidP]; omega
  rw [if_neg h7]
  by_cases h8 : k = 8
  · rw [if_pos h8, List.length_append]; have := countedP_pos x nl (if nl = true then [] else wholeP t.s).length 2 (by omega); omega
  rw [if_neg h8]
  by_cases h9 : k = 9
  · rw [if_pos h9, List.length_append]; have := countedP_pos x nl (if nl = true then [] else wholeP t.s).length 4 (by omega); omega
  rw [if_neg h9, if_neg h, beI_length]
  exact widthP_pos k
theorem enc_pos {ver : Int} {x : Bool} {f : FD} {t : TR} (h : f.kind ≠ 10) : 0 < (f.enc ver x t).length := by
  rw [FD.enc_eq']
  unfold fieldP
  by_cases h11 : f.kind = 11
  · rw [if_pos h11, List.length_append]
    have := countedP_pos x (f.nullV ver t) (if f.nullV ver t = true then [] else t.l.take 32767).length 4 (by omega)
    omega
  · rw [if_neg h11, if_neg (by simp [h])]
    exact valP_pos x _ _ _ _ h
theorem body_pos {ver : Int} {x : Bool} : ∀ {fds : List FD} {i : Nat} {t : TR}, neB ver x fds = true → 0 < (bodyP ver x fds i t ++ tailP x t.u).length := by
  intro fds i t h
  cases x with
  | true => simp only [tailP, if_true, List.length_append]; have := uvE_pos (unk t.u).length; omega
  | false =>
    simp only [neB, Bool.false_or] at h
    induction fds generalizing i with
    | nil => simp at h
    | cons f fs ih =>
      simp only [List.any_cons, Bool.or_eq_true] at h
      simp only [bodyP, List.length_append]
      rcases h with h | h
      · simp only [Bool.and_eq_true, decide_eq_true_eq, Bool.not_eq_true', decide_eq_false_iff_not] at h
        rw [if_pos ⟨h.1, h.2.1⟩]
        have := enc_pos (ver := ver) (x := false) (t := t.at i) h.2.2
        omega
      · have := ih (i := i + 1) h
        simp only [List.length_append] at this
        omega
theorem arr_enc {ver : Int} {x : Bool} {f : FD} {t : TR} (h : f.kind = 11) (hn : f.nulB ver = false) :
    f.enc ver x t = countedP x false (t.l.take 32767).length 4 ++ (t.l.take 32767).flatMap (valP x f.of (fun y => joinP x (bodyP ver x f.sub 0 y) (unknownP f.sub y.u)) false) := by
  have hnv : f.nullV ver t = false := by
    simp only [FD.nulB] at hn
    simp only [FD.nullV, hn, Bool.and_false]
  rw [FD.enc_eq']
  unfold fieldP
  rw [if_pos h, hnv]
  simp only [Bool.false_eq_true, if_false]
theorem take_le (l : List TR) : (l.take 32767).length ≤ 32767 := by simp; omega
def Sc.rvB (ver : Int) (x : Bool) : Sc → List FD → Bool
  | .nil, fds => fds.isEmpty && !x
  | .tags _, fds => fds.isEmpty
  | .prm vc _ _ p _ rest, fds => match fds with
    | f :: fs => decide (f.tag < 0) && (vc.holds ver == f.hasV ver) && (!f.hasV ver || kindOk f.kind (f.nulB ver) p) && rest.rvB ver x fs
    | [] => false
  | .enm vc _ _ p _ rest, fds => match fds with
    | f :: fs => decide (f.tag < 0) && (vc.holds ver == f.hasV ver) && (!f.hasV ver || kindOk f.kind (f.nulB ver) p) && rest.rvB ver x fs
    | [] => false
  | .uid vc _ rest, fds => match fds with
    | f :: fs => decide (f.tag < 0) && (vc.holds ver == f.hasV ver) && (!f.hasV ver || decide (f.kind = 7)) && rest.rvB ver x fs
    | [] => false
  | .lsp vc _ _ _ _ _ p rest, fds => match fds with
    | f :: fs => decide (f.tag < 0) && (vc.holds ver == f.hasV ver) && (!f.hasV ver || (decide (f.kind = 11) && kindOk f.of false p && !f.nulB ver)) && rest.rvB ver x fs
    | [] => false
  | .lss vc _ _ _ _ body rest, fds => match fds with
    | f :: fs => decide (f.tag < 0) && (vc.holds ver == f.hasV ver) && (!f.hasV ver || (decide (f.kind = 11) && decide (f.of = 10) && !f.nulB ver && neB ver x f.sub && FD.plainL f.sub && body.rvB ver x f.sub)) && rest.rvB ver x fs
    | [] => false
  | .sub vc _ body rest, fds => match fds with
    | f :: fs => decide (f.tag < 0) && (vc.holds ver == f.hasV ver) && (!f.hasV ver || (decide (f.kind = 10) && decide (f.null < 0) && FD.plainL f.sub && body.rvB ver x f.sub)) && rest.rvB ver x fs
    | [] => false
def Sc.vals (ver : Int) (x : Bool) : Sc → List FD → Nat → TR → List GV
  | .nil, _, _, _ => []
  | .tags _, _, _, t => [.tag (if x then wholeU (unk t.u) else [])]
  | .prm _ _ _ p d rest, fds, i, t => match fds with
    | f :: fs => (if f.hasV ver = true then valG p (f.nullV ver (t.at i)) (t.at i) else d.gv) :: rest.vals ver x fs (i + 1) t
    | [] => []
  | .enm _ _ _ p d rest, fds, i, t => match fds with
    | f :: fs => (if f.hasV ver = true then valG p (f.nullV ver (t.at i)) (t.at i) else d.gv) :: rest.vals ver x fs (i + 1) t
    | [] => []
  | .uid _ _ rest, fds, i, t => match fds with
    | f :: fs => (if f.hasV ver = true then .arr (uuidP (t.at i).s) else .arr (List.replicate 16 0)) :: rest.vals ver x fs (i + 1) t
    | [] => []
  | .lsp _ _ _ d _ _ p rest, fds, i, t => match fds with
    | f :: fs => (if f.hasV ver = true then lstG d.size (valG p false) ((t.at i).l.take 32767) else .lst true 0 []) :: rest.vals ver x fs (i + 1) t
    | [] => []
  | .lss _ _ _ _ _ body rest, fds, i, t => match fds with
    | f :: fs => (if f.hasV ver = true then lstG body.size (fun y => .rcd (body.vals ver x f.sub 0 y)) ((t.at i).l.take 32767) else .lst true 0 []) :: rest.vals ver x fs (i + 1) t
    | [] => []
  | .sub _ _ body rest, fds, i, t => match fds with
    | f :: fs => (if f.hasV ver = true then .rcd (body.vals ver x f.sub 0 (t.at i)) else .rcd body.dgv) :: rest.vals ver x fs (i + 1) t
    | [] => []
theorem prm_rd {ver : Int} {x : Bool} {f : FD} {t : TR} {i : Nat} {p : PK} {d : Df} (hh : (!f.hasV ver || kindOk f.kind (f.nulB ver) p) = true) (r : List UInt8) :
    (if f.hasV ver = true then some (decStd.prim p x (at_ (fE ver x f t i ++ r))) else some (d.gv, at_ (fE ver x f t i ++ r))) = some (if f.hasV ver = true then valG p (f.nullV ver (t.at i)) (t.at i) else d.gv, at_ r) := by
  by_cases hv : f.hasV ver = true
  · rw [hv] at hh
    have hk : kindOk f.kind (f.nulB ver) p = true := by simpa using hh
    have hf : f.enc ver x (t.at i) = valP x f.kind (fun y => joinP x (bodyP ver x f.sub 0 y) (unknownP f.sub y.u)) (f.nullV ver (t.at i)) (t.at i) := by
      rw [FD.enc_eq']
      have h11 : f.kind ≠ 11 := by cases p <;> simp [kindOk] at hk <;> omega
      have h10 : f.kind ≠ 10 := by cases p <;> simp [kindOk] at hk <;> omega
      unfold fieldP
      rw [if_neg h11, if_neg (by simp [h10])]
    have hb := readP (x := x) (part := fun y => joinP x (bodyP ver x f.sub 0 y) (unknownP f.sub y.u)) (null := f.nullV ver (t.at i)) (t := t.at i) hk (by
      intro hn
      simp only [FD.nullV, FD.nulB, Bool.and_eq_true] at hn ⊢
      exact hn.2)
    rw [if_pos hv, if_pos hv]
    unfold fE
    rw [if_pos hv, hf, hb.rd]
  · rw [if_neg hv, if_neg hv]; simp [fE, hv]
theorem Sc.rv {ver : Int} {x : Bool} : ∀ (sc : Sc) (fds : List FD) (i : Nat) (t : TR), sc.rvB ver x fds = true → t.kok → ∀ r, sc.dec decStd ver x (at_ (bodyP ver x fds i t ++ tailP x t.u ++ r)) = some (sc.vals ver x fds i t, at_ r) := by
  intro sc
  induction sc with
  | nil =>
    intro fds i t h hk r
    cases fds <;> simp [Sc.rvB] at h
    subst h
    rfl
  | tags f =>
    intro fds i t h hk r
    cases fds <;> simp [Sc.rvB] at h
    have hku : ∀ p ∈ t.u, p.1 < 4294967296 := by cases t; exact hk.1
    cases x with
    | true =>
      simp only [Sc.dec, Sc.vals, if_true, bodyP, List.nil_append]
      show some ([GV.tag (rdTags _).1], (rdTags _).2) = _
      rw [tags_rd hku]
    | false => rfl
  | prm vc init rr p d rest ih =>
    intro fds i t h hk r
    cases fds with
    | nil => simp [Sc.rvB] at h
    | cons f fs =>
      simp only [Sc.rvB, Bool.and_eq_true, decide_eq_true_eq, beq_iff_eq] at h
      obtain ⟨⟨⟨htag, hv⟩, hfld⟩, hrest⟩ := h
      rw [body_cons htag]
      simp only [Sc.dec, Sc.vals, hv]
      exact rt_cons (decF := fun s => if f.hasV ver = true then some (decStd.prim p x s) else some (d.gv, s)) (fun r => prm_rd hfld r) (ih fs (i + 1) t hrest hk) r
  | enm vc init rr p d rest ih =>
    intro fds i t h hk r
    cases fds with
    | nil => simp [Sc.rvB] at h
    | cons f fs =>
      simp only [Sc.rvB, Bool.and_eq_true, decide_eq_true_eq, beq_iff_eq] at h
      obtain ⟨⟨⟨htag, hv⟩, hfld⟩, hrest⟩ := h
      rw [body_cons htag]
      simp only [Sc.dec, Sc.vals, hv]
      exact rt_cons (decF := fun s => if f.hasV ver = true then some (decStd.prim p x s) else some (d.gv, s)) (fun r => prm_rd hfld r) (ih fs (i + 1) t hrest hk) r
  | uid vc ff rest ih =>
    intro fds i t h hk r
    cases fds with
    | nil => simp [Sc.rvB] at h
    | cons f fs =>
      simp only [Sc.rvB, Bool.and_eq_true, decide_eq_true_eq, beq_iff_eq] at h
      obtain ⟨⟨⟨htag, hv⟩, hfld⟩, hrest⟩ := h
      rw [body_cons htag]
      simp only [Sc.dec, Sc.vals, hv]
      refine rt_cons (decF := fun s => if f.hasV ver = true then some (decStd.prim .uuid x s) else some (.arr (List.replicate 16 0), s)) (fun r => ?_) (ih fs (i + 1) t hrest hk) r
      by_cases hh : f.hasV ver = true
      · rw [hh] at hfld
        have hk7 : f.kind = 7 := by simpa using hfld
        have hf : f.enc ver x (t.at i) = valP x 7 (fun y => joinP x (bodyP ver x f.sub 0 y) (unknownP f.sub y.u)) (f.nullV ver (t.at i)) (t.at i) := by
          rw [FD.enc_eq']
          unfold fieldP
          rw [if_neg (by omega), if_neg (by omega), hk7]
        have hb := readP (x := x) (p := .uuid) (kind := 7) (nul := true) (null := f.nullV ver (t.at i)) (part := fun y => joinP x (bodyP ver x f.sub 0 y) (unknownP f.sub y.u)) (t := t.at i) rfl (fun _ => rfl)
        rw [if_pos hh, if_pos hh]
        unfold fE
        rw [if_pos hh, hf, hb.rd]
        rfl
      · rw [if_neg hh, if_neg hh]; simp [fE, hh]
  | lsp vc ln bytes d init rr p rest ih =>
    intro fds i t h hk r
    cases fds with
    | nil => simp [Sc.rvB] at h
    | cons f fs =>
      simp only [Sc.rvB, Bool.and_eq_true, decide_eq_true_eq, beq_iff_eq] at h
      obtain ⟨⟨⟨htag, hv⟩, hfld⟩, hrest⟩ := h
      rw [body_cons htag]
      simp only [Sc.dec, Sc.vals, hv]
      refine rt_cons (decF := fun s => if f.hasV ver = true then decLst decStd x d.size (fun s => some (decStd.prim p x s)) s else some (.lst true 0 [], s)) (fun r => ?_) (ih fs (i + 1) t hrest hk) r
      by_cases hh : f.hasV ver = true
      · rw [hh] at hfld
        simp only [Bool.not_true, Bool.false_or, Bool.and_eq_true, decide_eq_true_eq, Bool.not_eq_true'] at hfld
        obtain ⟨⟨hkind, hof⟩, hn⟩ := hfld
        rw [if_pos hh, if_pos hh]
        unfold fE
        rw [if_pos hh, arr_enc hkind hn]
        have hb := fun y : TR => readP (x := x) (part := fun y => joinP x (bodyP ver x f.sub 0 y) (unknownP f.sub y.u)) (null := false) (t := y) hof (by simp)
        exact lst_rd (f := valP x f.of (fun y => joinP x (bodyP ver x f.sub 0 y) (unknownP f.sub y.u)) false) (val := valG p false) (take_le _) (fun y _ => (hb y).pos) (fun y _ r => by rw [(hb y).rd]) r
      · rw [if_neg hh, if_neg hh]; simp [fE, hh]
  | lss vc ln bytes z dfl body rest ihb ih =>
    intro fds i t h hk r
    cases fds with
    | nil => simp [Sc.rvB] at h
    | cons f fs =>
      simp only [Sc.rvB, Bool.and_eq_true, decide_eq_true_eq, beq_iff_eq] at h
      obtain ⟨⟨⟨htag, hv⟩, hfld⟩, hrest⟩ := h
      rw [body_cons htag]
      simp only [Sc.dec, Sc.vals, hv]
      refine rt_cons (decF := fun s => if f.hasV ver = true then decLst decStd x body.size (fun s => rcdD (body.dec decStd ver x s)) s else some (.lst true 0 [], s)) (fun r => ?_) (ih fs (i + 1) t hrest hk) r
      by_cases hh : f.hasV ver = true
      · rw [hh] at hfld
        simp only [Bool.not_true, Bool.false_or, Bool.and_eq_true, decide_eq_true_eq, Bool.not_eq_true'] at hfld
        obtain ⟨⟨⟨⟨⟨hkind, hof⟩, hn⟩, hne⟩, hpl⟩, hbody⟩ := hfld
        rw [if_pos hh, if_pos hh]
        unfold fE
        rw [if_pos hh, arr_enc hkind hn]
        have hval : ∀ y, valP x f.of (fun y => joinP x (bodyP ver x f.sub 0 y) (unknownP f.sub y.u)) false y = bodyP ver x f.sub 0 y ++ tailP x y.u := fun y => by
          rw [hof]
          show joinP x (bodyP ver x f.sub 0 y) (unknownP f.sub y.u) = _
          exact kok_body hpl
        refine lst_rd (f := valP x f.of (fun y => joinP x (bodyP ver x f.sub 0 y) (unknownP f.sub y.u)) false) (val := fun y => .rcd (body.vals ver x f.sub 0 y)) (take_le _) (fun y _ => by rw [hval]; exact body_pos hne) (fun y hy r => ?_) r
        rw [hval, ihb f.sub 0 y hbody (TR.kok_mem (hk.at i) (List.mem_of_mem_take hy))]
        rfl
      · rw [if_neg hh, if_neg hh]; simp [fE, hh]
  | sub vc dfl body rest ihb ih =>
    intro fds i t h hk r
    cases fds with
    | nil => simp [Sc.rvB] at h
    | cons f fs =>
      simp only [Sc.rvB, Bool.and_eq_true, decide_eq_true_eq, beq_iff_eq] at h
      obtain ⟨⟨⟨htag, hv⟩, hfld⟩, hrest⟩ := h
      rw [body_cons htag]
      simp only [Sc.dec, Sc.vals, hv]
      refine rt_cons (decF := fun s => if f.hasV ver = true then rcdD (body.dec decStd ver x s) else some (.rcd body.dgv, s)) (fun r => ?_) (ih fs (i + 1) t hrest hk) r
      by_cases hh : f.hasV ver = true
      · rw [hh] at hfld
        simp only [Bool.not_true, Bool.false_or, Bool.and_eq_true, decide_eq_true_eq] at hfld
        obtain ⟨⟨⟨hkind, hnl⟩, hpl⟩, hbody⟩ := hfld
        rw [if_pos hh, if_pos hh]
        have hf : f.enc ver x (t.at i) = bodyP ver x f.sub 0 (t.at i) ++ tailP x (t.at i).u := by
          rw [FD.enc_eq']
          unfold fieldP
          rw [if_neg (by omega), if_neg (by omega), hkind]
          show joinP x (bodyP ver x f.sub 0 (t.at i)) (unknownP f.sub (t.at i).u) = _
          exact kok_body hpl
        unfold fE
        rw [if_pos hh, hf, ihb f.sub 0 (t.at i) hbody (hk.at i)]
        rfl
      · rw [if_neg hh, if_neg hh]; simp [fE, hh]
end Go.Msk

namespace Go.Msk
open Go.RowKit
set_option maxRecDepth 100000
def valM (k : Int) (part : Nat) : Nat := if k = 10 then part else if k = 8 ∨ k = 9 then 32772 else 16
def tagM (x : Bool) : Nat := if x then 5 + 32767 * 32777 else 0
mutual
def FD.maxB (x : Bool) : FD → Nat
  | .mk kind _ _ _ _ _ of sub => if kind = 11 then 5 + 32767 * valM of (FD.maxL x sub + tagM x) else 1 + valM kind (FD.maxL x sub + tagM x)
def FD.maxL (x : Bool) : List FD → Nat
  | [] => 0
  | f :: l => f.maxB x + FD.maxL x l
end
theorem lenU_le (n : Nat) : lenU n ≤ 5 := by unfold lenU; repeat' split
                                             all_goals omega
theorem uvE_le {n : Nat} (h : n < 4294967296) : (uvE n).length ≤ 5 := by rw [uvE_length h]; exact lenU_le n
theorem countedP_le {x nl : Bool} {n k : Nat} (hn : n ≤ 32767) (hk : k ≤ 4) : (countedP x nl n k).length ≤ 5 := by
  have := uvE_le (n := n + 1) (by omega)
  unfold countedP
  cases x <;> cases nl <;> simp [beI_length] <;> omega
theorem valP_le {x nl : Bool} {k : Int} {part : TR → List UInt8} {t : TR} {M : Nat} (hp : (part t).length ≤ M) : (valP x k part nl t).length ≤ valM k M := by
  have hw := wholeP_le t.s
  have hw2 : (if nl = true then [] else wholeP t.s).length ≤ 32767 := by cases nl <;> simp <;> omega
  unfold valP valM
  by_cases h0 : k = 0
  · subst h0; simp
  rw [if_neg h0]
  by_cases h7 : k = 7
  · subst h7; simp [uuidP]; omega
  rw [if_neg h7]
  by_cases h8 : k = 8
  · subst h8
    have := countedP_le (x := x) (nl := nl) (k := 2) hw2 (by omega)
    simp only [if_true, List.length_append]
    rw [if_neg (show ¬ ((8 : Int) = 10) by decide), if_pos (Or.inl trivial)]; omega
  rw [if_neg h8]
  by_cases h9 : k = 9
  · subst h9
    have := countedP_le (x := x) (nl := nl) (k := 4) hw2 (by omega)
    simp only [if_true, List.length_append]
    rw [if_neg (show ¬ ((9 : Int) = 10) by decide), if_pos (Or.inr trivial)]; omega
  rw [if_neg h9]
  by_cases h10 : k = 10
  · subst h10; simp only [if_true]; exact hp
  · rw [if_neg h10, if_neg h10, if_neg (by omega), beI_length]
    have := widthP_le k; omega
theorem flat_le {α : Type} {f : α → List UInt8} {M : Nat} : ∀ {l : List α}, (∀ y ∈ l, (f y).length ≤ M) → (l.flatMap f).length ≤ l.length * M
  | [], _ => by simp
  | y :: l, h => by
    have h1 := h y (by simp)
    have h2 := flat_le (l := l) fun z hz => h z (by simp [hz])
    simp only [List.flatMap_cons, List.length_append, List.length_cons, Nat.add_mul, Nat.one_mul]
    omega
theorem tail_le {x : Bool} {u : List (Nat × List UInt8)} (h : ∀ p ∈ u, p.1 < 4294967296) : (tailP x u).length ≤ tagM x := by
  obtain ⟨h1, h2⟩ := unk_ok h
  cases x with
  | false => simp [tailP, tagM]
  | true =>
    have e1 := uvE_le (n := (unk u).length) (by omega)
    have e2 : (tagsP (unk u)).length ≤ (unk u).length * 32777 := flat_le fun p hp => by
      have a := uvE_le (h1.2 p hp)
      have b := wholeP_le p.2
      have c := uvE_le (n := (wholeP p.2).length) (by omega)
      simp only [List.length_append]; omega
    simp only [tailP, tagM, if_true, List.length_append]
    have : (unk u).length * 32777 ≤ 32767 * 32777 := Nat.mul_le_mul_right _ h2
    omega
theorem TR.kok_u {t : TR} (h : t.kok) : ∀ p ∈ t.u, p.1 < 4294967296 := by cases t; exact h.1
mutual
theorem FD.enc_le (ver : Int) (x : Bool) : ∀ (f : FD) (t : TR), f.plain = true → t.kok → (f.enc ver x t).length ≤ f.maxB x
  | .mk kind frm to null tag dfl of sub, t, hp, hk => by
    simp only [FD.plain, Bool.and_eq_true, decide_eq_true_eq] at hp
    have hpl := hp.2.2
    have part : ∀ y : TR, y.kok → (joinP x (bodyP ver x sub 0 y) (unknownP sub y.u)).length ≤ FD.maxL x sub + tagM x := fun y hy => by
      rw [kok_body hpl, List.length_append]
      have a := FD.bodyP_le ver x sub 0 y hpl hy
      have b := tail_le (x := x) (TR.kok_u hy)
      omega
    rw [FD.enc_eq']
    simp only [FD.kind, FD.of, FD.null, FD.sub, FD.maxB]
    unfold fieldP
    by_cases h11 : kind = 11
    · rw [if_pos h11, if_pos h11, List.length_append]
      have hl : (if FD.nullV (.mk kind frm to null tag dfl of sub) ver t = true then [] else t.l.take 32767).length ≤ 32767 := by
        split
        · simp
        · exact take_le _
      have c := countedP_le (x := x) (nl := FD.nullV (.mk kind frm to null tag dfl of sub) ver t) (k := 4) hl (by omega)
      have f1 : ((if FD.nullV (.mk kind frm to null tag dfl of sub) ver t = true then [] else t.l.take 32767).flatMap (valP x of (fun y => joinP x (bodyP ver x sub 0 y) (unknownP sub y.u)) false)).length ≤ (if FD.nullV (.mk kind frm to null tag dfl of sub) ver t = true then [] else t.l.take 32767).length * valM of (FD.maxL x sub + tagM x) :=
        flat_le fun y hy => valP_le (part y (by
          split at hy
          · simp at hy
          · exact TR.kok_mem hk (List.mem_of_mem_take hy)))
      have := Nat.mul_le_mul_right (valM of (FD.maxL x sub + tagM x)) hl
      omega
    · rw [if_neg h11, if_neg h11]
      split
      · rename_i h10
        have : valM kind (FD.maxL x sub + tagM x) = FD.maxL x sub + tagM x := by unfold valM; rw [if_pos h10.1]
        rw [this]
        split
        · rw [beI_length]; omega
        · rw [List.length_append, beI_length]
          have : ((fun y => joinP x (bodyP ver x sub 0 y) (unknownP sub y.u)) t).length ≤ FD.maxL x sub + tagM x := part t hk
          omega
      · have := valP_le (x := x) (nl := FD.nullV (.mk kind frm to null tag dfl of sub) ver t) (k := kind) (part := fun y => joinP x (bodyP ver x sub 0 y) (unknownP sub y.u)) (part t hk)
        omega
theorem FD.bodyP_le (ver : Int) (x : Bool) : ∀ (l : List FD) (i : Nat) (t : TR), FD.plainL l = true → t.kok → (bodyP ver x l i t).length ≤ FD.maxL x l
  | [], _, _, _, _ => by simp [bodyP]
  | f :: l, i, t, hp, hk => by
    simp only [FD.plainL, Bool.and_eq_true] at hp
    have a := FD.enc_le ver x f (t.at i) hp.1 (hk.at i)
    have b := FD.bodyP_le ver x l (i + 1) t hp.2 hk
    simp only [bodyP, FD.maxL, List.length_append]
    split
    · omega
    · simp; omega
end
theorem writeP_le {m : MD} {ver : Int} {t : TR} {N : Nat} (hp : FD.plainL m.fs = true) (hk : t.kok) (hN : FD.maxL (m.isFlex ver) m.fs + tagM (m.isFlex ver) ≤ N) : (writeP m ver t).length ≤ N := by
  have e : writeP m ver t = bodyP ver (m.isFlex ver) m.fs 0 t ++ tailP (m.isFlex ver) t.u := by
    unfold writeP partP
    rw [unknownP_plain hp]; rfl
  rw [e, List.length_append]
  have a := FD.bodyP_le ver (m.isFlex ver) m.fs 0 t hp hk
  have b := tail_le (x := m.isFlex ver) (TR.kok_u hk)
  omega
end Go.Msk

namespace Go.Msk
set_option maxRecDepth 100000
def wtU : List (Nat × List UInt8) → Nat
  | [] => 0
  | p :: u => 1 + p.2.length + wtU u
mutual
/-- How much a tree holds. -/
def TR.wt : TR → Nat
  | .mk _ s _ l u => 1 + s.length + TR.wtL l + wtU u
def TR.wtL : List TR → Nat
  | [] => 0
  | t :: l => t.wt + TR.wtL l
end
mutual
def FD.kB : FD → Nat
  | .mk _ _ _ _ _ _ _ sub => 60 + FD.kL sub
def FD.kL : List FD → Nat
  | [] => 0
  | f :: l => f.kB + FD.kL l
end
theorem TR.wt_pos (t : TR) : 1 ≤ t.wt := by cases t; simp only [TR.wt]; omega
theorem wtL_mem : ∀ {l : List TR} {y : TR}, y ∈ l → y.wt ≤ TR.wtL l
  | t :: l, y, h => by
    simp only [TR.wtL]
    rcases List.mem_cons.1 h with rfl | h
    · omega
    · have := wtL_mem h; omega
theorem TR.wt_at (t : TR) (i : Nat) : (t.at i).wt ≤ t.wt := by
  unfold TR.at
  cases h : t.l[i]? with
  | none => simp only [Option.getD_none]; have := t.wt_pos; simp [TR.zero, TR.wt, TR.wtL, wtU]; omega
  | some y =>
    simp only [Option.getD_some]
    have := wtL_mem (List.mem_of_getElem? h)
    cases t with
    | mk n s b l u => simp only [TR.wt, TR.l] at this ⊢; omega
theorem wtL_take (l : List TR) (k : Nat) : TR.wtL (l.take k) ≤ TR.wtL l := by
  induction l generalizing k with
  | nil => simp [TR.wtL]
  | cons t l ih =>
    cases k with
    | zero => simp [TR.wtL]
    | succ k => simp only [List.take_succ_cons, TR.wtL]; have := ih k; omega
theorem wtU_take (u : List (Nat × List UInt8)) (k : Nat) : wtU (u.take k) ≤ wtU u := by
  induction u generalizing k with
  | nil => simp [wtU]
  | cons t u ih =>
    cases k with
    | zero => simp [wtU]
    | succ k => simp only [List.take_succ_cons, wtU]; have := ih k; omega
theorem insU_wt (k : Nat) (b : List UInt8) : ∀ l, wtU (insU k b l) ≤ 1 + b.length + wtU l
  | [] => by simp [insU, wtU]
  | (k', b') :: r => by
    have := insU_wt k b r
    simp only [insU]
    split
    · simp only [wtU]; omega
    · split <;> simp only [wtU] <;> omega
theorem unk_wt (u : List (Nat × List UInt8)) : wtU (unk u) ≤ wtU u := by
  have gen : ∀ (v acc : List (Nat × List UInt8)), wtU (v.foldl (unkStep 0) acc) ≤ wtU acc + wtU v := by
    intro v
    induction v with
    | nil => intro acc; simp [wtU]
    | cons p v ih =>
      intro acc
      have e : unkStep 0 acc p = insU p.1 p.2 acc := by unfold unkStep; rw [if_neg (by omega)]
      simp only [List.foldl_cons, e, wtU]
      have a := ih (insU p.1 p.2 acc)
      have b := insU_wt p.1 p.2 acc
      omega
  have a := gen (u.take 32767) []
  have b := wtU_take u 32767
  simp only [wtU] at a
  unfold unk
  omega
theorem tagsP_wt : ∀ {u : List (Nat × List UInt8)}, (∀ p ∈ u, p.1 < 4294967296) → (tagsP u).length ≤ 11 * wtU u
  | [], _ => by simp [tagsP, wtU]
  | p :: u, h => by
    have a := tagsP_wt (u := u) fun q hq => h q (by simp [hq])
    have b := uvE_le (h p (by simp))
    have c := wholeP_le p.2
    have d := uvE_le (n := (wholeP p.2).length) (by omega)
    have e : (wholeP p.2).length ≤ p.2.length := by simp [wholeP]; omega
    have f : tagsP (p :: u) = (uvE p.1 ++ (uvE (wholeP p.2).length ++ wholeP p.2)) ++ tagsP u := by simp [tagsP]
    rw [f]
    simp only [List.length_append, wtU] at *
    omega
theorem tail_wt {x : Bool} {t : TR} (h : t.kok) : (tailP x t.u).length ≤ 16 * t.wt := by
  obtain ⟨h1, h2⟩ := unk_ok (TR.kok_u h)
  have hw : wtU t.u ≤ t.wt := by cases t; simp only [TR.u, TR.wt]; omega
  have hp := t.wt_pos
  cases x with
  | false => simp [tailP]
  | true =>
    have e1 := uvE_le (n := (unk t.u).length) (by omega)
    have e2 := tagsP_wt h1.2
    have e3 := unk_wt t.u
    simp only [tailP, if_true, List.length_append]
    omega
theorem wt_flat {f : TR → List UInt8} {K : Nat} : ∀ {l : List TR}, (∀ y ∈ l, (f y).length ≤ K * y.wt) → (l.flatMap f).length ≤ K * TR.wtL l
  | [], _ => by simp [TR.wtL]
  | y :: l, h => by
    have h1 := h y (by simp)
    have h2 := wt_flat (l := l) fun z hz => h z (by simp [hz])
    simp only [List.flatMap_cons, List.length_append, TR.wtL, Nat.mul_add]
    omega
theorem valP_wt {x nl : Bool} {k : Int} {part : TR → List UInt8} {t : TR} {K : Nat} (hp : (part t).length ≤ K * t.wt) : (valP x k part nl t).length ≤ (20 + K) * t.wt := by
  have h1 := t.wt_pos
  have hs : t.s.length + 1 ≤ t.wt := by cases t; simp only [TR.s, TR.wt]; omega
  have hw := wholeP_le t.s
  have hws : (wholeP t.s).length ≤ t.s.length := by simp [wholeP]; omega
  have hw2 : (if nl = true then [] else wholeP t.s).length ≤ 32767 := by cases nl <;> simp <;> omega
  have hw3 : (if nl = true then [] else wholeP t.s).length ≤ t.s.length := by cases nl <;> simp; omega
  rw [Nat.add_mul]
  have hb : ∀ n, n ≤ 20 → n ≤ 20 * t.wt := fun n hn => by omega
  unfold valP
  by_cases h0 : k = 0
  · rw [if_pos h0]; simp; omega
  rw [if_neg h0]
  by_cases h7 : k = 7
  · rw [if_pos h7]; simp [uuidP]; omega
  rw [if_neg h7]
  by_cases h8 : k = 8
  · rw [if_pos h8]
    have := countedP_le (x := x) (nl := nl) (k := 2) hw2 (by omega)
    simp only [List.length_append]; omega
  rw [if_neg h8]
  by_cases h9 : k = 9
  · rw [if_pos h9]
    have := countedP_le (x := x) (nl := nl) (k := 4) hw2 (by omega)
    simp only [List.length_append]; omega
  rw [if_neg h9]
  by_cases h10 : k = 10
  · rw [if_pos h10]; omega
  · rw [if_neg h10, beI_length]
    have := widthP_le k; omega
end Go.Msk

namespace Go.Msk
open Go.RowKit Go.ChangeShapes Go.WideShapes Go.ChangeAt
set_option maxRecDepth 100000
structure TreeTy (P : Program) (tT ti tS u8 tB tL tU tG tk : TypeId) : Prop where
  hT : ∃ fs : Array Field, P.underlying tT = some (.struct fs) ∧ fs.toList.map (fun f => (f.type, f.offset)) = [(ti, 0), (tS, 1), (tB, 2), (tL, 3), (tU, 4)]
  cT : P.cellsOf tT = 5
  hi : P.underlying ti = some (.int .i64)
  ci : P.cellsOf ti = 1
  hS : P.underlying tS = some (.slice u8)
  cS : P.cellsOf tS = 1
  h8 : P.underlying u8 = some (.int .u8)
  c8 : P.cellsOf u8 = 1
  hB : P.underlying tB = some .bool
  cB : P.cellsOf tB = 1
  hL : P.underlying tL = some (.slice tT)
  cL : P.cellsOf tL = 1
  hU : P.underlying tU = some (.slice tG)
  cU : P.cellsOf tU = 1
  hG : ∃ fs : Array Field, P.underlying tG = some (.struct fs) ∧ fs.toList.map (fun f => (f.type, f.offset)) = [(tk, 0), (tS, 1)]
  cG : P.cellsOf tG = 2
  hk : P.underlying tk = some (.int .u32)
  ck : P.cellsOf tk = 1
structure Bulk {H : Type} (f : DataW H → Nat) (fa : List (DataW H) → Nat) : Prop where
  int : ∀ k n, 1 ≤ f (.lit (.int k n))
  bool : ∀ b, 1 ≤ f (.lit (.bool b))
  none : 1 ≤ f .nil
  slice : ∀ a b, f (.slice a b) = fa a + fa b + 1
  agg : ∀ a, f (.agg a) = fa a + 1
  nil : fa [] = 0
  cons : ∀ d r, fa (d :: r) = f d + fa r
theorem Cells.join {w : World} {B o : Nat} {a b : List Value} (h : Cells w ⟨B, o, none⟩ a) (k : Cells w ⟨B, o + a.length, none⟩ b) : Cells w ⟨B, o, none⟩ (a ++ b) := by
  refine ⟨rfl, fun i v hv => ?_⟩
  by_cases hi : i < a.length
  · rw [List.getElem?_append_left hi] at hv; exact h.2 i v hv
  · rw [List.getElem?_append_right (by omega)] at hv
    have := k.2 _ v hv
    rwa [show o + a.length + (i - a.length) = o + i by omega] at this
theorem Cells.joinAll {w : World} {B sz : Nat} : ∀ {css : List (List Value)} {o : Nat}, (∀ c ∈ css, c.length = sz) → (∀ (i : Nat) (c : List Value), css[i]? = some c → Cells w ⟨B, o + i * sz, none⟩ c) → Cells w ⟨B, o, none⟩ css.flatten
  | [], o, _, _ => ⟨rfl, fun i v hv => by simp at hv⟩
  | c :: css, o, hs, h => by
    rw [List.flatten_cons]
    have h0 := h 0 c rfl
    refine Cells.join (by simpa using h0) ?_
    rw [hs c (by simp)]
    refine Cells.joinAll (fun x hx => hs x (by simp [hx])) fun i x hx => ?_
    have := h (i + 1) x (by simpa using hx)
    rwa [show o + sz + i * sz = o + (i + 1) * sz by rw [Nat.add_mul, Nat.one_mul]; omega]
section
variable {H : Type} {enc : TypeId × Value → H} {P : Program} {w : World}
theorem cells?_spec {a : Addr} {n : Nat} {cs : List Value} (h : w.cells? 0 a n = some cs) : cs.length = n ∧ (0 < n → a.spot = none ∧ a.block < w.heap.size ∧ Cells w a cs) := by
  unfold World.cells? at h
  rw [if_pos (Nat.zero_le _)] at h
  have hl : cs.length = n := by simpa using mapM_some_length h
  refine ⟨hl, fun hn => ?_⟩
  have hg : ∀ i, i < n → w.cell? (a.add i) = cs[i]? := fun i hi => mapM_some_get h i i (by simp [hi])
  have h0 := hg 0 hn
  obtain ⟨v, hv⟩ : ∃ v, cs[0]? = some v := ⟨cs[0], List.getElem?_eq_getElem (by omega)⟩
  rw [hv] at h0
  have hspot : a.spot = none := by simpa [Addr.add] using World.cell?_spot h0
  have hlt : a.block < w.heap.size := by have := World.block_lt_of_cell? w _ h0; simpa [Addr.add] using this
  refine ⟨hspot, hlt, hspot, fun i v hi => ?_⟩
  have hi' : i < n := by rw [← hl]; exact (List.getElem?_eq_some_iff.1 hi).1
  have := hg i hi'
  rw [hi, Addr.add_of hspot] at this
  exact this
theorem slice_things {base : Addr} {len cap sz n : Nat} {e : TypeId} {elems rest : List (DataW H × List MemPlace)} (hsz : P.cellsOf e = sz) (hpos : 0 < sz) (hlen : len ≤ cap) (hel : elems.length = len)
    (he : ∀ i, i < len → (w.cells? 0 (base.add (i * P.cellsOf e)) (P.cellsOf e)).bind (DataW.trod enc P w 0 (fun _ => true) true n e) = elems[i]?)
    (hr : rest.length = cap - len ∧ ∀ j, j < cap - len → (w.cells? 0 (base.add ((len + j) * P.cellsOf e)) (P.cellsOf e)).bind (DataW.trod enc P w 0 (fun _ => true) true n e) = rest[j]?) :
    ∃ css : List (List Value), css.length = len ∧ SlC anyB w (.slice (some base) len cap) len css.flatten ∧ (∀ c ∈ css, c.length = sz) ∧ ∀ (i : Nat) (c : List Value), css[i]? = some c → ∃ y, elems[i]? = some y ∧ DataW.trod enc P w 0 (fun _ => true) true n e c = some y := by
  subst hsz
  have hone : ∀ i, i < len → ∃ cs y, w.cells? 0 (base.add (i * P.cellsOf e)) (P.cellsOf e) = some cs ∧ DataW.trod enc P w 0 (fun _ => true) true n e cs = some y ∧ elems[i]? = some y := by
    intro i hi
    have h := he i hi
    have hg := List.getElem?_eq_getElem (l := elems) (i := i) (by omega)
    rw [hg] at h
    obtain ⟨cs, h1, h2⟩ := Option.bind_eq_some_iff.1 h
    exact ⟨cs, _, h1, h2, hg⟩
  have hb : 0 < cap → base.spot = none ∧ base.block < w.heap.size := by
    intro hc
    by_cases h0 : 0 < len
    · obtain ⟨cs, y, h1, -⟩ := hone 0 h0
      obtain ⟨-, h2⟩ := cells?_spec h1
      obtain ⟨q1, q2, -⟩ := h2 hpos
      exact ⟨by simpa [Addr.add] using q1, by simpa [Addr.add] using q2⟩
    · have h := hr.2 0 (by omega)
      rw [List.getElem?_eq_getElem (by omega)] at h
      obtain ⟨cs, h1, -⟩ := Option.bind_eq_some_iff.1 h
      have e0 : len = 0 := by omega
      subst e0
      obtain ⟨-, h2⟩ := cells?_spec h1
      obtain ⟨q1, q2, -⟩ := h2 hpos
      exact ⟨by simpa [Addr.add] using q1, by simpa [Addr.add] using q2⟩
  let css := (List.range len).map fun i => (w.cells? 0 (base.add (i * P.cellsOf e)) (P.cellsOf e)).getD []
  have hget : ∀ (i : Nat) (c : List Value), css[i]? = some c → i < len ∧ w.cells? 0 (base.add (i * P.cellsOf e)) (P.cellsOf e) = some c := by
    intro i c hc
    have hi : i < len := by have := (List.getElem?_eq_some_iff.1 hc).1; simpa [css] using this
    refine ⟨hi, ?_⟩
    obtain ⟨cs, y, h1, -⟩ := hone i hi
    simp only [css, List.getElem?_map, List.getElem?_range hi, Option.map_some, h1, Option.getD_some, Option.some.injEq] at hc
    rw [h1, hc]
  have hszs : ∀ c ∈ css, c.length = P.cellsOf e := by
    intro c hc
    obtain ⟨i, hi⟩ := List.getElem?_of_mem hc
    exact (cells?_spec (hget i c hi).2).1
  refine ⟨css, by simp [css], ⟨some base, cap, rfl, hlen, by simp, fun a ha hc => ?_⟩, hszs, fun i c hi => ?_⟩
  · simp only [Option.some.injEq] at ha; subst ha
    obtain ⟨h1, h2⟩ := hb hc
    refine ⟨trivial, h2, ?_⟩
    obtain ⟨B, o, s⟩ := base
    simp only at h1
    subst h1
    refine Cells.joinAll hszs fun i c hi => ?_
    obtain ⟨hil, hcs⟩ := hget i c hi
    obtain ⟨-, h3⟩ := cells?_spec hcs
    obtain ⟨-, -, q⟩ := h3 hpos
    rwa [Addr.add_mk] at q
  · obtain ⟨hil, hcs⟩ := hget i c hi
    obtain ⟨cs, y, h1, h2, h3⟩ := hone i hil
    rw [h1] at hcs
    simp only [Option.some.injEq] at hcs
    exact ⟨y, h3, by rw [← hcs]; exact h2⟩
theorem octets_of {t u : TypeId} {n : Nat} {cs : List Value} {x : DataW H × List MemPlace} (ht : P.underlying t = some (.slice u)) (hu : P.underlying u = some (.int .u8)) (hc : P.cellsOf u = 1) (h : DataW.trod enc P w 0 (fun _ => true) true n t cs = some x) :
    ∃ v l, cs = [v] ∧ SlC anyB w v l.length (u8s l) ∧ ∀ f fa, Bulk (H := H) f fa → l.length + 1 ≤ f x.1 := by
  rcases DataW.trod_slice ht h with ⟨rfl, rfl⟩ | ⟨a, len, cap, elems, rest, m, -, rfl, ex, -, hl, -, hel, he, hr, -⟩
  · exact ⟨_, [], rfl, SlC.nil, fun f fa B => B.none⟩
  · obtain ⟨css, k1, k2, k3, k4⟩ := slice_things (sz := 1) hc (by omega) hl hel he (hr rfl)
    have key : ∀ (css : List (List Value)) (es : List (DataW H × List MemPlace)), (∀ (i : Nat) (c : List Value), css[i]? = some c → ∃ y, es[i]? = some y ∧ DataW.trod enc P w 0 (fun _ => true) true m u c = some y) → ∃ l : List UInt8, l.length = css.length ∧ css.flatten = u8s l ∧ ∀ f fa, Bulk (H := H) f fa → l.length ≤ fa (es.map (·.1)) := by
      intro css
      induction css with
      | nil => intro es _; exact ⟨[], rfl, rfl, fun f fa _ => Nat.zero_le _⟩
      | cons c css ih =>
        intro es hh
        obtain ⟨y, h0, hy⟩ := hh 0 c rfl
        obtain ⟨es, rfl⟩ : ∃ r, es = y :: r := by
          cases es with
          | nil => simp at h0
          | cons a r => simp only [List.getElem?_cons_zero, Option.some.injEq] at h0; exact ⟨r, by rw [h0]⟩
        obtain ⟨z, rfl, ey, hw⟩ := DataW.trod_int hu hy
        obtain ⟨l, h1, h2, h3⟩ := ih es fun i x hx => by have := hh (i + 1) x (by simpa using hx); simpa using this
        obtain ⟨z0, z1⟩ := u8_of hw
        refine ⟨UInt8.ofNat z.toNat :: l, by simp [h1], ?_, fun f fa B => by
          have q := h3 f fa B
          have q0 := B.int .u8 z
          rw [List.map_cons, B.cons, ey, List.length_cons]
          show _ ≤ f (.lit (.int .u8 z)) + _
          omega⟩
        have e : ((UInt8.ofNat z.toNat).toNat : Int) = z := by simp; omega
        simp only [List.flatten_cons, h2, u8s, List.map_cons, List.cons_append, List.nil_append]
        rw [e]
    obtain ⟨l, h1, h2, h3⟩ := key css elems k4
    refine ⟨_, l, rfl, ?_, fun f fa B => ?_⟩
    · rw [h1, k1, ← h2]; exact k2
    · have q := h3 f fa B
      rw [ex]
      show _ ≤ f (.slice _ _)
      rw [B.slice]
      omega
theorem u32_of {n : Int} (h : (Lit.int .u32 n).wf = true) : 0 ≤ n ∧ n < 4294967296 := by
  simp only [Lit.wf, Bool.and_eq_true, decide_eq_true_eq] at h
  have h1 : IntKind.u32.min = 0 := by rfl
  have h2 : IntKind.u32.max = 4294967295 := by rfl
  omega
variable {tT ti tS u8 tB tL tU tG tk : TypeId}
theorem field_at {fs : Array Field} {l : List (TypeId × Nat)} (h : fs.toList.map (fun f => (f.type, f.offset)) = l) {i : Nat} {t : TypeId} {o : Nat} (hi : l[i]? = some (t, o)) : ∃ f, fs[i]? = some f ∧ f.type = t ∧ f.offset = o := by
  rw [← h, List.getElem?_map] at hi
  obtain ⟨f, hf, e⟩ := Option.map_eq_some_iff.1 hi
  simp only [Prod.mk.injEq] at e
  exact ⟨f, by simpa using hf, e.1, e.2⟩
theorem tag_of (T : TreeTy P tT ti tS u8 tB tL tU tG tk) {n : Nat} {cs : List Value} {x : DataW H × List MemPlace} (h : DataW.trod enc P w 0 (fun _ => true) true n tG cs = some x) :
    ∃ (k : Nat) (v : Value) (l : List UInt8), cs = [.int .u32 k, v] ∧ k < 4294967296 ∧ SlC anyB w v l.length (u8s l) ∧ ∀ f fa, Bulk (H := H) f fa → 1 + l.length ≤ f x.1 := by
  obtain ⟨fs, hfs, hl⟩ := T.hG
  obtain ⟨xs, m, -, ex, hlen, hxl, hx⟩ := DataW.trod_struct hfs h
  rw [T.cG] at hlen
  obtain ⟨a, b, rfl⟩ : ∃ a b, cs = [a, b] := by match cs, hlen with | [a, b], _ => exact ⟨a, b, rfl⟩
  have hn : xs.length = 2 := by rw [hxl, ← Array.length_toList, ← List.length_map (f := fun f : Field => (f.type, f.offset)), hl]; rfl
  obtain ⟨f0, g0, g1, g2⟩ := field_at hl (i := 0) rfl
  obtain ⟨f1, k0, k1, k2⟩ := field_at hl (i := 1) rfl
  have q0 := hx 0 f0 g0
  have q1 := hx 1 f1 k0
  rw [g1, g2, T.ck, List.getElem?_eq_getElem (by omega)] at q0
  rw [k1, k2, T.cS, List.getElem?_eq_getElem (by omega)] at q1
  simp only [List.drop_zero, List.take_succ_cons, List.take_zero, List.drop_succ_cons] at q0 q1
  obtain ⟨z, e0, -, hw⟩ := DataW.trod_int T.hk q0
  obtain ⟨v, l, e1, hs, hb⟩ := octets_of T.hS T.h8 T.c8 q1
  simp only [List.cons.injEq, and_true] at e0 e1
  obtain ⟨z0, z1⟩ := u32_of hw
  refine ⟨z.toNat, v, l, ?_, by omega, hs, fun f fa B => ?_⟩
  · rw [e0, e1, Int.toNat_of_nonneg z0]
  · have q := hb f fa B
    obtain ⟨a, b, rfl⟩ : ∃ a b, xs = [a, b] := by match xs, hn with | [a, b], _ => exact ⟨a, b, rfl⟩
    simp only [List.getElem_cons_succ, List.getElem_cons_zero] at q
    rw [ex]
    show _ ≤ f (.agg _)
    rw [B.agg]
    simp only [List.map_cons, B.cons]
    omega
theorem tree_of (T : TreeTy P tT ti tS u8 tB tL tU tG tk) : ∀ (n : Nat) (cs : List Value) (x : DataW H × List MemPlace), DataW.trod enc P w 0 (fun _ => true) true n tT cs = some x → ∃ t : TR, RepT anyB w t cs ∧ t.kok ∧ ∀ f fa, Bulk (H := H) f fa → t.wt ≤ f x.1 := by
  intro n
  induction n using Nat.strongRecOn with
  | ind n ih =>
  intro cs x h
  obtain ⟨fs, hfs, hl⟩ := T.hT
  obtain ⟨xs, m, hm, ex, hlen, hxl, hx⟩ := DataW.trod_struct hfs h
  rw [T.cT] at hlen
  obtain ⟨a, b, c, d, e, rfl⟩ : ∃ a b c d e, cs = [a, b, c, d, e] := by match cs, hlen with | [a, b, c, d, e], _ => exact ⟨a, b, c, d, e, rfl⟩
  have hn : xs.length = 5 := by rw [hxl, ← Array.length_toList, ← List.length_map (f := fun f : Field => (f.type, f.offset)), hl]; rfl
  obtain ⟨f0, g0, g1, g2⟩ := field_at hl (i := 0) rfl
  obtain ⟨f1, k0, k1, k2⟩ := field_at hl (i := 1) rfl
  obtain ⟨f2, m0, m1, m2⟩ := field_at hl (i := 2) rfl
  obtain ⟨f3, p0, p1, p2⟩ := field_at hl (i := 3) rfl
  obtain ⟨f4, r0, r1, r2⟩ := field_at hl (i := 4) rfl
  have q0 := hx 0 f0 g0
  have q1 := hx 1 f1 k0
  have q2 := hx 2 f2 m0
  have q3 := hx 3 f3 p0
  have q4 := hx 4 f4 r0
  rw [g1, g2, T.ci, List.getElem?_eq_getElem (by omega)] at q0
  rw [k1, k2, T.cS, List.getElem?_eq_getElem (by omega)] at q1
  rw [m1, m2, T.cB, List.getElem?_eq_getElem (by omega)] at q2
  rw [p1, p2, T.cL, List.getElem?_eq_getElem (by omega)] at q3
  rw [r1, r2, T.cU, List.getElem?_eq_getElem (by omega)] at q4
  simp only [List.drop_zero, List.take_succ_cons, List.take_zero, List.drop_succ_cons] at q0 q1 q2 q3 q4
  obtain ⟨z, e0, -, -⟩ := DataW.trod_int T.hi q0
  obtain ⟨sv, s, e1, hs, hsb⟩ := octets_of T.hS T.h8 T.c8 q1
  obtain ⟨nb, e2, -⟩ := DataW.trod_bool T.hB q2
  simp only [List.cons.injEq, and_true] at e0 e1 e2
  -- the tree's own
  have hlist : ∃ (ls : List TR) (css : List (List Value)), SlC anyB w d ls.length css.flatten ∧ RepTL anyB w ls css ∧ TR.kokL ls ∧ ∀ f fa, Bulk (H := H) f fa → TR.wtL ls + 1 ≤ f (xs[3]'(by omega)).1 := by
    rcases DataW.trod_slice T.hL q3 with ⟨e3, e4⟩ | ⟨ad, len, cap, elems, rest, mm, hmm, e3, e4, -, hle, -, hel, he, hr, -⟩
    · simp only [List.cons.injEq, and_true] at e3
      subst e3
      exact ⟨[], [], SlC.nil, .nil, trivial, fun f fa B => by rw [e4]; exact B.none⟩
    · simp only [List.cons.injEq, and_true] at e3
      subst e3
      obtain ⟨css, u1, u2, -, u4⟩ := slice_things (sz := 5) T.cT (by omega) hle hel he (hr rfl)
      have key : ∀ (css : List (List Value)) (es : List (DataW H × List MemPlace)), (∀ (i : Nat) (c : List Value), css[i]? = some c → ∃ y, es[i]? = some y ∧ DataW.trod enc P w 0 (fun _ => true) true mm tT c = some y) → ∃ ls : List TR, ls.length = css.length ∧ RepTL anyB w ls css ∧ TR.kokL ls ∧ ∀ f fa, Bulk (H := H) f fa → TR.wtL ls ≤ fa (es.map (·.1)) := by
        intro css
        induction css with
        | nil => intro es _; exact ⟨[], rfl, .nil, trivial, fun f fa _ => Nat.zero_le _⟩
        | cons c css ihc =>
          intro es hh
          obtain ⟨y, h0, hy⟩ := hh 0 c rfl
          obtain ⟨es, rfl⟩ : ∃ r, es = y :: r := by
            cases es with
            | nil => simp at h0
            | cons a r => simp only [List.getElem?_cons_zero, Option.some.injEq] at h0; exact ⟨r, by rw [h0]⟩
          obtain ⟨t, ht, hk, hb⟩ := ih mm (by omega) c y hy
          obtain ⟨ls, v1, v2, v3, v4⟩ := ihc es fun i x hx => by have := hh (i + 1) x (by simpa using hx); simpa using this
          exact ⟨t :: ls, by simp [v1], .cons ht v2, ⟨hk, v3⟩, fun f fa B => by
            have q1 := hb f fa B
            have q2 := v4 f fa B
            rw [List.map_cons, B.cons]
            simp only [TR.wtL]
            omega⟩
      obtain ⟨ls, v1, v2, v3, v4⟩ := key css elems u4
      exact ⟨ls, css, by rw [v1, u1]; exact u2, v2, v3, fun f fa B => by
        have q := v4 f fa B
        rw [e4]
        show _ ≤ f (.slice _ _)
        rw [B.slice]
        omega⟩
  have htags : ∃ (u : List (Nat × List UInt8)) (uss : List (List Value)), SlC anyB w e u.length uss.flatten ∧ RepU anyB w u uss ∧ (∀ p ∈ u, p.1 < 4294967296) ∧ ∀ f fa, Bulk (H := H) f fa → wtU u + 1 ≤ f (xs[4]'(by omega)).1 := by
    rcases DataW.trod_slice T.hU q4 with ⟨e3, e4⟩ | ⟨ad, len, cap, elems, rest, mm, hmm, e3, e4, -, hle, -, hel, he, hr, -⟩
    · simp only [List.cons.injEq, and_true] at e3
      subst e3
      exact ⟨[], [], SlC.nil, .nil, by simp, fun f fa B => by rw [e4]; exact B.none⟩
    · simp only [List.cons.injEq, and_true] at e3
      subst e3
      obtain ⟨css, u1, u2, -, u4⟩ := slice_things (sz := 2) T.cG (by omega) hle hel he (hr rfl)
      have key : ∀ (css : List (List Value)) (es : List (DataW H × List MemPlace)), (∀ (i : Nat) (c : List Value), css[i]? = some c → ∃ y, es[i]? = some y ∧ DataW.trod enc P w 0 (fun _ => true) true mm tG c = some y) → ∃ u : List (Nat × List UInt8), u.length = css.length ∧ RepU anyB w u css ∧ (∀ p ∈ u, p.1 < 4294967296) ∧ ∀ f fa, Bulk (H := H) f fa → wtU u ≤ fa (es.map (·.1)) := by
        intro css
        induction css with
        | nil => intro es _; exact ⟨[], rfl, .nil, by simp, fun f fa _ => Nat.zero_le _⟩
        | cons c css ihc =>
          intro es hh
          obtain ⟨y, h0, hy⟩ := hh 0 c rfl
          obtain ⟨es, rfl⟩ : ∃ r, es = y :: r := by
            cases es with
            | nil => simp at h0
            | cons a r => simp only [List.getElem?_cons_zero, Option.some.injEq] at h0; exact ⟨r, by rw [h0]⟩
          obtain ⟨k, v, l, rfl, hk, hv, hb⟩ := tag_of T hy
          obtain ⟨u, v1, v2, v3, v4⟩ := ihc es fun i x hx => by have := hh (i + 1) x (by simpa using hx); simpa using this
          refine ⟨(k, l) :: u, by simp [v1], .cons hv v2, fun p hp => ?_, fun f fa B => ?_⟩
          · rcases List.mem_cons.1 hp with rfl | hp
            · exact hk
            · exact v3 p hp
          · have q1 := hb f fa B
            have q2 := v4 f fa B
            rw [List.map_cons, B.cons]
            simp only [wtU]
            omega
      obtain ⟨u, v1, v2, v3, v4⟩ := key css elems u4
      exact ⟨u, css, by rw [v1, u1]; exact u2, v2, v3, fun f fa B => by
        have q := v4 f fa B
        rw [e4]
        show _ ≤ f (.slice _ _)
        rw [B.slice]
        omega⟩
  obtain ⟨ls, css, l1, l2, l3, l4⟩ := hlist
  obtain ⟨u, uss, w1, w2, w3, w4⟩ := htags
  subst e0; subst e1; subst e2
  refine ⟨.mk z s nb ls u, .mk hs l1 l2 w1 w2, ⟨w3, l3⟩, fun f fa B => ?_⟩
  have a1 := hsb f fa B
  have a2 := l4 f fa B
  have a3 := w4 f fa B
  obtain ⟨x0, x1, x2, x3, x4, rfl⟩ : ∃ a b c d e, xs = [a, b, c, d, e] := by match xs, hn with | [a, b, c, d, e], _ => exact ⟨a, b, c, d, e, rfl⟩
  simp only [List.getElem_cons_succ, List.getElem_cons_zero] at a1 a2 a3
  rw [ex]
  show _ ≤ f (.agg _)
  rw [B.agg]
  simp only [List.map_cons, B.cons, TR.wt]
  omega
theorem open_tree (T : TreeTy P tT ti tS u8 tB tL tU tG tk) (hl : laidOutB P = true) (hrd : P.readableRec tT = true) (hrow : tT < P.types.size) {v : Value} {d : DataW H} {p : List MemPlace} {base : Nat} (hv : Value.okWide P w .any base tT v)
    (h : DataW.Trod enc P w 0 (fun _ => true) true tT v d p) :
    ∃ (t : TR) (ts : List Value), v = .agg ts.toArray ∧ RepT anyB w t ts ∧ t.kok ∧ (∀ f fa, Bulk (H := H) f fa → t.wt ≤ f d) ∧ ∀ W', Mod [] w W' → DataW.Trod enc P W' 0 (fun b => decide (b < w.heap.size)) true tT v d p := by
  obtain ⟨fs, hfs, -⟩ := T.hT
  simp only [Value.okWide, hfs] at hv
  obtain ⟨cs, rfl, -, -⟩ := hv
  obtain ⟨n, hn⟩ := id h
  obtain ⟨t, ht, hk, hb⟩ := tree_of T n _ _ hn
  have ec : (Value.agg cs).cells.toList = cs.toList := rfl
  rw [ec] at ht
  have hlt : ∀ q ∈ p, q.block < w.heap.size := fun q hq => DataW.trod_lt n tT _ _ hn q hq
  refine ⟨t, cs.toList, by simp, ht, hk, hb, fun W' hm => ?_⟩
  refine Go.WideElems.Trod_stays hl hrd hrow h (fun q hq => ?_) fun q hq => by simpa using hlt q hq
  have hq := hlt q hq
  cases q with
  | cell b off => exact World.cell?_of_block (hm.block b hq (by simp))
  | map b => exact hm.block b hq (by simp)
end
end Go.Msk

namespace Go.Msk
open Go.RowKit Go.ChangeShapes Go.WideShapes Go.ChangeAt
section
variable {H : Type} {enc : TypeId × Value → H}
theorem witness_cond {C : Checked} {os : Os} {f : FuncId} {fn : Func} {s : OpenSpec} {k : (H : Type) → List (DataW H) → Bool} (hk : s.cond = some k) {apart : Bool} {X : World → Array Value → Prop} (w0 : World) (args : Array Value) (fuel : Nat) (hos : w0.os = os)
    (hsh : (w0.forCall (fun _ _ => 0) ⟨#[], args, []⟩).Shaped C.prog)
    (hok : Input.okWideB C.prog (w0.forCall (fun _ _ => 0) ⟨#[], args, []⟩) f ⟨#[], args, []⟩ = true)
    (hpre : ((DataW.whole enc C.prog (w0.forCall (fun _ _ => 0) ⟨#[], args, []⟩).memory fn.params.toList s.vars apart args.toList fuel).any fun x => k H (x.1 ++ x.2.1)) = true)
    (hsz : s.bare.sizedB enc C.prog fn apart (w0.forCall (fun _ _ => 0) ⟨#[], args, []⟩).memory args fuel = true)
    (hx : X (w0.forCall (fun _ _ => 0) ⟨#[], args, []⟩).memory args) :
    ∃ (w : World) (tape : Tape) (i : Input), w.os = os ∧ (w.forCall tape i).Shaped C.prog ∧ i.vars = [] ∧ Input.okWide C.prog (w.forCall tape i) .any w.heap.size f i ∧
      ((s.pre enc C.prog fn [] apart (w.forCall tape i).memory i.args ∧ X (w.forCall tape i).memory i.args) ∧ sizedMet enc C.prog fn s apart (w.forCall tape i).memory i.args) ∧ ({} : Assume).holds C.prog (lone (Frame.enter C.prog f i.args .normal) [] (w.forCall tape i)) := by
  refine ⟨w0, fun _ _ => 0, ⟨#[], args, []⟩, hos, hsh, (Input.okWide_of_okWideB (base := 0) hok).1, (Input.okWide_of_okWideB hok).2, ⟨⟨?_, hx⟩, sizedMet_of_sizedB hsz⟩, ?_⟩
  · rw [Option.any_eq_true] at hpre
    obtain ⟨x, h1, h2⟩ := hpre
    exact (OpenSpec.pre_some hk [] apart _ _).2 ⟨x.1, x.2.1, x.2.2, DataW.Whole_of_whole h1, rfl, h2⟩
  · simp only [Assume.holds]
    exact ⟨by simp, by simp, fun _ => Modest.zero, by simp, by simp⟩
theorem returns_cond {a : Assume} {C : Checked} {os : Os} {f : FuncId} {fn : Func} {s : OpenSpec} {k : (H : Type) → List (DataW H) → Bool} (hk : s.cond = some k) {F : Stop.Interp} {apart fresh handsOn again : Bool} {X : World → Array Value → Prop}
    (hX : ∀ (w w' : World) (args : Array Value), w.heap = w'.heap → X w args → X w' args)
    (own : ownKnob C.prog.godebug = none) (started : os.Started) (noInit : C.prog.inits.idxOf? f = none) (hfn : C.prog.funcs[f]? = some fn)
    (witness : ∃ (w : World) (tape : Tape) (i : Input), w.os = os ∧ (w.forCall tape i).Shaped C.prog ∧ i.vars = [] ∧ Input.okWide C.prog (w.forCall tape i) .any w.heap.size f i ∧
      ((s.pre enc C.prog fn [] apart (w.forCall tape i).memory i.args ∧ X (w.forCall tape i).memory i.args) ∧ sizedMet enc C.prog fn s apart (w.forCall tape i).memory i.args) ∧ a.holds C.prog (lone (Frame.enter C.prog f i.args .normal) [] (w.forCall tape i)))
    (contract : ∀ (W : World) (base : Nat) (args : Array Value) (ds gs : List (DataW H)) (before : List MemPlace),
      (∀ (j : Nat) t v, fn.params[j]? = some t → args[j]? = some v → Value.okWide C.prog W .any base t v) →
      DataW.Whole enc C.prog fn.params.toList s.vars apart W args.toList ds gs before → k H (ds ++ gs) = true → X W args →
      Calls C.prog f args W fun e W' => ∃ v, e = .returned v ∧ (s.at F).post enc C.prog fn apart fresh handsOn again W args v W') :
    ReturnsInHanded a C os f .any (fun w args => (s.pre enc C.prog fn [] apart w args ∧ X w args) ∧ sizedMet enc C.prog fn s apart w args) ((s.at F).post enc C.prog fn apart fresh handsOn again) := by
  refine returnsInHanded_of_calls own started noInit witness ?_
  intro w tape i _ _ _ hok hpre _
  obtain ⟨_, _, _, fn', hfn', _, _, _, _, hval⟩ := hok
  have e : fn' = fn := Option.some.inj (hfn'.symm.trans hfn)
  subst e
  obtain ⟨⟨hp, hx⟩, -⟩ := hpre
  obtain ⟨ds, gs, before, hw, -, hkk⟩ := (OpenSpec.pre_some hk [] apart _ _).1 hp
  have hw' := DataW.Whole.of_heap (w' := w.forCall tape i) (by rfl) hw
  refine (contract (w.forCall tape i) w.heap.size i.args ds gs before hval hw' hkk (hX _ _ _ (by rfl) hx)).mono fun e W' ⟨v, he, hp⟩ => ?_
  subst he
  exact ChangeSpec.post_blind hp
end
end Go.Msk
