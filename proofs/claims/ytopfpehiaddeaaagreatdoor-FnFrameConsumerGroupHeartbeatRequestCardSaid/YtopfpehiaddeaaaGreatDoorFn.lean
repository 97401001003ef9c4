/- A small language of resolved operations, and what the generic and the generated functions do in it (part 14). -/
import Derived.Test.YtopfpehiaddeaaaGreatDoorFm

namespace Go.Msk
open Go.RowKit
set_option maxRecDepth 100000
def Kp (NV nv nt : Nat) (σ σ' : Sl) : Prop := ∀ j, j ≠ 1 → (j < nv ∨ (NV ≤ j ∧ j < nt)) → σ' j = σ j
theorem Kp.refl {NV nv nt : Nat} (σ : Sl) : Kp NV nv nt σ σ := fun _ _ _ => rfl
theorem Kp.trans {NV nv nt nv' nt' nv'' nt'' : Nat} {σ σ' σ'' : Sl} (h : Kp NV nv nt σ σ') (h' : Kp NV nv' nt' σ' σ'') (a : nv'' ≤ nv) (b : nt'' ≤ nt) (a' : nv'' ≤ nv') (b' : nt'' ≤ nt') : Kp NV nv'' nt'' σ σ'' :=
  fun j h1 h2 => (h' j h1 (h2.imp (fun h => by omega) fun h => by omega)).trans (h j h1 (h2.imp (fun h => by omega) fun h => by omega))
structure AS (w0 : World) (ver : Int) (hf x : Bool) (l : List UInt8) (σ : Sl) (w : World) : Prop where
  d : DRaw w w0.heap.size (σ 1) l
  m : Mod [] w0 w
  v : σ 5 = .int .i16 ver
  x : hf = true → σ 6 = .bool x
def bse (hf : Bool) : Nat := if hf then 7 else 6
theorem AS.keep {w0 : World} {ver : Int} {hf x : Bool} {l l' : List UInt8} {σ σ' : Sl} {w w' : World} {NV nv nt : Nat} (h : AS w0 ver hf x l σ w) (hk : Kp NV nv nt σ σ') (hn : bse hf ≤ nv) (hd : DRaw w' w0.heap.size (σ' 1) l') (hm : Mod [] w0 w') : AS w0 ver hf x l' σ' w' := by
  have h6 : 6 ≤ nv := by unfold bse at hn; split at hn <;> omega
  refine ⟨hd, hm, by rw [hk 5 (by omega) (.inl (by omega))]; exact h.v, fun e => ?_⟩
  subst e
  rw [hk 6 (by omega) (.inl (by simp only [bse, if_true] at hn; omega))]; exact h.x rfl
section
variable {P : Program}
attribute [local simp] gOk updo upd ev RK.val? isShift intBin Addr.add_mk args0 Value.cells undef
theorem wrapA {vc : VC} {f : Nat → IC} {ver : Int} {t : Nat} {σ : Sl} {w : World} {Q : Exit → Sl → World → Prop} (hv : σ 5 = .int .i16 ver) (ht : 5 < t)
    (h1 : vc.holds ver = true → ∀ σ', Ag t σ σ' → wpC P (f (t + vc.nt)) Q σ' w) (h0 : vc.holds ver = false → ∀ σ', Ag t σ σ' → Q .normal σ' w) : wpC P (vc.wrap E0 t f) Q σ w := by
  have hvs : E0.vs = 5 := rfl
  cases vc with
  | all => exact h1 rfl σ (Ag.refl _ _)
  | ge k =>
    simp only [VC.wrap, wpC, wpR, RI.wp, gOk, if_true, RK.run, ev, updo, hvs]
    simp only [upd, if_true, hv, isShift, decide_true, Bool.or_true, intBin, thenC]
    have hag : ∀ v, Ag t σ (fun j => if j = t + 1 then v else if j = t then Value.int .i16 ver else σ j) := fun v j hj => by
      simp only [show j ≠ t by omega, show j ≠ t + 1 by omega, if_false]
    cases hh : decide (ver ≥ k) with
    | true => exact h1 (by simpa [VC.holds] using hh) _ (hag _)
    | false => exact h0 (by simpa [VC.holds] using hh) _ (hag _)
  | rng a b =>
    simp only [VC.wrap, wpC, wpR, RI.wp, gOk, if_true, RK.run, ev, updo, hvs]
    simp only [upd, if_true, hv, isShift, decide_true, Bool.or_true, intBin, thenC, show 5 ≠ t + 2 by omega, show 5 ≠ t + 1 by omega, show 5 ≠ t by omega, if_false, show t + 2 ≠ t + 3 by omega, show t + 2 ≠ t + 4 by omega]
    cases hh : decide (ver ≥ a) with
    | true =>
      simp only [beq_self_eq_true, if_true]
      cases hh2 : decide (ver ≤ b) with
      | true =>
        refine h1 (by simp only [VC.holds, hh, hh2, Bool.and_self]) _ fun j hj => ?_
        simp only [upd, show j ≠ t by omega, show j ≠ t + 1 by omega, show j ≠ t + 2 by omega, show j ≠ t + 3 by omega, show j ≠ t + 4 by omega, show j ≠ t + 5 by omega, if_false]
      | false =>
        refine h0 (by simp only [VC.holds, hh, hh2, Bool.and_false]) _ fun j hj => ?_
        simp only [upd, show j ≠ t by omega, show j ≠ t + 1 by omega, show j ≠ t + 2 by omega, show j ≠ t + 3 by omega, show j ≠ t + 4 by omega, show j ≠ t + 5 by omega, if_false]
    | false =>
      have hbf : (false == true) = false := rfl
      simp only [hbf, Bool.false_eq_true, if_false]
      refine h0 (by simp only [VC.holds, hh, Bool.false_and]) _ fun j hj => ?_
      simp only [upd, show j ≠ t by omega, show j ≠ t + 1 by omega, show j ≠ t + 2 by omega, show j ≠ t + 3 by omega, show j ≠ t + 4 by omega, show j ≠ t + 5 by omega, if_false]
theorem acB_wp {t y n0 : Nat} {f : FuncId} {σ : Sl} {w w0 : World} {l' : List UInt8} {Q : Exit → Sl → World → Prop} (_ht : 6 < t) (hy : y < t)
    (hc : Calls P f [σ 1, σ y].toArray w fun e w' => ∃ dv', e = .returned dv' ∧ DRaw w' n0 dv' l' ∧ Mod [] w0 w')
    (hQ : ∀ σ' w', (∀ j, j ≠ 1 → j < t → σ' j = σ j) → DRaw w' n0 (σ' 1) l' → Mod [] w0 w' → Q .normal σ' w') : wpC P (acB t y f) Q σ w := by
  have hy' : y ≠ t := by omega
  unfold acB
  rw [wpC_blk]
  refine go1 (v := σ 1) rfl (by simp) ?_
  refine go1 (v := σ y) rfl (by simp [hy']) ?_
  refine goCall rfl (vs := [σ 1, σ y]) (by simp) hc ?_
  rintro e w1 ⟨dv', rfl, h1, h2⟩
  refine ⟨dv', rfl, go1 (v := dv') rfl (by simp) (goEnd (hQ _ _ (fun j hj hjt => ?_) (by simpa using h1) h2))⟩
  simp only [updo, upd, hj, show j ≠ t by omega, show j ≠ t + 1 by omega, show j ≠ t + 2 by omega, if_false]
theorem mv6_wp {t : Nat} {v : Value} {σ : Sl} {w : World} {Q : Exit → Sl → World → Prop} (h6 : σ 6 = v) (hQ : ∀ σ', Ag t σ σ' → σ' t = v → Q .normal σ' w) : wpC P (.blk [⟨some t, .mv (.tmp 6), none⟩]) Q σ w := by
  rw [wpC_blk]
  refine go1 (v := v) rfl (by simp [h6]) (goEnd (hQ _ (fun j hj => ?_) (by simp)))
  simp only [updo, upd, show j ≠ t by omega, if_false]
theorem AC.gen_wp {a : AC} {x : Bool} {t y n0 : Nat} {σ : Sl} {w w0 : World} {l' : List UInt8} {Q : Exit → Sl → World → Prop} (ht : 6 < t) (hy : y < t) (hx : a.fx = true → σ 6 = .bool x)
    (hc : Calls P (a.sel x) [σ 1, σ y].toArray w fun e w' => ∃ dv', e = .returned dv' ∧ DRaw w' n0 dv' l' ∧ Mod [] w0 w')
    (hQ : ∀ σ' w', (∀ j, j ≠ 1 → j < t → σ' j = σ j) → DRaw w' n0 (σ' 1) l' → Mod [] w0 w' → Q .normal σ' w') : wpL P (a.gen t y) Q σ w := by
  obtain ⟨f, g⟩ := a
  cases g with
  | none => exact acB_wp ht hy hc hQ
  | some g =>
    have h6 := hx rfl
    simp only [AC.gen, wpL]
    refine mv6_wp h6 fun σ1 a1 e1 => ?_
    simp only [thenC]
    have e : ([σ1 1, σ1 y] : List Value) = [σ 1, σ y] := by rw [a1 1 (by omega), a1 y hy]
    cases x with
    | true =>
      rw [wpC_cond_t (show ev σ1 (.tmp t) = _ from e1)]
      refine acB_wp (n0 := n0) (w0 := w0) (l' := l') (by omega) (by omega) (by rw [e]; exact hc) fun σ2 w2 a2 h2 m2 => hQ σ2 w2 (fun j hj hjt => by rw [a2 j hj (by omega), a1 j hjt]) h2 m2
    | false =>
      rw [wpC_cond_f (show ev σ1 (.tmp t) = _ from e1)]
      refine acB_wp (n0 := n0) (w0 := w0) (l' := l') (by omega) (by omega) (by rw [e]; exact hc) fun σ2 w2 a2 h2 m2 => hQ σ2 w2 (fun j hj hjt => by rw [a2 j hj (by omega), a1 j hjt]) h2 m2
theorem lcB_wp {nul : Bool} {t y n0 n c : Nat} {base : Option Addr} {f : FuncId} {σ : Sl} {w w0 : World} {l' : List UInt8} {Q : Exit → Sl → World → Prop} (_ht : 6 < t) (hy : y < t) (hs : σ y = .slice base n c)
    (hc : Calls P f ((σ 1 :: .int .i64 (n : Nat) :: if nul then [Value.bool base.isNone] else []).toArray) w fun e w' => ∃ dv', e = .returned dv' ∧ DRaw w' n0 dv' l' ∧ Mod [] w0 w')
    (hQ : ∀ σ' w', (∀ j, j ≠ 1 → j < t → σ' j = σ j) → DRaw w' n0 (σ' 1) l' → Mod [] w0 w' → Q .normal σ' w') : wpC P (lcB nul t y f) Q σ w := by
  have hy' : y ≠ t := by omega
  have hy1 : y ≠ t + 1 := by omega
  have hy2 : y ≠ t + 2 := by omega
  unfold lcB
  cases nul with
  | true =>
    simp only [if_true] at hc ⊢
    rw [wpC_blk]
    refine go1 (v := σ 1) rfl (by simp) ?_
    refine go1 (v := .slice base n c) rfl (by simp [hy', hs]) ?_
    refine go1 (v := .int .i64 (n : Nat)) rfl (by simp) ?_
    refine go1 (v := .slice base n c) rfl (by simp [hy', hy1, hy2, hs]) ?_
    refine go1 (v := .bool base.isNone) rfl (by simp) ?_
    refine goCall rfl (vs := [σ 1, .int .i64 (n : Nat), .bool base.isNone]) (by simp) hc ?_
    rintro e w1 ⟨dv', rfl, h1, h2⟩
    refine ⟨dv', rfl, go1 (v := dv') rfl (by simp) (goEnd (hQ _ _ (fun j hj hjt => ?_) (by simpa using h1) h2))⟩
    simp only [updo, upd, hj, show j ≠ t by omega, show j ≠ t + 1 by omega, show j ≠ t + 2 by omega, show j ≠ t + 3 by omega, show j ≠ t + 4 by omega, show j ≠ t + 5 by omega, if_false]
  | false =>
    simp only [Bool.false_eq_true, if_false] at hc ⊢
    rw [wpC_blk]
    refine go1 (v := σ 1) rfl (by simp) ?_
    refine go1 (v := .slice base n c) rfl (by simp [hy', hs]) ?_
    refine go1 (v := .int .i64 (n : Nat)) rfl (by simp) ?_
    refine goCall rfl (vs := [σ 1, .int .i64 (n : Nat)]) (by simp) hc ?_
    rintro e w1 ⟨dv', rfl, h1, h2⟩
    refine ⟨dv', rfl, go1 (v := dv') rfl (by simp) (goEnd (hQ _ _ (fun j hj hjt => ?_) (by simpa using h1) h2))⟩
    simp only [updo, upd, hj, show j ≠ t by omega, show j ≠ t + 1 by omega, show j ≠ t + 2 by omega, show j ≠ t + 3 by omega, if_false]
theorem AC.lgen_wp {a : AC} {nul x : Bool} {t y n0 n c : Nat} {base : Option Addr} {σ : Sl} {w w0 : World} {l' : List UInt8} {Q : Exit → Sl → World → Prop} (ht : 6 < t) (hy : y < t) (hx : a.fx = true → σ 6 = .bool x) (hs : σ y = .slice base n c)
    (hc : Calls P (a.sel x) ((σ 1 :: .int .i64 (n : Nat) :: if nul then [Value.bool base.isNone] else []).toArray) w fun e w' => ∃ dv', e = .returned dv' ∧ DRaw w' n0 dv' l' ∧ Mod [] w0 w')
    (hQ : ∀ σ' w', (∀ j, j ≠ 1 → j < t → σ' j = σ j) → DRaw w' n0 (σ' 1) l' → Mod [] w0 w' → Q .normal σ' w') : wpC P (a.lgen nul t y) Q σ w := by
  obtain ⟨f, g⟩ := a
  cases g with
  | none => exact lcB_wp ht hy hs hc hQ
  | some g =>
    have h6 := hx rfl
    simp only [AC.lgen]
    rw [wpC_seq]
    refine mv6_wp h6 fun σ1 a1 e1 => ?_
    simp only [thenC]
    have e : σ1 1 = σ 1 := a1 1 (by omega)
    have es : σ1 y = .slice base n c := (a1 y hy).trans hs
    cases x with
    | true =>
      rw [wpC_cond_t (show ev σ1 (.tmp t) = _ from e1)]
      refine lcB_wp (n0 := n0) (w0 := w0) (l' := l') (by omega) (by omega) es (by rw [e]; exact hc) fun σ2 w2 a2 h2 m2 => hQ σ2 w2 (fun j hj hjt => by rw [a2 j hj (by omega), a1 j hjt]) h2 m2
    | false =>
      rw [wpC_cond_f (show ev σ1 (.tmp t) = _ from e1)]
      refine lcB_wp (n0 := n0) (w0 := w0) (l' := l') (by omega) (by omega) es (by rw [e]; exact hc) fun σ2 w2 a2 h2 m2 => hQ σ2 w2 (fun j hj hjt => by rw [a2 j hj (by omega), a1 j hjt]) h2 m2
theorem lstA_wp {v t nb nx n c NV nv : Nat} {base : Option Addr} {body : List IC} {w0 : World} {ver : Int} {hf x : Bool} {E : Nat → List UInt8} {σ : Sl} {w : World} {Q : Exit → Sl → World → Prop}
    (hn : n < 4294967295) (hs : σ v = .slice base n c) (hb : bse hf ≤ nv) (hvn : v = nv) (hNV : nv + 3 ≤ NV) (hNt : NV ≤ t) (hnx : t + 5 ≤ nx) (h0 : AS w0 ver hf x (E 0) σ w)
    (hstep : ∀ j σ1 w1, j < n → AS w0 ver hf x (E j) σ1 w1 → Kp NV (nv + 1) t σ σ1 → σ1 (v + 1) = .int .i64 (j : Nat) → ∀ Q' : Exit → Sl → World → Prop,
      (∀ σ2 w2, AS w0 ver hf x (E (j + 1)) σ2 w2 → Kp NV (nv + 1) (t + 4) σ1 σ2 → Q' .normal σ2 w2) → wpL P body Q' σ1 w1)
    (hQ : ∀ σ' w', AS w0 ver hf x (E n) σ' w' → Kp NV (nv + 1) t σ σ' → Q .normal σ' w') : wpL P (lstA v t nb nx body) Q σ w := by
  subst hvn
  have hv6 : 6 ≤ v := by unfold bse at hb; split at hb <;> omega
  have hvt : v ≠ t ∧ v ≠ t + 1 ∧ v ≠ t + 2 := by omega
  have kup : ∀ {σa σb : Sl}, (∀ j, j ≠ 1 → j < t → j ≠ v + 1 → σb j = σa j) → Kp NV (v + 1) t σa σb := fun h j h1 h2 => h j h1 (by omega) (by omega)
  unfold lstA
  simp only [wpL]
  rw [wpC_blk]
  refine go1 (v := .slice base n c) rfl (by simp [hs]) ?_
  refine go1 (v := .int .i64 (n : Nat)) rfl (by simp) ?_
  refine go1 (v := .int .i64 (0 : Nat)) rfl (by simp) (goEnd ?_)
  simp only [thenC]
  have asup : ∀ {l : List UInt8} {σa σb : Sl} {wa : World}, AS w0 ver hf x l σa wa → (∀ j, j < v + 1 → σb j = σa j) → AS w0 ver hf x l σb wa := fun {l σa σb wa} h hh =>
    h.keep (NV := 0) (nt := 0) (nv := v + 1) (fun j _ hj => hh j (by omega)) (by omega) (by rw [hh 1 (by omega)]; exact h.d) h.m
  refine rangeLoop (n := n) (fun j σ1 w1 => AS w0 ver hf x (E j) σ1 w1 ∧ Kp NV (v + 1) t σ σ1 ∧ σ1 (t + 2) = .int .i64 (j : Nat) ∧ σ1 (t + 1) = .int .i64 (n : Nat)) (by omega) (by omega) (fun j σ1 w1 h => ⟨h.2.2.1, h.2.2.2⟩) ?_ ?_ ?_
  · refine ⟨asup h0 fun j hj => ?_, fun j h1 h2 => ?_, by simp, by simp⟩
    · simp only [updo, upd, show j ≠ t by omega, show j ≠ t + 1 by omega, show j ≠ t + 2 by omega, if_false]
    · simp only [updo, upd, show j ≠ t by omega, show j ≠ t + 1 by omega, show j ≠ t + 2 by omega, if_false]
  · rintro j σ1 w1 hj ⟨ha, hk, hc2, hc1⟩
    rw [wpC_seqs]
    simp only [wpL]
    rw [wpC_blk]
    refine go1 (v := .int .i64 (j : Nat)) rfl (by simp [hc2]) ?_
    refine go1 (v := .int .i64 (j : Nat)) rfl (by simp) (goEnd ?_)
    simp only [thenC]
    have e1 : ∀ k, k ≠ t + 3 → k ≠ t + 4 → k ≠ v + 1 → updo (updo (upd σ1 (t + 3) (.bool true)) (some (t + 4)) (.int .i64 (j : Nat))) (some (v + 1)) (.int .i64 (j : Nat)) k = σ1 k := fun k h1 h2 h3 => by simp only [updo, upd, h1, h2, h3, if_false]
    have e2 : updo (updo (upd σ1 (t + 3) (.bool true)) (some (t + 4)) (.int .i64 (j : Nat))) (some (v + 1)) (.int .i64 (j : Nat)) (v + 1) = .int .i64 (j : Nat) := by simp only [updo, upd, if_true]
    generalize updo (updo (upd σ1 (t + 3) (.bool true)) (some (t + 4)) (.int .i64 (j : Nat))) (some (v + 1)) (.int .i64 (j : Nat)) = σ2 at e1 e2 ⊢
    refine hstep j σ2 w1 hj (asup ha fun k hk => e1 k (by omega) (by omega) (by omega)) (fun k h1 h2 => (e1 k (by omega) (by omega) (by omega)).trans (hk k h1 h2)) e2 _ fun σ3 w3 ha3 hk3 => ?_
    simp only [rngP]
    have c2 : σ3 (t + 2) = .int .i64 (j : Nat) := by rw [hk3 (t + 2) (by omega) (.inr (by omega)), e1 _ (by omega) (by omega) (by omega)]; exact hc2
    have c1 : σ3 (t + 1) = .int .i64 (n : Nat) := by rw [hk3 (t + 1) (by omega) (.inr (by omega)), e1 _ (by omega) (by omega) (by omega)]; exact hc1
    refine ⟨c2, asup ha3 fun k hk => ?_, fun k h1 h2 => ?_, by simp only [upd, if_true], ?_⟩
    · simp only [upd, show k ≠ t + 2 by omega, show k ≠ nx by omega, if_false]
    · simp only [upd, show k ≠ t + 2 by omega, show k ≠ nx by omega, if_false]
      rw [hk3 k h1 (by omega), e1 k (by omega) (by omega) (by omega)]; exact hk k h1 h2
    · simp only [upd, show t + 1 ≠ t + 2 by omega, show t + 1 ≠ nx by omega, if_false]; exact c1
  · rintro σ1 w1 ⟨ha, hk, -, -⟩
    refine hQ _ _ (asup ha fun j hj => ?_) fun j h1 h2 => ?_
    · simp only [upd, show j ≠ t + 3 by omega, if_false]
    · simp only [upd, show j ≠ t + 3 by omega, if_false]; exact hk j h1 h2
end
end Go.Msk

namespace Go.Msk
open Go.RowKit
set_option maxRecDepth 100000
structure TgC (P : Program) (ln uv ap : FuncId) : Prop where
  ln : ∀ (w : World) (B o : Nat) (v : Value) (m : List (Nat × List UInt8)), w.cell? ⟨B, o, none⟩ = some v → TagM anyB w v m → Calls P ln [.pointer (some ⟨B, o, none⟩)].toArray w fun e w' => e = .returned (.int .i64 (m.length : Nat)) ∧ w' = w
  uv : ∀ n : Nat, n < 4294967296 → AppK P uv (fun _ v => v = .int .u32 (n : Nat)) (uvE n)
  ap : ∀ (w0 w : World) (B o : Nat) (dv v : Value) (l : List UInt8) (m : List (Nat × List UInt8)), Mod [] w0 w → DRaw w w0.heap.size dv l → l.length + (tagsR (sortT m)).length ≤ lim → w0.cell? ⟨B, o, none⟩ = some v → TagM anyB w0 v m → m.length ≤ 2147483647 → (∀ p ∈ m, p.2.length ≤ 2147483647) →
    Calls P ap [.pointer (some ⟨B, o, none⟩), dv].toArray w fun e w' => ∃ dv', e = .returned dv' ∧ DRaw w' w0.heap.size dv' (l ++ tagsR (sortT m)) ∧ Mod [] w0 w'
def Ap.Ok (P : Program) (hf x : Bool) : Ap → Prop
  | .nil => True
  | .prm _ _ p a rest => (a.fx = true → hf = true) ∧ ApF P (a.sel x) p x ∧ rest.Ok P hf x
  | .uid _ f rest => (∀ u : List UInt8, u.length = 16 → AppK P f (fun _ v => v = .agg (u8s u).toArray) u) ∧ rest.Ok P hf x
  | .vst _ _ a1 a2 rest => (a1.fx = true → hf = true) ∧ (a2.fx = true → hf = true) ∧ ApF P (a1.sel x) .str x ∧ ApF P (a2.sel x) .nstr x ∧ rest.Ok P hf x
  | .lsp _ nul ln p a rest => (ln.fx = true → hf = true) ∧ (a.fx = true → hf = true) ∧ ApL P (ln.sel x) nul x ∧ ApF P (a.sel x) p x ∧ rest.Ok P hf x
  | .lss _ nul ln _ body rest => (ln.fx = true → hf = true) ∧ ApL P (ln.sel x) nul x ∧ body.Ok P hf x ∧ rest.Ok P hf x
  | .sub _ _ body rest => body.Ok P hf x ∧ rest.Ok P hf x
  | .tags ln uv ap => hf = true ∧ TgC P ln uv ap
theorem Rep.lst_inv {w : World} {isnil : Bool} {s : Nat} {es : List GV} {v : Value} (h : Rep [] w (.lst isnil s es) [v]) :
    ∃ base c css, v = .slice base es.length c ∧ isnil = base.isNone ∧ RepL [] w es css ∧ (∀ cs ∈ css, cs.length = s) ∧ (∀ a, base = some a → Cells w a css.flatten) ∧ (base = none → es = []) := by
  cases h with
  | lst0 => exact ⟨none, 0, [], rfl, rfl, .nil, by simp, by simp, fun _ => rfl⟩
  | lst1 h1 h2 h3 h4 h5 h6 h7 => exact ⟨some _, _, _, by rw [← h3], rfl, h6, h5, fun a ha => by cases ha; exact h7, by simp⟩
section
variable {P : Program}
attribute [local simp] gOk updo upd ev RK.val? isShift intBin Addr.add_mk args0 Value.cells undef
theorem ldA_wp {sp y t off B o : Nat} {σ : Sl} {w : World} {v : Value} {Q : Exit → Sl → World → Prop} (hs : σ sp = .pointer (some ⟨B, o, none⟩)) (hc : w.cell? ⟨B, o + off, none⟩ = some v) (_ly : y < t) (_ls : sp < t)
    (hQ : ∀ σ', (∀ j, j < t → j ≠ y → σ' j = σ j) → σ' y = v → Q .normal σ' w) : wpC P (ldF sp y t off) Q σ w := by
  unfold ldF
  rw [wpC_blk]
  refine go1 (v := .pointer (some ⟨B, o, none⟩)) rfl (by simp [hs]) ?_
  refine go1 (v := .pointer (some ⟨B, o, none⟩)) rfl (by simp) ?_
  refine go1 (v := .pointer (some ⟨B, o + off, none⟩)) rfl (by simp) ?_
  refine go1 (v := v) rfl (by simp [hc]) ?_
  refine go1 (v := v) rfl (by simp) (goEnd (hQ _ (fun j hj hne => ?_) (by simp)))
  simp only [updo, upd, hne, show j ≠ t by omega, show j ≠ t + 1 by omega, show j ≠ t + 2 by omega, show j ≠ t + 3 by omega, if_false]
theorem fld_wp {vc : VC} {f : Nat → IC} {w0 : World} {ver : Int} {hf x : Bool} {l e : List UInt8} {NV nv nt : Nat} {σ : Sl} {w : World} {Q : Exit → Sl → World → Prop} (hA : AS w0 ver hf x l σ w) (hnt : 6 < nt) (hnv : bse hf ≤ nv) (hnn : nv ≤ nt)
    (h1 : vc.holds ver = true → ∀ σ', Ag nt σ σ' → AS w0 ver hf x l σ' w → ∀ Q1 : Exit → Sl → World → Prop, (∀ σ1 w1, DRaw w1 w0.heap.size (σ1 1) (l ++ e) → Mod [] w0 w1 → Kp NV nv nt σ' σ1 → Q1 .normal σ1 w1) → wpC P (f (nt + vc.nt)) Q1 σ' w)
    (hQ : ∀ σ1 w1, AS w0 ver hf x (l ++ if vc.holds ver then e else []) σ1 w1 → Kp NV nv nt σ σ1 → Q .normal σ1 w1) : wpC P (vc.wrap E0 nt f) Q σ w := by
  have kap : ∀ {σ'}, Ag nt σ σ' → nv ≤ nt → Kp NV nv nt σ σ' := fun a hn j _ hj => a j (by omega)
  refine wrapA hA.v (by omega) (fun hv σ' a => ?_) fun hv σ' a => ?_
  · have ha : AS w0 ver hf x l σ' w := ⟨by rw [a 1 (by omega)]; exact hA.d, hA.m, by rw [a 5 (by omega)]; exact hA.v, fun e => by rw [a 6 (by omega)]; exact hA.x e⟩
    refine h1 hv σ' a ha _ fun σ1 w1 hd hm hk => hQ σ1 w1 ?_ ?_
    · rw [hv, if_pos rfl]; exact ha.keep hk hnv hd hm
    · intro j h1 h2
      rw [hk j h1 h2]
      by_cases hj : j < nt
      · exact a j hj
      · exfalso; omega
  · refine hQ σ' w ⟨by rw [hv]; simp only [Bool.false_eq_true, if_false, List.append_nil]; rw [a 1 (by omega)]; exact hA.d, hA.m, by rw [a 5 (by omega)]; exact hA.v, fun e => by rw [a 6 (by omega)]; exact hA.x e⟩ ?_
    intro j h1 h2
    by_cases hj : j < nt
    · exact a j hj
    · exfalso; omega
end
end Go.Msk

namespace Go.Msk
open Go.RowKit
set_option maxRecDepth 100000
theorem take_flat {α : Type} (f : α → List UInt8) {es : List α} {j : Nat} {y : α} (h : es[j]? = some y) : (es.take (j + 1)).flatMap f = (es.take j).flatMap f ++ f y := by
  rw [List.take_add_one, h]; simp
theorem take_flat_le {α : Type} (f : α → List UInt8) (es : List α) (j : Nat) : ((es.take j).flatMap f).length ≤ (es.flatMap f).length := by
  have : es.flatMap f = (es.take j).flatMap f ++ (es.drop j).flatMap f := by rw [← List.flatMap_append, List.take_append_drop]
  rw [this]; simp
section
variable {P : Program}
attribute [local simp] gOk updo upd ev RK.val? isShift intBin Addr.add_mk args0 Value.cells undef
def Ap.SoundAt (P : Program) (hf x : Bool) (ver : Int) (w0 : World) (NV : Nat) (ap : Ap) : Prop :=
  ∀ (gs : List GV) (css : List (List Value)) (sp off nv nt nb B o : Nat) (l : List UInt8) (σ : Sl) (w : World) (Q : Exit → Sl → World → Prop), ap.Fit ver gs → RepL [] w0 gs css → Cells w0 ⟨B, o + off, none⟩ css.flatten →
    σ sp = .pointer (some ⟨B, o, none⟩) → sp < nv → sp ≠ 1 → bse hf ≤ nv → nv + ap.nv ≤ NV → NV ≤ nt → AS w0 ver hf x l σ w → l.length + (ap.enc ver x gs).length ≤ lim →
    (∀ σ' w', AS w0 ver hf x (l ++ ap.enc ver x gs) σ' w' → Kp NV nv nt σ σ' → Q .normal σ' w') → wpL P (ap.gen sp off nv nt nb) Q σ w
variable {hf x : Bool} {ver : Int} {w0 : World} {NV : Nat}
theorem cons_wp {rest : Ap} (ih : rest.SoundAt P hf x ver w0 NV) {F : IC} {k m z nb' sp off nv nt B o : Nat} {r : List GV} {cs : List Value} {css : List (List Value)} {l e : List UInt8} {σ : Sl} {w : World} {Q : Exit → Sl → World → Prop}
    (hfit : rest.Fit ver r) (hr : RepL [] w0 r css) (hc : Cells w0 ⟨B, o + off, none⟩ (cs ++ css.flatten)) (hz : cs.length = z) (hs : σ sp = .pointer (some ⟨B, o, none⟩)) (h1 : sp < nv) (h2 : sp ≠ 1) (h3 : bse hf ≤ nv) (h4 : nv + k + rest.nv ≤ NV) (h5 : NV ≤ nt)
    (hl : l.length + (e ++ rest.enc ver x r).length ≤ lim)
    (hF : ∀ Q1 : Exit → Sl → World → Prop, (∀ σ1 w1, AS w0 ver hf x (l ++ e) σ1 w1 → Kp NV nv nt σ σ1 → Q1 .normal σ1 w1) → wpC P F Q1 σ w)
    (hQ : ∀ σ' w', AS w0 ver hf x (l ++ (e ++ rest.enc ver x r)) σ' w' → Kp NV nv nt σ σ' → Q .normal σ' w') : wpL P (F :: rest.gen sp (off + z) (nv + k) (nt + m) nb') Q σ w := by
  simp only [wpL]
  refine hF _ fun σ1 w1 ha hk => ?_
  simp only [thenC]
  simp only [List.length_append] at hl
  refine ih r css sp (off + z) (nv + k) (nt + m) nb' B o (l ++ e) σ1 w1 Q hfit hr ?_ ?_ (by omega) h2 (by omega) h4 (by omega) ha (by simp only [List.length_append]; omega) fun σ2 w2 ha2 hk2 => ?_
  · have := hc.app.2; rwa [hz, Nat.add_assoc] at this
  · rw [hk sp h2 (.inl h1)]; exact hs
  · exact hQ σ2 w2 (by rw [← List.append_assoc]; exact ha2) (hk.trans hk2 (Nat.le_refl _) (Nat.le_refl _) (by omega) (by omega))
theorem one_cell {g : GV} {cs : List Value} (h : Rep [] w0 g cs) (hw : g.wid = 1) : ∃ v, cs = [v] := by
  have := h.wid
  rw [hw] at this
  match cs, this with
  | [v], _ => exact ⟨v, rfl⟩
theorem bse6 {nv : Nat} (h : bse hf ≤ nv) : 6 ≤ nv ∧ (hf = true → 6 < nv) := by
  unfold bse at h
  cases hf <;> simp at h ⊢ <;> omega
theorem lst_wp {nul : Bool} {ln : AC} {nb nx sp off nv t T B o : Nat} {isnil : Bool} {s : Nat} {es : List GV} {v : Value} {f : GV → List UInt8} {body : List IC} {l : List UInt8} {σ : Sl} {w : World} {Q : Exit → Sl → World → Prop}
    (hln : ln.fx = true → hf = true) (hL : ApL P (ln.sel x) nul x) (hrep : Rep [] w0 (.lst isnil s es) [v]) (hn : es.length < 4294967295) (hc : w0.cell? ⟨B, o + off, none⟩ = some v) (hs : σ sp = .pointer (some ⟨B, o, none⟩)) (h1 : sp < nv) (h3 : bse hf ≤ nv) (hnv : nv + 3 ≤ NV) (h5 : NV ≤ t) (hA : AS w0 ver hf x l σ w)
    (hT : T = t + 4 + ln.lnt nul) (hnx : T + 5 ≤ nx) (hl : l.length + (encLen nul x isnil es.length ++ es.flatMap f).length ≤ lim)
    (hstep : ∀ (base : Addr) (c : Nat) (css : List (List Value)), RepL [] w0 es css → (∀ cs ∈ css, cs.length = s) → isnil = false → Cells w0 base css.flatten → ∀ j y σ1 w1, es[j]? = some y → AS w0 ver hf x (l ++ encLen nul x isnil es.length ++ (es.take j).flatMap f) σ1 w1 → (l ++ encLen nul x isnil es.length ++ (es.take j).flatMap f).length + (f y).length ≤ lim →
      σ1 nv = .slice (some base) es.length c → σ1 (nv + 1) = .int .i64 (j : Nat) → ∀ Q' : Exit → Sl → World → Prop,
      (∀ σ2 w2, AS w0 ver hf x (l ++ encLen nul x isnil es.length ++ (es.take (j + 1)).flatMap f) σ2 w2 → Kp NV (nv + 1) (T + 4) σ1 σ2 → Q' .normal σ2 w2) → wpL P body Q' σ1 w1)
    (hQ : ∀ σ' w', DRaw w' w0.heap.size (σ' 1) (l ++ (encLen nul x isnil es.length ++ es.flatMap f)) → Mod [] w0 w' → Kp NV nv t σ σ' → Q .normal σ' w') :
    wpC P (seqs (ldF sp nv t off :: ln.lgen nul (t + 4) nv :: lstA nv T nb nx body)) Q σ w := by
  obtain ⟨base, c, css, rfl, rfl, hre, hsz, hcells, hnone⟩ := hrep.lst_inv
  obtain ⟨h6, h6'⟩ := bse6 h3
  rw [wpC_seqs]
  simp only [wpL]
  simp only [List.length_append] at hl
  refine ldA_wp hs (cell_mod hc hA.m (by simp)) (by omega) (by omega) fun σ1 a1 v1 => ?_
  simp only [thenC]
  have hA1 : AS w0 ver hf x l σ1 w := hA.keep (NV := 0) (nt := 0) (nv := nv) (fun j _ hj => a1 j (by omega) (by omega)) h3 (by rw [a1 1 (by omega) (by omega)]; exact hA.d) hA.m
  refine AC.lgen_wp (x := x) (n0 := w0.heap.size) (w0 := w0) (l' := l ++ encLen nul x base.isNone es.length) (by omega) (by omega) (fun e => hA1.x (hln e)) v1 (hL w0 w (σ1 1) l es.length base.isNone hn hA1.m hA1.d (by omega)) fun σ2 w2 a2 hd2 hm2 => ?_
  simp only [thenC]
  have hA2 : AS w0 ver hf x (l ++ encLen nul x base.isNone es.length) σ2 w2 := hA1.keep (NV := 0) (nt := 0) (nv := nv) (fun j hj1 hj => a2 j hj1 (by omega)) h3 hd2 hm2
  have k2 : Kp NV nv t σ σ2 := fun j hj1 hj => (a2 j hj1 (by omega)).trans (a1 j (by omega) (by omega))
  have v2 : σ2 nv = .slice base es.length c := (a2 nv (by omega) (by omega)).trans v1
  refine lstA_wp (E := fun j => l ++ encLen nul x base.isNone es.length ++ (es.take j).flatMap f) (nv := nv) (NV := NV) hn v2 h3 rfl hnv (by omega) hnx (by simpa using hA2) (fun j σ3 w3 hj ha3 hk3 hi3 Q' hQ' => ?_) fun σ3 w3 ha3 hk3 => ?_
  · cases hb : base with
    | none => rw [hnone hb] at hj; simp at hj
    | some a =>
      subst hb
      have hy : es[j]? = some es[j] := List.getElem?_eq_getElem hj
      refine hstep a c css hre hsz rfl (hcells a rfl) j es[j] σ3 w3 hy ha3 ?_ ?_ hi3 Q' hQ'
      · have := take_flat_le f es (j + 1)
        rw [take_flat f hy, List.length_append] at this
        simp only [List.length_append]
        omega
      · rw [hk3 nv (by omega) (.inl (by omega))]; exact v2
  · refine hQ σ3 w3 ?_ ha3.m (k2.trans hk3 (Nat.le_refl _) (Nat.le_refl _) (by omega) (by omega))
    have := ha3.d
    simpa [List.append_assoc] using this
end
end Go.Msk

namespace Go.Msk
open Go.RowKit
set_option maxRecDepth 100000
section
variable {P : Program}
attribute [local simp] gOk updo upd ev RK.val? isShift intBin Addr.add_mk args0 Value.cells undef
variable {hf x : Bool} {ver : Int} {w0 : World} {NV : Nat}
theorem len_if {b : Bool} {l e r : List UInt8} (hl : l.length + ((if b = true then e else []) ++ r).length ≤ lim) (hb : b = true) : l.length + e.length ≤ lim := by
  rw [hb, if_pos rfl, List.length_append] at hl; omega
theorem Ap.sound (_hm : P.follows .mixedOrders = true) : ∀ ap : Ap, ap.Ok P hf x → ap.SoundAt P hf x ver w0 NV := by
  intro ap
  induction ap with
  | nil =>
    intro _ gs css sp off nv nt nb B o l σ w Q _ _ _ _ _ _ _ _ _ hA _ hQ
    refine hQ σ w ?_ (Kp.refl _)
    simpa [Ap.enc] using hA
  | prm vc cp p a rest ih =>
    rintro ⟨hx, hf1, hrest⟩ gs css sp off nv nt nb B o l σ w Q ⟨g, r, rfl, hw, hfit, hfr⟩ hrep hc hs h1 h2 h3 h4 h5 hA hl hQ
    cases hrep with
    | @cons _ _ cs css hg hr =>
    obtain ⟨v, rfl⟩ := one_cell hg hw
    obtain ⟨h6, h6'⟩ := bse6 h3
    simp only [Ap.nv] at h4
    simp only [Ap.enc] at hl hQ
    rw [List.flatten_cons] at hc
    have hnv : nv + 1 ≤ NV := by split at h4 <;> omega
    refine cons_wp (ih hrest) hfr hr hc rfl hs h1 h2 h3 (by omega) h5 hl (fun Q1 hQ1 => ?_) hQ
    refine fld_wp hA (by omega) h3 (by omega) (fun hv σ1 a1 ha1 Q2 hQ2 => ?_) hQ1
    obtain ⟨hfp, hpu⟩ := hfit hv
    have hl1 := len_if hl hv
    have hcell : w.cell? ⟨B, o + off, none⟩ = some v := cell_mod (by have := hc.app.1.head; exact this) ha1.m (by simp)
    rw [wpC_seqs]
    simp only [wpL]
    refine ldA_wp ((a1 sp (by omega)).trans hs) hcell (by omega) (by omega) fun σ2 a2 v2 => ?_
    simp only [thenC]
    have d2 : DRaw w w0.heap.size (σ2 1) l := by rw [a2 1 (by omega) (by omega)]; exact ha1.d
    cases cp with
    | false =>
      simp only [Bool.false_eq_true, if_false]
      refine AC.gen_wp (x := x) (n0 := w0.heap.size) (w0 := w0) (l' := l ++ encP p x g) (by omega) (by omega) (fun e => ?_) ?_ fun σ3 w3 a3 hd3 hm3 => hQ2 σ3 w3 hd3 hm3 fun j hj1 hj => ?_
      · have := h6' (hx e); rw [a2 6 (by omega) (by omega)]; exact ha1.x (hx e)
      · exact hf1 w0 w (σ2 1) (σ2 nv) l g hfp (by rw [v2]; exact hg) ha1.m d2 hl1
      · rw [a3 j hj1 (by omega), a2 j (by omega) (by omega)]
    | true =>
      simp only [if_true] at h4 ⊢
      simp only [wpL]
      refine cpF_wp (by omega) fun σ3 a3 v3 => ?_
      simp only [thenC]
      refine AC.gen_wp (x := x) (n0 := w0.heap.size) (w0 := w0) (l' := l ++ encP p x g) (by omega) (by omega) (fun e => ?_) ?_ fun σ4 w4 a4 hd4 hm4 => hQ2 σ4 w4 hd4 hm4 fun j hj1 hj => ?_
      · have := h6' (hx e); rw [a3 6 (by omega) (by omega), a2 6 (by omega) (by omega)]; exact ha1.x (hx e)
      · exact hf1 w0 w (σ3 1) (σ3 (nv + 1)) l g hfp (by rw [v3, v2]; exact hg) ha1.m (by rw [a3 1 (by omega) (by omega)]; exact d2) hl1
      · rw [a4 j hj1 (by omega), a3 j (by omega) (by omega), a2 j (by omega) (by omega)]
  | uid vc f rest ih =>
    rintro ⟨hf1, hrest⟩ gs css sp off nv nt nb B o l σ w Q ⟨g, r, rfl, hw, hfit, hfr⟩ hrep hc hs h1 h2 h3 h4 h5 hA hl hQ
    cases hrep with
    | @cons _ _ cs css hg hr =>
    obtain ⟨h6, h6'⟩ := bse6 h3
    simp only [Ap.nv] at h4
    simp only [Ap.enc] at hl hQ
    rw [List.flatten_cons] at hc
    have hcl : cs.length = 16 := hg.wid.trans hw
    refine cons_wp (ih hrest) hfr hr hc hcl hs h1 h2 h3 (by omega) h5 hl (fun Q1 hQ1 => ?_) hQ
    refine fld_wp hA (by omega) h3 (by omega) (fun hv σ1 a1 ha1 Q2 hQ2 => ?_) hQ1
    obtain ⟨u, rfl, hu⟩ := hfit hv
    have hl1 := len_if hl hv
    cases hg with
    | arr =>
    have hcw := cellsAt_of' (hc.app.1.mod ha1.m (.inr (by simp))) (show (u8s u).length = 16 by rw [u8s_length]; exact hu)
    generalize ht : nt + vc.nt = t
    have s1 : σ1 sp = .pointer (some ⟨B, o, none⟩) := (a1 sp (by omega)).trans hs
    rw [wpC_seq, wpC_blk]
    refine go1 (v := .pointer (some ⟨B, o, none⟩)) rfl (by simp [s1]) ?_
    refine go1 (v := .pointer (some ⟨B, o, none⟩)) rfl (by simp) ?_
    refine go1 (v := .pointer (some ⟨B, o + off, none⟩)) rfl (by simp) ?_
    refine go1 (v := .agg (u8s u).toArray) rfl (by simp [hcw]) ?_
    refine goAlloc fun w1 hb1 hm1 => ?_
    refine goSt (b := w.heap.size) (v := .agg (u8s u).toArray) (by simp) (by simp [show t + 3 ≠ nv by omega]) hb1 (by simp [u8s_length, hu]) (by simp [z16]) (by simp [u8s, Value.oneCell']) fun w2 hb2 hm2 => goEnd ?_
    simp only [thenC]
    have hb2' : Blk w2 w.heap.size (u8s u) := by simpa using hb2
    have hm02 : Mod [] w w2 := Mod.drop (b := w.heap.size) (S := []) (hm1.nil.trans hm2) (Nat.le_refl _)
    have hcw2 := cellsAt_of' hb2'.cells (show (u8s u).length = 16 by rw [u8s_length]; exact hu)
    have n1 : nv ≠ t := by omega
    have n2 : nv ≠ t + 4 := by omega
    have n3 : ¬ nv = 1 := by omega
    rw [wpC_blk]
    refine go1 (v := σ1 1) rfl (by simp [show t ≠ 0 by omega, show 1 ≠ nv by omega, show 1 ≠ t by omega]) ?_
    refine go1 (v := .agg (u8s u).toArray) rfl (by simp [n2, hcw2]) ?_
    refine goCall rfl (vs := [σ1 1, .agg (u8s u).toArray]) (by simp) (hf1 u hu w0 w2 (σ1 1) _ l (ha1.m.trans hm02) (ha1.d.keep' hm02) (by simpa [encP] using hl1) rfl) ?_
    rintro e w3 ⟨dv', rfl, hd3, hm3⟩
    refine ⟨dv', rfl, go1 (v := dv') rfl (by simp) (goEnd (hQ2 _ w3 (by simpa [encP] using hd3) hm3 fun j hj1 hj => ?_))⟩
    simp only [updo, upd, hj1, show j ≠ nv by omega, show j ≠ t by omega, show j ≠ t + 1 by omega, show j ≠ t + 2 by omega, show j ≠ t + 3 by omega, show j ≠ t + 4 by omega, show j ≠ t + 5 by omega, show j ≠ t + 6 by omega, if_false]
  | vst vc V a1 a2 rest ih =>
    rintro ⟨hx1, hx2, hf1, hf2, hrest⟩ gs css sp off nv nt nb B o l σ w Q ⟨g, r, rfl, hw, hfit, hfr⟩ hrep hc hs h1 h2 h3 h4 h5 hA hl hQ
    cases hrep with
    | @cons _ _ cs css hg hr =>
    obtain ⟨v, rfl⟩ := one_cell hg hw
    obtain ⟨h6, h6'⟩ := bse6 h3
    simp only [Ap.nv] at h4
    simp only [Ap.enc] at hl hQ
    rw [List.flatten_cons] at hc
    refine cons_wp (ih hrest) hfr hr hc rfl hs h1 h2 h3 (by omega) h5 hl (fun Q1 hQ1 => ?_) hQ
    refine fld_wp hA (by omega) h3 (by omega) (fun hv σ1 a1' ha1 Q2 hQ2 => ?_) hQ1
    have hfp := hfit hv
    have hl1 := len_if hl hv
    have hcell : w.cell? ⟨B, o + off, none⟩ = some v := cell_mod (by have := hc.app.1.head; exact this) ha1.m (by simp)
    generalize ht : nt + vc.nt = t
    unfold vstA
    rw [wpC_seqs]
    simp only [wpL]
    refine ldA_wp ((a1' sp (by omega)).trans hs) hcell (by omega) (by omega) fun σ2 a2' v2 => ?_
    simp only [thenC]
    have d2 : DRaw w w0.heap.size (σ2 1) l := by rw [a2' 1 (by omega) (by omega)]; exact ha1.d
    have e5 : σ2 5 = .int .i16 ver := by rw [a2' 5 (by omega) (by omega)]; exact ha1.v
    rw [wpC_blk]
    refine go1 (v := .int .i16 ver) rfl (by simp [e5]) ?_
    refine go1 (v := .bool (decide (ver < V))) rfl (by simp) (goEnd ?_)
    simp only [thenC]
    generalize hσ : updo _ (some (t + 5)) _ = σ3
    have a3' : ∀ j, j < t + 4 → σ3 j = σ2 j := fun j hj => by rw [← hσ]; simp only [updo, upd, show j ≠ t + 4 by omega, show j ≠ t + 5 by omega, if_false]
    have c3 : σ3 (t + 5) = .bool (decide (ver < V)) := by rw [← hσ]; simp only [updo, upd_same]
    clear hσ
    by_cases hlt : ver < V
    · rw [decide_eq_true hlt] at c3
      simp only [encV, if_pos hlt] at hl1 hQ2
      rw [wpC_cond_t (by simp only [ev, c3]), wpC_seqs]
      simp only [wpL]
      obtain ⟨og, rfl, hog⟩ := hfp
      simp only at hl1 hQ2
      rw [wpC_blk]
      refine go1 (v := .string .empty) rfl rfl (goEnd ?_)
      simp only [thenC]
      have key : ∀ (σ4 : Sl), (∀ j, j < t → j ≠ nv + 1 → σ4 j = σ2 j) → σ4 (nv + 1) = Msk.str (og.getD []) →
          wpL P (.blk [⟨some (t + 11), .mv (.tmp (nv + 1)), none⟩, ⟨some (nv + 2), .mv (.tmp (t + 11)), none⟩] :: a1.gen (t + 12) (nv + 2)) Q2 σ4 w := by
        intro σ4 a4 v4
        simp only [wpL]
        rw [wpC_blk]
        refine go1 (v := Msk.str (og.getD [])) rfl (by simp [v4]) ?_
        refine go1 (v := Msk.str (og.getD [])) rfl (by simp) (goEnd ?_)
        simp only [thenC]
        refine AC.gen_wp (x := x) (n0 := w0.heap.size) (w0 := w0) (l' := l ++ encP .str x (.num (Msk.str (og.getD [])))) (by omega) (by omega) (fun e => ?_) ?_ fun σ6 w6 a6 hd6 hm6 => hQ2 σ6 w6 hd6 hm6 fun j hj1 hj => ?_
        · have := h6' (hx1 e)
          simp only [updo, upd, show (6 : Nat) ≠ nv + 2 by omega, show (6 : Nat) ≠ t + 11 by omega, if_false]
          rw [a4 6 (by omega) (by omega), a2' 6 (by omega) (by omega)]; exact ha1.x (hx1 e)
        · refine hf1 w0 w _ _ l (.num (Msk.str (og.getD []))) ⟨_, rfl, ?_⟩ (by simp only [updo, upd_same]; exact .num rfl) ha1.m ?_ hl1
          · cases og with
            | none => simp
            | some s => exact hog s rfl
          · simp only [updo, upd, show (1 : Nat) ≠ nv + 2 by omega, show (1 : Nat) ≠ t + 11 by omega, if_false]
            rw [a4 1 (by omega) (by omega)]; exact d2
        · rw [a6 j hj1 (by omega)]
          simp only [updo, upd, show j ≠ nv + 2 by omega, show j ≠ t + 11 by omega, if_false]
          rw [a4 j (by omega) (by omega), a2' j (by omega) (by omega)]
      rw [wpC_seq, wpC_blk]
      have b3 : ∀ j, j < t → j ≠ nv + 1 → (updo σ3 (some (nv + 1)) (.string .empty)) j = σ2 j := fun j hj hne => by simp only [updo, upd, hne, if_false]; exact a3' j (by omega)
      have v3 : (updo σ3 (some (nv + 1)) (.string .empty)) nv = v := by rw [b3 nv (by omega) (by omega)]; exact v2
      have n3 : (updo σ3 (some (nv + 1)) (.string .empty)) (nv + 1) = .string .empty := by simp only [updo, upd_same]
      generalize updo σ3 (some (nv + 1)) (.string .empty) = σ4 at b3 v3 n3
      refine go1 (v := v) rfl (by simp [v3]) ?_
      cases hg with
      | nstr0 =>
        refine go1 (v := .bool false) rfl (by simp) (goEnd ?_)
        simp only [thenC]
        rw [wpC_cond_f (by simp), wpC_skip]
        simp only [thenC]
        simp only [show thenC (fun a b => Q2 .normal a b) Q2 = Q2 from thenC_same Q2]
        refine key _ (fun j hj hne => ?_) ?_
        · simp only [updo, upd, show j ≠ t + 6 by omega, show j ≠ t + 7 by omega, if_false]
          exact b3 j hj hne
        · simp only [updo, upd, show nv + 1 ≠ t + 6 by omega, show nv + 1 ≠ t + 7 by omega, if_false]
          exact n3
      | @nstr1 b sl hb0 hcb =>
        have hcb' : w.cell? ⟨b, 0, none⟩ = some (Msk.str sl) := cell_mod hcb ha1.m (by simp)
        refine go1 (v := .bool true) rfl (by simp) (goEnd ?_)
        simp only [thenC]
        rw [wpC_cond_t (by simp), wpC_blk]
        refine go1 (v := .pointer (some ⟨b, 0, none⟩)) rfl (by simp [show nv ≠ t + 6 by omega, show nv ≠ t + 7 by omega, v3]) ?_
        refine go1 (v := .pointer (some ⟨b, 0, none⟩)) rfl (by simp) ?_
        refine go1 (v := Msk.str sl) rfl (by simp [hcb']) ?_
        refine go1 (v := Msk.str sl) rfl (by simp) (goEnd ?_)
        simp only [thenC]
        simp only [show thenC (fun a b => Q2 .normal a b) Q2 = Q2 from thenC_same Q2]
        refine key _ (fun j hj hne => ?_) ?_
        · simp only [updo, upd, hne, show j ≠ t + 6 by omega, show j ≠ t + 7 by omega, show j ≠ t + 8 by omega, show j ≠ t + 9 by omega, show j ≠ t + 10 by omega, if_false]
          exact b3 j hj hne
        · simp only [updo, upd_same]; rfl
    · rw [decide_eq_false hlt] at c3
      simp only [encV, if_neg hlt] at hl1 hQ2
      rw [wpC_cond_f (by simp only [ev, c3]), wpC_seqs]
      refine AC.gen_wp (x := x) (n0 := w0.heap.size) (w0 := w0) (l' := l ++ encP .nstr x g) (by omega) (by omega) (fun e => ?_) ?_ fun σ6 w6 a6 hd6 hm6 => hQ2 σ6 w6 hd6 hm6 fun j hj1 hj => ?_
      · have := h6' (hx2 e)
        rw [a3' 6 (by omega), a2' 6 (by omega) (by omega)]; exact ha1.x (hx2 e)
      · refine hf2 w0 w _ _ l g hfp ?_ ha1.m ?_ hl1
        · rw [a3' nv (by omega), v2]; exact hg
        · rw [a3' 1 (by omega)]; exact d2
      · rw [a6 j hj1 (by omega), a3' j (by omega), a2' j (by omega) (by omega)]
  | lsp vc nul ln p a rest ih =>
    rintro ⟨hxl, hx, hL, hf1, hrest⟩ gs css sp off nv nt nb B o l σ w Q ⟨g, r, rfl, hw, hfit, hfr⟩ hrep hc hs h1 h2 h3 h4 h5 hA hl hQ
    cases hrep with
    | @cons _ _ cs css hg hr =>
    obtain ⟨v, rfl⟩ := one_cell hg hw
    obtain ⟨h6, h6'⟩ := bse6 h3
    simp only [Ap.nv] at h4
    simp only [Ap.enc] at hl hQ
    rw [List.flatten_cons] at hc
    refine cons_wp (ih hrest) hfr hr hc rfl hs h1 h2 h3 (by omega) h5 hl (fun Q1 hQ1 => ?_) hQ
    refine fld_wp hA (by omega) h3 (by omega) (fun hv σ1 a1 ha1 Q2 hQ2 => ?_) hQ1
    obtain ⟨⟨isnil, s, es, rfl, hsz, hn, hes⟩, hpu⟩ := hfit hv
    have hl1 := len_if hl hv
    have hcell : w0.cell? ⟨B, o + off, none⟩ = some v := hc.app.1.head
    refine lst_wp (NV := NV) (t := nt + vc.nt) (f := encP p x) (s := s) (isnil := isnil) (es := es) hxl hL hg hn hcell ((a1 sp (by omega)).trans hs) h1 h3 (by omega) (by omega) ha1 rfl (by omega) hl1 (fun base c css' hre hsz' hnil hcs j y σ2 w2 hy ha2 hl2 v2 i2 Q' hQ' => ?_) fun σ2 w2 hd2 hm2 hk2 => hQ2 σ2 w2 hd2 hm2 (fun j hj1 hj => hk2 j hj1 (by omega))
    have hs1 := hsz hnil
    subst hs1
    obtain ⟨cs, hcs1, hry⟩ := hre.nth hy
    have hcl := hsz' cs (List.mem_of_getElem? hcs1)
    obtain ⟨u, rfl⟩ : ∃ u, cs = [u] := by match cs, hcl with | [u], _ => exact ⟨u, rfl⟩
    obtain ⟨bb, bo, bs⟩ := base
    have eb : bs = none := hcs.1
    subst eb
    have hce := (hcs.each hsz' hcs1).head
    have hjl : j < es.length := (List.getElem?_eq_some_iff.1 hy).1
    generalize hT : nt + vc.nt + 4 + ln.lnt nul = T
    simp only [wpL]
    rw [wpC_blk]
    refine go1 (v := .slice (some ⟨bb, bo, none⟩) es.length c) rfl (by simp [v2]) ?_
    refine go1 (v := .int .i64 (j : Nat)) rfl (by simp [i2, show nv ≠ T + 4 by omega]) ?_
    refine go1 (v := .pointer (some ⟨bb, bo + j * 1, none⟩)) rfl (by simp [hjl]) ?_
    refine go1 (v := u) rfl (by simp only [RK.val?, ev, updo, upd, if_true]; exact cell_mod hce ha2.m (by simp)) ?_
    refine go1 (v := u) rfl (by simp) (goEnd ?_)
    simp only [thenC]
    have e3 : ∀ k, k < T + 5 → k ≠ nv + 2 → updo (updo (updo (updo (updo σ2 (some (T + 5)) (.slice (some ⟨bb, bo, none⟩) es.length c)) (some (T + 6)) (.int .i64 (j : Nat))) (some (T + 7)) (.pointer (some ⟨bb, bo + j * 1, none⟩))) (some (T + 8)) u) (some (nv + 2)) u k = σ2 k := fun k hk hk2 => by
      simp only [updo, upd, hk2, show k ≠ T + 5 by omega, show k ≠ T + 6 by omega, show k ≠ T + 7 by omega, show k ≠ T + 8 by omega, if_false]
    have e4 : updo (updo (updo (updo (updo σ2 (some (T + 5)) (.slice (some ⟨bb, bo, none⟩) es.length c)) (some (T + 6)) (.int .i64 (j : Nat))) (some (T + 7)) (.pointer (some ⟨bb, bo + j * 1, none⟩))) (some (T + 8)) u) (some (nv + 2)) u (nv + 2) = u := by simp
    generalize updo (updo (updo (updo (updo σ2 (some (T + 5)) (.slice (some ⟨bb, bo, none⟩) es.length c)) (some (T + 6)) (.int .i64 (j : Nat))) (some (T + 7)) (.pointer (some ⟨bb, bo + j * 1, none⟩))) (some (T + 8)) u) (some (nv + 2)) u = σ3 at e3 e4 ⊢
    refine AC.gen_wp (x := x) (n0 := w0.heap.size) (w0 := w0) (l' := l ++ encLen nul x isnil es.length ++ (es.take j).flatMap (encP p x) ++ encP p x y) (by omega) (by omega) (fun e => ?_) ?_ fun σ4 w4 a4 hd4 hm4 => hQ' σ4 w4 ?_ fun k hk1 hk => ?_
    · have := h6' (hx e); rw [e3 6 (by omega) (by omega)]; exact ha2.x (hx e)
    · exact hf1 w0 w2 (σ3 1) (σ3 (nv + 2)) _ y (hes y (List.mem_of_getElem? hy)) (by rw [e4]; exact hry) ha2.m (by rw [e3 1 (by omega) (by omega)]; exact ha2.d) hl2
    · rw [take_flat (encP p x) hy, ← List.append_assoc]
      refine ha2.keep (NV := 0) (nt := 0) (nv := nv) (fun k hk1 hk => ?_) h3 hd4 hm4
      rw [a4 k hk1 (by omega), e3 k (by omega) (by omega)]
    · rw [a4 k hk1 (by omega), e3 k (by omega) (by omega)]
  | lss vc nul ln sz body rest ihb ih =>
    rintro ⟨hxl, hL, hbody, hrest⟩ gs css sp off nv nt nb B o l σ w Q ⟨g, r, rfl, hw, hfit, hfr⟩ hrep hc hs h1 h2 h3 h4 h5 hA hl hQ
    cases hrep with
    | @cons _ _ cs css hg hr =>
    obtain ⟨v, rfl⟩ := one_cell hg hw
    obtain ⟨h6, h6'⟩ := bse6 h3
    simp only [Ap.nv] at h4
    simp only [Ap.enc] at hl hQ
    rw [List.flatten_cons] at hc
    refine cons_wp (ih hrest) hfr hr hc rfl hs h1 h2 h3 (by omega) h5 hl (fun Q1 hQ1 => ?_) hQ
    refine fld_wp hA (by omega) h3 (by omega) (fun hv σ1 a1 ha1 Q2 hQ2 => ?_) hQ1
    obtain ⟨isnil, s, es, rfl, hsz, hn, hes⟩ := hfit hv
    have hl1 := len_if hl hv
    have hcell : w0.cell? ⟨B, o + off, none⟩ = some v := hc.app.1.head
    refine lst_wp (NV := NV) (t := nt + vc.nt) (f := fun g => match g with | .rcd l => body.enc ver x l | _ => []) (s := s) (isnil := isnil) (es := es) hxl hL hg hn hcell ((a1 sp (by omega)).trans hs) h1 h3 (by omega) (by omega) ha1 rfl (by omega) hl1 (fun base c css' hre hsz' hnil hcs j y σ2 w2 hy ha2 hl2 v2 i2 Q' hQ' => ?_) fun σ2 w2 hd2 hm2 hk2 => hQ2 σ2 w2 hd2 hm2 (fun j hj1 hj => hk2 j hj1 (by omega))
    have hs1 := hsz hnil
    subst hs1
    obtain ⟨cs, hcs1, hry⟩ := hre.nth hy
    obtain ⟨ly, rfl, hfy⟩ := hes y (List.mem_of_getElem? hy)
    obtain ⟨bb, bo, bs⟩ := base
    have eb : bs = none := hcs.1
    subst eb
    have hce := hcs.each hsz' hcs1
    have hjl : j < es.length := (List.getElem?_eq_some_iff.1 hy).1
    cases hry with
    | @rcd _ cssy hry =>
    generalize hT : nt + vc.nt + 4 + ln.lnt nul = T
    simp only [wpL]
    rw [wpC_blk]
    refine go1 (v := .slice (some ⟨bb, bo, none⟩) es.length c) rfl (by simp [v2]) ?_
    refine go1 (v := .int .i64 (j : Nat)) rfl (by simp [i2, show nv ≠ T + 4 by omega]) ?_
    refine go1 (v := .pointer (some ⟨bb, bo + j * s, none⟩)) rfl (by simp [hjl]) ?_
    refine go1 (v := .pointer (some ⟨bb, bo + j * s, none⟩)) rfl (by simp) (goEnd ?_)
    simp only [thenC]
    have e3 : ∀ k, k < T + 5 → k ≠ nv + 2 → updo (updo (updo (updo σ2 (some (T + 5)) (.slice (some ⟨bb, bo, none⟩) es.length c)) (some (T + 6)) (.int .i64 (j : Nat))) (some (T + 7)) (.pointer (some ⟨bb, bo + j * s, none⟩))) (some (nv + 2)) (.pointer (some ⟨bb, bo + j * s, none⟩)) k = σ2 k := fun k hk hk2 => by
      simp only [updo, upd, hk2, show k ≠ T + 5 by omega, show k ≠ T + 6 by omega, show k ≠ T + 7 by omega, if_false]
    have e4 : updo (updo (updo (updo σ2 (some (T + 5)) (.slice (some ⟨bb, bo, none⟩) es.length c)) (some (T + 6)) (.int .i64 (j : Nat))) (some (T + 7)) (.pointer (some ⟨bb, bo + j * s, none⟩))) (some (nv + 2)) (.pointer (some ⟨bb, bo + j * s, none⟩)) (nv + 2) = .pointer (some ⟨bb, bo + j * s, none⟩) := by simp
    generalize updo (updo (updo (updo σ2 (some (T + 5)) (.slice (some ⟨bb, bo, none⟩) es.length c)) (some (T + 6)) (.int .i64 (j : Nat))) (some (T + 7)) (.pointer (some ⟨bb, bo + j * s, none⟩))) (some (nv + 2)) (.pointer (some ⟨bb, bo + j * s, none⟩)) = σ3 at e3 e4 ⊢
    refine ihb hbody ly cssy (nv + 2) 0 (nv + 3) (T + 8) (nb + 2) bb (bo + j * s) _ σ3 w2 Q' hfy hry (by simpa using hce) e4 (by omega) (by omega) (by omega) (by omega) (by omega)
      (ha2.keep (NV := 0) (nt := 0) (nv := nv) (fun k hk1 hk => e3 k (by omega) (by omega)) h3 (by rw [e3 1 (by omega) (by omega)]; exact ha2.d) ha2.m) hl2 fun σ4 w4 ha4 hk4 => hQ' σ4 w4 ?_ fun k hk1 hk => ?_
    · rw [take_flat _ hy, ← List.append_assoc]; exact ha4
    · rw [hk4 k hk1 (by omega), e3 k (by omega) (by omega)]
  | sub vc sz body rest ihb ih =>
    rintro ⟨hbody, hrest⟩ gs css sp off nv nt nb B o l σ w Q ⟨g, r, rfl, hw, hfit, hfr⟩ hrep hc hs h1 h2 h3 h4 h5 hA hl hQ
    cases hrep with
    | @cons _ _ cs css hg hr =>
    obtain ⟨h6, h6'⟩ := bse6 h3
    simp only [Ap.nv] at h4
    simp only [Ap.enc] at hl hQ
    rw [List.flatten_cons] at hc
    have hcl : cs.length = sz := hg.wid.trans hw
    refine cons_wp (ih hrest) hfr hr hc hcl hs h1 h2 h3 (by omega) h5 hl (fun Q1 hQ1 => ?_) hQ
    refine fld_wp hA (by omega) h3 (by omega) (fun hv σ1 a1 ha1 Q2 hQ2 => ?_) hQ1
    obtain ⟨ly, rfl, hfy⟩ := hfit hv
    have hl1 := len_if hl hv
    cases hg with
    | @rcd _ cssy hry =>
    have s1 : σ1 sp = .pointer (some ⟨B, o, none⟩) := (a1 sp (by omega)).trans hs
    generalize ht : nt + vc.nt = t
    rw [wpC_seqs]
    simp only [wpL]
    rw [wpC_blk]
    refine go1 (v := .pointer (some ⟨B, o, none⟩)) rfl (by simp [s1]) ?_
    refine go1 (v := .pointer (some ⟨B, o, none⟩)) rfl (by simp) ?_
    refine go1 (v := .pointer (some ⟨B, o + off, none⟩)) rfl (by simp) ?_
    refine go1 (v := .pointer (some ⟨B, o + off, none⟩)) rfl (by simp) (goEnd ?_)
    simp only [thenC]
    have e3 : ∀ k, k < t → k ≠ nv → updo (updo (updo (updo σ1 (some t) (.pointer (some ⟨B, o, none⟩))) (some (t + 1)) (.pointer (some ⟨B, o, none⟩))) (some (t + 2)) (.pointer (some ⟨B, o + off, none⟩))) (some nv) (.pointer (some ⟨B, o + off, none⟩)) k = σ1 k := fun k hk hk2 => by
      simp only [updo, upd, hk2, show k ≠ t by omega, show k ≠ t + 1 by omega, show k ≠ t + 2 by omega, if_false]
    have e4 : updo (updo (updo (updo σ1 (some t) (.pointer (some ⟨B, o, none⟩))) (some (t + 1)) (.pointer (some ⟨B, o, none⟩))) (some (t + 2)) (.pointer (some ⟨B, o + off, none⟩))) (some nv) (.pointer (some ⟨B, o + off, none⟩)) nv = .pointer (some ⟨B, o + off, none⟩) := by simp
    generalize updo (updo (updo (updo σ1 (some t) (.pointer (some ⟨B, o, none⟩))) (some (t + 1)) (.pointer (some ⟨B, o, none⟩))) (some (t + 2)) (.pointer (some ⟨B, o + off, none⟩))) (some nv) (.pointer (some ⟨B, o + off, none⟩)) = σ3 at e3 e4 ⊢
    refine ihb hbody ly cssy nv 0 (nv + 1) (t + 3) nb B (o + off) _ σ3 w Q2 hfy hry (by simpa using hc.app.1) e4 (by omega) (by omega) (by omega) (by omega) (by omega)
      (ha1.keep (NV := 0) (nt := 0) (nv := nv) (fun k hk1 hk => e3 k (by omega) (by omega)) h3 (by rw [e3 1 (by omega) (by omega)]; exact ha1.d) ha1.m) hl1 fun σ4 w4 ha4 hk4 => hQ2 σ4 w4 ha4.d ha4.m fun k hk1 hk => ?_
    rw [hk4 k hk1 (by omega), e3 k (by omega) (by omega)]
  | tags ln uv ap =>
    rintro ⟨hhf, hT⟩ gs css sp off nv nt nb B o l σ w Q ⟨g, rfl, m, rfl, hml, hmv⟩ hrep hc hs h1 h2 h3 h4 h5 hA hl hQ
    cases hrep with
    | @cons _ _ cs css hg hr =>
    cases hr
    obtain ⟨h6, h6'⟩ := bse6 h3
    have h6 := h6' hhf
    simp only [Ap.enc] at hl hQ
    have hTM : ∃ v, cs = [v] ∧ TagM anyB w0 v m := by
      cases hg with
      | tag0 => exact ⟨_, rfl, .inl ⟨rfl, rfl⟩⟩
      | tag1 _ h => exact ⟨_, rfl, .inr ⟨_, rfl, h.mod (Mod.refl [] _) (by simp) (by simp) fun _ _ _ => trivial⟩⟩
    obtain ⟨v, rfl, hM⟩ := hTM
    have hc0 : w0.cell? ⟨B, o + off, none⟩ = some v := by simpa using hc.head
    simp only [Ap.gen, wpL]
    rw [wpC_seq]
    refine mv6_wp (hA.x hhf) fun σ1 a1 e1 => ?_
    simp only [thenC]
    cases x with
    | false =>
      rw [wpC_cond_f (show ev σ1 (.tmp nt) = _ from e1), wpC_skip]
      refine hQ σ1 w ?_ fun j hj1 hj => a1 j (by omega)
      simpa using hA.keep (NV := 0) (nt := 0) (nv := nv) (fun j _ hj => a1 j (by omega)) h3 (by rw [a1 1 (by omega)]; exact hA.d) hA.m
    | true =>
      simp only [if_true] at hl hQ
      simp only [List.length_append] at hl
      rw [wpC_cond_t (show ev σ1 (.tmp nt) = _ from e1)]
      have s1 : σ1 sp = .pointer (some ⟨B, o, none⟩) := (a1 sp (by omega)).trans hs
      have d1 : DRaw w w0.heap.size (σ1 1) l := by rw [a1 1 (by omega)]; exact hA.d
      have hm1 : TagM anyB w v m := by
        rcases hM with h | ⟨r, e, h⟩
        · exact .inl h
        · exact .inr ⟨r, e, h.mod hA.m (by simp) (by simp) fun _ _ _ => trivial⟩
      rw [wpC_seq, wpC_blk]
      refine go1 (v := σ1 1) rfl (by simp) ?_
      refine go1 (v := .pointer (some ⟨B, o, none⟩)) rfl (by simp [s1, show sp ≠ nt + 1 by omega]) ?_
      refine go1 (v := .pointer (some ⟨B, o, none⟩)) rfl (by simp) ?_
      refine go1 (v := .pointer (some ⟨B, o + off, none⟩)) rfl (by simp) ?_
      refine goCall rfl (vs := [.pointer (some ⟨B, o + off, none⟩)]) (by simp) (hT.ln w B (o + off) v m (cell_mod hc0 hA.m (by simp)) hm1) ?_
      rintro e w1 ⟨rfl, e2⟩
      subst e2
      refine ⟨_, rfl, ?_⟩
      refine go1 (v := .int .u32 (m.length : Nat)) rfl (by simp [u32_nat (n := m.length) (by omega)]) ?_
      refine go1 (v := .int .u32 (m.length : Nat)) rfl (by simp [u32_nat (n := m.length) (by omega)]) ?_
      refine goCall rfl (vs := [σ1 1, .int .u32 (m.length : Nat)]) (by simp) (hT.uv m.length (by omega) w0 w1 (σ1 1) _ l hA.m d1 (by omega) rfl) ?_
      rintro e w2 ⟨dv2, rfl, hd2, hm2⟩
      refine ⟨dv2, rfl, go1 (v := dv2) rfl (by simp) (goEnd ?_)⟩
      simp only [thenC]
      rw [wpC_blk]
      refine go1 (v := .pointer (some ⟨B, o, none⟩)) rfl (by simp [s1, h2, show sp ≠ nt + 1 by omega, show sp ≠ nt + 2 by omega, show sp ≠ nt + 3 by omega, show sp ≠ nt + 4 by omega, show sp ≠ nt + 5 by omega, show sp ≠ nt + 6 by omega, show sp ≠ nt + 7 by omega, show sp ≠ nt + 8 by omega]) ?_
      refine go1 (v := .pointer (some ⟨B, o, none⟩)) rfl (by simp) ?_
      refine go1 (v := .pointer (some ⟨B, o + off, none⟩)) rfl (by simp) ?_
      refine go1 (v := dv2) rfl (by simp []) ?_
      refine goCall rfl (vs := [.pointer (some ⟨B, o + off, none⟩), dv2]) (by simp) (hT.ap w0 w2 B (o + off) dv2 v (l ++ uvE m.length) m hm2 hd2 (by simp only [List.length_append]; omega) hc0 hM hml hmv) ?_
      rintro e w3 ⟨dv3, rfl, hd3, hm3⟩
      refine ⟨dv3, rfl, go1 (v := dv3) rfl (by simp) (goEnd ?_)⟩
      have fin : ∀ σ', σ' 1 = dv3 → (∀ j, j ≠ 1 → j < nt → σ' j = σ1 j) → Q .normal σ' w3 := fun σ' g1 g2 => by
        have kf : Kp NV nv nt σ σ' := fun j hj1 hj => (g2 j hj1 (by omega)).trans (a1 j (by omega))
        exact hQ σ' w3 (hA.keep kf h3 (by rw [g1]; simpa [List.append_assoc] using hd3) hm3) kf
      exact fin _ (by simp) fun j hj1 hj => by
        simp only [updo, upd, hj1, show j ≠ nt + 1 by omega, show j ≠ nt + 2 by omega, show j ≠ nt + 3 by omega, show j ≠ nt + 4 by omega, show j ≠ nt + 5 by omega, show j ≠ nt + 6 by omega, show j ≠ nt + 7 by omega, show j ≠ nt + 8 by omega, show j ≠ nt + 9 by omega, show j ≠ nt + 10 by omega, show j ≠ nt + 11 by omega, show j ≠ nt + 12 by omega, show j ≠ nt + 13 by omega, if_false]
end
end Go.Msk

namespace Go.Msk
open Go.RowKit
set_option maxRecDepth 100000
def ATop.x (T : ATop) (ver : Int) : Bool := match T.flex with | some n => decide (ver ≥ n) | none => false
section
variable {P : Program} {f : FuncId}
attribute [local simp] gOk updo upd ev RK.val? isShift intBin Addr.add_mk args0 Value.cells undef
theorem ATop.call {T : ATop} (hm : P.follows .mixedOrders = true) (h : liftF P f = some T.gen) {ver : Int} (hok : T.ap.Ok P T.flex.isSome (T.x ver)) {w0 w : World} {B : Nat} {gs : List GV} {css : List (List Value)} {dv : Value} {l : List UInt8}
    (hc : Cells w0 ⟨B, 0, none⟩ (.int .i16 ver :: css.flatten)) (hr : RepL [] w0 gs css) (hfit : T.ap.Fit ver gs) (hm0 : Mod [] w0 w) (hd : DRaw w w0.heap.size dv l) (hl : l.length + (T.ap.enc ver (T.x ver) gs).length ≤ lim) :
    Calls P f [.pointer (some ⟨B, 0, none⟩), dv].toArray w fun e w' => ∃ dv', e = .returned dv' ∧ DRaw w' w0.heap.size dv' (l ++ T.ap.enc ver (T.x ver) gs) ∧ Mod [] w0 w' := by
  unfold ATop.gen at h
  have hn0 : T.n0 = bse T.flex.isSome := by unfold ATop.n0 bse; rfl
  have hb6 : 6 ≤ T.n0 := by unfold ATop.n0; split <;> omega
  have ht0 : T.t0 = T.n0 + T.ap.nv := rfl
  have htf : T.t0 + 5 ≤ T.tf := by unfold ATop.tf; omega
  refine call_of h hm (by simp only [List.length_cons, List.length_nil]; omega) ?_
  rw [wpC_seqs]
  simp only [List.cons_append, List.nil_append, wpL]
  rw [wpC_blk]
  refine go1 (v := .slice none 0 0) rfl (by simp) (goEnd ?_)
  simp only [thenC]
  have s0 : ∀ k, k ≠ 4 → updo (args0 [.pointer (some ⟨B, 0, none⟩), dv]) (some 4) (.slice none 0 0) k = args0 [.pointer (some ⟨B, 0, none⟩), dv] k := fun k hk => by simp only [updo, upd, hk, if_false]
  have e0 : args0 [.pointer (some ⟨B, 0, none⟩), dv] 0 = .pointer (some ⟨B, 0, none⟩) := rfl
  have e1 : args0 [.pointer (some ⟨B, 0, none⟩), dv] 1 = dv := rfl
  generalize updo (args0 [.pointer (some ⟨B, 0, none⟩), dv]) (some 4) (.slice none 0 0) = σ0 at s0 ⊢
  have e0 : σ0 0 = .pointer (some ⟨B, 0, none⟩) := (s0 0 (by omega)).trans e0
  have e1 : σ0 1 = dv := (s0 1 (by omega)).trans e1
  refine ldA_wp (B := B) (o := 0) (v := .int .i16 ver) e0 (cell_mod hc.head hm0 (by simp)) (by omega) (by omega) fun σ1 a1 v1 => ?_
  simp only [thenC]
  refine mvF_wp fun σ2 a2 => ?_
  simp only [thenC]
  rw [wpL_append]
  have key : ∀ σ3, (∀ j, j < T.t0 → j ≠ 6 → σ3 j = σ2 j) → (T.flex.isSome = true → σ3 6 = .bool (T.x ver)) → wpL P (T.ap.gen 0 1 T.n0 T.tf 0 ++ [.blk [⟨some (T.tf + T.ap.nt), .mv (.tmp 1), none⟩, ⟨some 4, .mv (.tmp (T.tf + T.ap.nt)), none⟩], .ret])
      (postC [.tmp 4] fun e w' => ∃ dv', e = .returned dv' ∧ DRaw w' w0.heap.size dv' (l ++ T.ap.enc ver (T.x ver) gs) ∧ Mod [] w0 w') σ3 w := by
    intro σ3 a3 h6
    have f0 : σ3 0 = .pointer (some ⟨B, 0, none⟩) := by rw [a3 0 (by omega) (by omega), a2 0 (by omega), a1 0 (by omega) (by omega)]; exact e0
    have f1 : σ3 1 = dv := by rw [a3 1 (by omega) (by omega), a2 1 (by omega), a1 1 (by omega) (by omega)]; exact e1
    have f5 : σ3 5 = .int .i16 ver := by rw [a3 5 (by omega) (by omega), a2 5 (by omega)]; exact v1
    rw [wpL_append]
    have hcc : Cells w0 ⟨B, 0 + 1, none⟩ css.flatten := (Cells.app (a := [.int .i16 ver]) hc).2
    refine T.ap.sound (NV := T.t0) hm hok gs css 0 1 T.n0 T.tf 0 B 0 l σ3 w _ hfit hr hcc f0 (by omega) (by omega) (by omega) (by omega) (by omega) ⟨by rw [f1]; exact hd, hm0, f5, h6⟩ hl fun σ4 w4 ha4 _ => ?_
    simp only [thenC, wpL]
    rw [wpC_blk]
    refine go1 (v := σ4 1) rfl (by simp) ?_
    refine go1 (v := σ4 1) rfl (by simp) (goEnd ?_)
    simp only [thenC]
    refine retThen ?_
    exact ret1 (v := σ4 1) (by simp) ⟨_, rfl, ha4.d, ha4.m⟩
  have h25 : σ2 5 = .int .i16 ver := by rw [a2 5 (by omega)]; exact v1
  cases hfl : T.flex with
  | none =>
    rw [hfl] at key
    exact key σ2 (fun _ _ _ => rfl) (by simp)
  | some n =>
    rw [hfl] at key
    have hx : T.x ver = decide (ver ≥ n) := by unfold ATop.x; rw [hfl]
    simp only [wpL]
    rw [wpC_blk]
    refine go1 (v := .int .i16 ver) rfl (by simp [h25]) ?_
    refine go1 (v := .bool (decide (ver ≥ n))) rfl (by simp) ?_
    refine go1 (v := .bool (decide (ver ≥ n))) rfl (by simp) (goEnd ?_)
    simp only [thenC]
    rw [wpC_blk]
    refine go1 (v := .bool (decide (ver ≥ n))) rfl (by simp) (goEnd ?_)
    simp only [thenC]
    refine key _ (fun j hj hj6 => ?_) fun _ => ?_
    · simp only [updo, upd, hj6, show j ≠ T.t0 + 5 by omega, show j ≠ T.t0 + 6 by omega, show j ≠ T.t0 + 7 by omega, if_false]
    · simp only [updo, upd, show 6 ≠ T.t0 + 7 by omega, if_false, if_true, hx]
end
end Go.Msk

namespace Go.Msk
open Go.RowKit
set_option maxRecDepth 100000
section
variable {P : Program} {F : Nat → Nat}
attribute [local simp] gOk updo upd ev RK.val? isShift intBin Addr.add_mk args0 Value.cells undef
def lenReg (F : Nat → Nat) : List DI := [⟨⟨some 52, .mv (.tmp 1), none⟩, false, []⟩, ⟨⟨some 53, .slice (.tmp 52) none (some (.const (.int .i64 0))) none 1, none⟩, false, []⟩, ⟨⟨some 54, .mv (.tmp 1), none⟩, false, []⟩,
  ⟨⟨some 55, .slice (.tmp 54) (some (.const (.int .i64 4))) none none 1, none⟩, false, []⟩, ⟨⟨some 56, .len (.tmp 55), none⟩, false, []⟩, ⟨⟨some 57, .conv .i32 (.tmp 56), none⟩, false, []⟩, ⟨⟨some 58, .call (F kAppendInt32) [.tmp 53, .tmp 57], none⟩, true, []⟩]
theorem len_reg (hm : P.follows .mixedOrders = true) (h32 : liftF P (F kAppendInt32) = some (ir_kAppendInt32 F)) (hu32 : liftF P (F kAppendUint32) = some (ir_kAppendUint32 F)) {w : World} {σ : Sl} {dv : Value} {l : List UInt8} {n0 : Nat} {Q : Sl → World → Prop}
    (h1 : σ 1 = dv) (hd : DRaw w n0 dv l) (hn0 : n0 ≤ w.heap.size) (hl : 4 ≤ l.length)
    (hQ : ∀ σ' w', σ' 1 = dv → DRaw w' n0 dv (beI 4 ((l.length - 4 : Nat) : Int) ++ l.drop 4) → (∃ b, n0 ≤ b ∧ Mod [b] w w') → Q σ' w') : wpC P (.drw (lenReg F) []) (fun e σ w => match e with | .normal => Q σ w | _ => False) σ w := by
  rcases hd.sl with ⟨-, rfl⟩ | ⟨B, cap, rest, rfl, h2, h3, h4, hr⟩
  · simp at hl
  simp only [wpC]
  have hmd : Mod [] w w.drew := Mod.drew [] w
  have hb := h4.mod hmd (by simp)
  generalize w.drew = wd at hmd hb ⊢
  have hel : beI 4 ((IntKind.i32.wrap ((l.length - 4 : Nat) : Int))) = beI 4 ((l.length - 4 : Nat) : Int) := beI_mod 4 _ _ (by simp only [IntKind.wrap, IntKind.bits, IntKind.signed]; simp; omega)
  refine wpD_of_R [B] (fun w' => Blk w' B (u8s (beI 4 ((l.length - 4 : Nat) : Int) ++ l.drop 4) ++ rest)) (fun w' => Blk w' B (u8s l ++ rest)) 6
    (fun i v w' => if i = 6 then Blk w' B (u8s (beI 4 ((l.length - 4 : Nat) : Int) ++ l.drop 4) ++ rest) else True) (by
      intro i v w w' h hm hg
      split at h
      · rename_i hi; rw [if_pos hi]; exact hg h
      · rename_i hi; rw [if_neg hi]; trivial) hb ?_
  unfold lenReg
  refine wn_step (v := .slice (some ⟨B, 0, none⟩) l.length cap) (fun w1 h1' => by simp [h1]) ?_
  refine wn_step (v := .slice (some ⟨B, 0, none⟩) 0 cap) (fun w1 h1' => by simp [bnd]) ?_
  refine wn_step (v := .slice (some ⟨B, 0, none⟩) l.length cap) (fun w1 h1' => by simp [h1]) ?_
  refine wn_step (v := .slice (if cap = 4 then some ⟨B, 0, none⟩ else some ⟨B, 4, none⟩) (l.length - 4) (cap - 4)) (fun w1 h1' => by
    simp only [RK.val?, ev, updo, upd, if_true, bnd]
    rw [if_pos ⟨by omega, by omega, by omega, by omega⟩]
    have e4 : (cap : Int).toNat = cap := by omega
    have e5 : (4 : Int).toNat = 4 := rfl
    have e6 : (l.length : Int).toNat = l.length := by omega
    simp [e4, e5, e6]) ?_
  refine wn_step (v := .int .i64 ((l.length - 4 : Nat) : Int)) (fun w1 h1' => by simp) ?_
  refine wn_step (v := .int .i32 (IntKind.i32.wrap ((l.length - 4 : Nat) : Int))) (fun w1 h1' => by simp) ?_
  refine wn_node (fun w1 h1' hN hkn => ?_) ?_
  · simp only [RK.run]
    have e : (List.map (ev (updo (updo (updo (updo (updo (updo σ (some 52) (.slice (some ⟨B, 0, none⟩) l.length cap)) (some 53) (.slice (some ⟨B, 0, none⟩) 0 cap)) (some 54) (.slice (some ⟨B, 0, none⟩) l.length cap)) (some 55) (.slice (if cap = 4 then some ⟨B, 0, none⟩ else some ⟨B, 4, none⟩) (l.length - 4) (cap - 4))) (some 56) (.int .i64 ((l.length - 4 : Nat) : Int))) (some 57) (.int .i32 (IntKind.i32.wrap ((l.length - 4 : Nat) : Int))))) [.tmp 53, .tmp 57]) = [.slice (some ⟨B, 0, none⟩) 0 cap, .int .i32 (IntKind.i32.wrap ((l.length - 4 : Nat) : Int))] := by simp
    rw [e]
    refine (kAppendInt32_in hm h32 hu32 (hN rfl) hl (by omega)).mono ?_
    rintro e w2 ⟨⟨v, rfl⟩, hb2, hm2⟩
    rw [hel] at hb2
    refine ⟨v, rfl, ⟨hm2, fun _ => hb2⟩, by simpa using hb2, fun j hj _ hj2 => absurd hj2 hj⟩
  rintro v -
  intro w5 hm5 hkn
  have hk := known_get (j := 6) (t := 58) (d := ⟨⟨some 58, .call (F kAppendInt32) [.tmp 53, .tmp 57], none⟩, true, []⟩) hkn (by simp) rfl rfl rfl rfl
  rw [if_pos rfl] at hk
  refine goEnd (hQ _ w5 (by simp [h1]) ⟨.inr ⟨B, cap, rest, ?_, ?_, h3, hk, ?_⟩⟩ ⟨B, h3, hmd.nil.trans hm5.1⟩)
  all_goals simp only [List.length_append, beI_length, List.length_drop]
  · congr 1; omega
  · omega
  · omega
def frameR (key ver num : Int) (o : Option (List UInt8)) (flex : Bool) (body : List UInt8) : List UInt8 := beI 2 key ++ beI 2 ver ++ beI 4 num ++ encNStr false o ++ (if flex then [0] else []) ++ body
def frameP (key ver num : Int) (o : Option (List UInt8)) (flex : Bool) (body : List UInt8) : List UInt8 := beI 4 ((frameR key ver num o flex body).length : Int) ++ frameR key ver num o flex body
structure ReqC (P : Program) (T : TypeId) (rv : Value) (w0 : World) (key ver : Int) (flex : Bool) (body : List UInt8) : Prop where
  k : ∃ f, methOf P T "Key" = some f ∧ hasBody P f = true ∧ ∀ w, Mod [] w0 w → Calls P f [rv].toArray w fun e w' => e = .returned (.int .i16 key) ∧ Mod [] w w'
  v : ∃ f, methOf P T "GetVersion" = some f ∧ hasBody P f = true ∧ ∀ w, Mod [] w0 w → Calls P f [rv].toArray w fun e w' => e = .returned (.int .i16 ver) ∧ Mod [] w w'
  x : ∃ f, methOf P T "IsFlexible" = some f ∧ hasBody P f = true ∧ ∀ w, Mod [] w0 w → Calls P f [rv].toArray w fun e w' => e = .returned (.bool flex) ∧ Mod [] w w'
  a : ∃ f, methOf P T "AppendTo" = some f ∧ hasBody P f = true ∧ ∀ w dv l, Mod [] w0 w → DRaw w w0.heap.size dv l → l.length + body.length ≤ lim →
    Calls P f [rv, dv].toArray w fun e w' => ∃ dv', e = .returned dv' ∧ DRaw w' w0.heap.size dv' (l ++ body) ∧ Mod [] w0 w'
theorem fmtReq_call (hm : P.follows .mixedOrders = true) (h : liftF P (F kFmtReq) = some (ir_kFmtReq F)) (h16 : liftF P (F kAppendInt16) = some (ir_kAppendInt16 F)) (hu16 : liftF P (F kAppendUint16) = some (ir_kAppendUint16 F))
    (h32 : liftF P (F kAppendInt32) = some (ir_kAppendInt32 F)) (hu32 : liftF P (F kAppendUint32) = some (ir_kAppendUint32 F)) (hns : liftF P (F kAppendNullableString) = some (ir_kAppendNullableString F)) (hs : liftF P (F kAppendString) = some (ir_kAppendString F))
    {w0 : World} {B : Nat} {p : Value} {T : TypeId} {rv : Value} {key ver num : Int} {flex : Bool} {body : List UInt8} {o : Option (List UInt8)} (hb : Blk w0 B [p]) (hp : NStr o w0 p) (hR : ReqC P T rv w0 key ver flex body) (hk7 : key ≠ 7)
    (hlen : (frameP key ver num o flex body).length ≤ lim) :
    Calls P (F kFmtReq) [.pointer (some ⟨B, 0, none⟩), .slice none 0 0, .iface T rv, .int .i32 num].toArray w0 fun e w' => ∃ dv, e = .returned dv ∧ DRaw w' w0.heap.size dv (frameP key ver num o flex body) ∧ Mod [] w0 w' := by
  obtain ⟨fk, mk, bk, ck⟩ := hR.k
  obtain ⟨fv, mv, bv, cv⟩ := hR.v
  obtain ⟨fx, mx, bx, cx⟩ := hR.x
  obtain ⟨fa, ma, ba, ca⟩ := hR.a
  unfold ir_kFmtReq at h
  refine call_of h hm (by simp) ?_
  clear h
  simp only [frameP, frameR, List.length_append, beI_length] at hlen
  rw [wpC_seq, wpC_blk]
  refine go1 (v := .slice none 0 0) rfl (by simp) (goEnd ?_)
  simp only [thenC]
  rw [wpC_seq, wpC_blk]
  refine go1 (v := .slice none 0 0) rfl (by simp) ?_
  refine goC rfl (bsliceB_run (bs := [0, 0, 0, 0]) (by simp [fillL, zrep, splice, u8s]) rfl fun u w1 hu hm1 => ?_)
  refine goC rfl (append_run (n0 := w0.heap.size) (v := .slice none 0 0) (l := []) (k := [0, 0, 0, 0]) (by simp) ⟨.inl ⟨rfl, rfl⟩⟩ hm1.size (by simpa using hu) (by simp [lim]) fun d2 w2 ha2 => ?_)
  have hm2 := ha2.mod0 (DRaw.nil w1 _) hm1
  have hd2 := ha2.raw
  simp only [List.nil_append] at hd2
  refine go1 (v := d2) rfl (by simp) (goEnd ?_)
  simp only [thenC]
  generalize hσ : updo _ (some 1) _ = σ
  have s0 : σ 0 = .pointer (some ⟨B, 0, none⟩) := by rw [← hσ]; simp
  have s1 : σ 1 = d2 := by rw [← hσ]; simp
  have s2 : σ 2 = .iface T rv := by rw [← hσ]; simp
  have s3 : σ 3 = .int .i32 num := by rw [← hσ]; simp
  clear hσ ha2 hu
  -- the key
  rw [wpC_seq, wpC_blk]
  refine go1 (v := .iface T rv) rfl (by simp [s2]) ?_
  refine goInvk (vs := []) rfl (by simp) mk bk rfl (ck w2 hm2) ?_
  rintro e w3 ⟨rfl, hm3⟩
  refine ⟨_, rfl, go1 (v := .int .i16 key) rfl (by simp) (goEnd ?_)⟩
  simp only [thenC]
  -- the version
  rw [wpC_seq, wpC_blk]
  refine go1 (v := .iface T rv) rfl (by simp [s2]) ?_
  refine goInvk (vs := []) rfl (by simp) mv bv rfl (cv w3 (hm2.trans hm3)) ?_
  rintro e w4 ⟨rfl, hm4⟩
  refine ⟨_, rfl, go1 (v := .int .i16 ver) rfl (by simp) (goEnd ?_)⟩
  simp only [thenC]
  have hd4 := hd2.keep (hm3.trans hm4)
  have hm04 := (hm2.trans hm3).trans hm4
  clear hd2 hm1 hm2 hm3 hm4
  -- both appended
  rw [wpC_seq, wpC_blk]
  refine go1 (v := d2) rfl (by simp [s1]) ?_
  refine go1 (v := .int .i16 key) rfl (by simp) ?_
  refine goCall rfl (vs := [d2, .int .i16 key]) (by simp) ((AppC.k (kAppendInt16_call (n := key) hm h16 hu16) fun _ _ _ h => h) w0 w4 d2 _ _ hm04 hd4 (by simp [beI_length, lim]) rfl) ?_
  rintro e w5 ⟨d5, rfl, hd5, hm5⟩
  refine ⟨_, rfl, go1 (v := d5) rfl (by simp) (goEnd ?_)⟩
  simp only [thenC]
  rw [wpC_seq, wpC_blk]
  refine go1 (v := d5) rfl (by simp) ?_
  refine go1 (v := .int .i16 ver) rfl (by simp) ?_
  refine goCall rfl (vs := [d5, .int .i16 ver]) (by simp) ((AppC.k (kAppendInt16_call (n := ver) hm h16 hu16) fun _ _ _ h => h) w0 w5 d5 _ _ hm5 hd5 (by simp [beI_length, lim]) rfl) ?_
  rintro e w6 ⟨d6, rfl, hd6, hm6⟩
  refine ⟨_, rfl, go1 (v := d6) rfl (by simp) (goEnd ?_)⟩
  simp only [thenC]
  -- the number
  rw [wpC_seq, wpC_blk]
  refine go1 (v := d6) rfl (by simp) ?_
  refine go1 (v := .int .i32 num) rfl (by simp [s3]) ?_
  refine goCall rfl (vs := [d6, .int .i32 num]) (by simp) ((AppC.k (kAppendInt32_call (n := num) hm h32 hu32) fun _ _ _ h => h) w0 w6 d6 _ _ hm6 hd6 (by simp [beI_length, lim]) rfl) ?_
  rintro e w7 ⟨d7, rfl, hd7, hm7⟩
  refine ⟨_, rfl, go1 (v := d7) rfl (by simp) (goEnd ?_)⟩
  simp only [thenC]
  generalize hσ : updo _ (some 1) _ = σ1
  have t0 : σ1 0 = .pointer (some ⟨B, 0, none⟩) := by rw [← hσ]; simp [s0]
  have t1 : σ1 1 = d7 := by rw [← hσ]; simp
  have t2 : σ1 2 = .iface T rv := by rw [← hσ]; simp [s2]
  have t9 : σ1 9 = .int .i16 key := by rw [← hσ]; simp
  have t10 : σ1 10 = .int .i16 ver := by rw [← hσ]; simp
  clear hσ s0 s1 s2 s3 hd4 hd5 hd6 hm5 hm6 hm04
  rw [wpC_seq, wpC_seq, wpC_blk]
  refine go1 (v := .int .i16 key) rfl (by simp [t9]) ?_
  refine go1 (v := .bool false) rfl (by simp [intBin, hk7]) ?_
  refine go1 (v := .bool false) rfl (by simp) ?_
  refine go0 (by simp) ?_
  refine go0 (by simp) ?_
  refine go1 (v := .bool false) rfl (by simp) (goEnd ?_)
  simp only [thenC]
  rw [wpC_cond_f (by simp), wpC_skip]
  simp only [thenC]
  -- the client's name
  have hp7 := (hb.mod hm7 (by simp)).cell 0
  simp only [List.getElem?_cons_zero] at hp7
  rw [wpC_seq, wpC_blk]
  refine go1 (v := d7) rfl (by simp [t1]) ?_
  refine go1 (v := .pointer (some ⟨B, 0, none⟩)) rfl (by simp [t0]) ?_
  refine go1 (v := .pointer (some ⟨B, 0, none⟩)) rfl (by simp) ?_
  refine go1 (v := .pointer (some ⟨B, 0, none⟩)) rfl (by simp) ?_
  refine go1 (v := p) rfl (by simp [hp7]) ?_
  refine goCall rfl (vs := [d7, p]) (by simp) (kAppendNullableString_call hm hns hs h16 hu16 (o := o) w0 w7 d7 p _ hm7 hd7 (by simp only [List.length_append, beI_length]; simp; omega) hp) ?_
  rintro e w8 ⟨d8, rfl, hd8, hm8⟩
  refine ⟨_, rfl, go1 (v := d8) rfl (by simp) (goEnd ?_)⟩
  simp only [thenC]
  generalize hσ : updo _ (some 1) _ = σ2
  have u1 : σ2 1 = d8 := by rw [← hσ]; simp
  have u2 : σ2 2 = .iface T rv := by rw [← hσ]; simp [t2]
  clear hσ t0 t1 t2 t9 t10 hd7 hm7 hp7
  -- flexible ones have no tags
  rw [wpC_seq, wpC_seq, wpC_blk]
  refine go1 (v := .iface T rv) rfl (by simp [u2]) ?_
  refine goInvk (vs := []) rfl (by simp) mx bx rfl (cx w8 hm8) ?_
  rintro e w9 ⟨rfl, hm9⟩
  refine ⟨_, rfl, goEnd ?_⟩
  simp only [thenC]
  have hd9 := hd8.keep hm9
  have hm09 := hm8.trans hm9
  clear hd8 hm8 hm9
  suffices rest : ∀ (σ : Sl) (w : World) (d : Value) (l : List UInt8), σ 1 = d → σ 2 = .iface T rv → Mod [] w0 w → DRaw w w0.heap.size d l → l = [0, 0, 0, 0] ++ (beI 2 key ++ beI 2 ver ++ beI 4 num ++ encNStr false o ++ (if flex then [0] else [])) →
      wpC P (.seq (.blk [⟨some 49, .mv (.tmp 2), none⟩, ⟨some 50, .mv (.tmp 1), none⟩, ⟨some 51, .invk (.tmp 49) "AppendTo" [.tmp 50], none⟩, ⟨some 1, .mv (.tmp 51), none⟩])
        (.seq (.drw (lenReg F) []) (.seq (.blk [⟨some 59, .mv (.tmp 1), none⟩, ⟨some 8, .mv (.tmp 59), none⟩]) .ret))) (postC [.tmp 8] fun e w' => ∃ dv, e = .returned dv ∧ DRaw w' w0.heap.size dv (frameP key ver num o flex body) ∧ Mod [] w0 w') σ w by
    cases flex with
    | true =>
      rw [wpC_cond_t (by simp), wpC_seq, wpC_blk]
      refine go1 (v := .int .u8 0) rfl (by simp) (goEnd ?_)
      simp only [thenC]
      rw [wpC_seq, wpC_blk]
      refine go1 (v := d8) rfl (by simp [u1]) ?_
      refine go1 (v := .int .u8 0) rfl (by simp) ?_
      refine goC rfl (bsliceB_run (bs := [0]) (by simp [fillL, zrep, splice, u8s]) rfl fun u w10 hu hm10 => ?_)
      refine goC rfl (append_run (n0 := w0.heap.size) (v := d8) (k := [0]) (by simp) (hd9.keep hm10) (hm09.trans hm10).size (by simpa using hu) (by simp only [List.length_append, beI_length]; simp at hlen ⊢; omega) fun d11 w11 ha => ?_)
      refine go1 (v := d11) rfl (by simp) (goEnd ?_)
      simp only [thenC]
      rw [wpC_seq, wpC_blk]
      refine go1 (v := .int .u8 0) rfl (by simp) ?_
      refine go1 (v := .bool false) rfl (by simp [intBin]) (goEnd ?_)
      simp only [thenC]
      rw [wpC_cond_f (by simp), wpC_skip]
      simp only [thenC]
      refine rest _ w11 d11 _ (by simp) (by simp [u2]) (ha.mod0 (hd9.keep hm10) (hm09.trans hm10)) ha.raw (by simp)
    | false =>
      rw [wpC_cond_f (by simp), wpC_skip]
      simp only [thenC]
      exact rest _ w9 d8 _ (by simp [u1]) (by simp [u2]) hm09 hd9 (by simp)
  clear u1 u2 hd9 hm09
  intro σ w d l v1 v2 hmw hdw hl
  rw [wpC_seq, wpC_blk]
  refine go1 (v := .iface T rv) rfl (by simp [v2]) ?_
  refine go1 (v := d) rfl (by simp [v1]) ?_
  have hll : l.length = 4 + (8 + (encNStr false o).length + (if flex then [(0 : UInt8)] else []).length) := by rw [hl]; simp only [List.length_append, beI_length]; simp
  refine goInvk (vs := [d]) rfl (by simp) ma ba (by simp) (ca w d l hmw hdw (by omega)) ?_
  rintro e w12 ⟨d12, rfl, hd12, hm12⟩
  refine ⟨_, rfl, go1 (v := d12) rfl (by simp) (goEnd ?_)⟩
  simp only [thenC]
  rw [wpC_seq]
  refine wpC_mono ?_ (len_reg hm h32 hu32 (n0 := w0.heap.size) (dv := d12) (l := l ++ body) (Q := fun σ' w' => σ' 1 = d12 ∧ DRaw w' w0.heap.size d12 (beI 4 (((l ++ body).length - 4 : Nat) : Int) ++ (l ++ body).drop 4) ∧ Mod [] w0 w') (by simp) hd12 hm12.size (by simp only [List.length_append]; omega) fun σ' w' a b ⟨k, hk, hmk⟩ => ⟨a, b, Mod.drop (hm12.nil.trans hmk) hk⟩)
  intro e σ' w' he
  cases e with
  | normal =>
    obtain ⟨a, b, c⟩ := he
    simp only [thenC]
    rw [wpC_seq, wpC_blk]
    refine go1 (v := d12) rfl (by simp [a]) ?_
    refine go1 (v := d12) rfl (by simp) (goEnd ?_)
    simp only [thenC]
    refine ret1 (by simp) ⟨d12, rfl, ?_, c⟩
    have e1 : (l ++ body).drop 4 = frameR key ver num o flex body := by rw [hl]; simp [frameR]
    have e2 : (l ++ body).length - 4 = (frameR key ver num o flex body).length := by rw [← e1]; simp
    rw [e1, e2] at b
    exact b
  | _ => exact he.elim
end
end Go.Msk

namespace Go.Msk
open Go.RowKit
set_option maxRecDepth 100000
def dfL : List (Nat × Value) → Nat → List IC
  | [], _ => []
  | (off, v) :: r, t => .blk [⟨some t, .mv (.tmp 0), none⟩, ⟨some (t + 1), .nilc (.tmp t), none⟩, ⟨some (t + 2), .fad (.tmp (t + 1)) off, none⟩, ⟨none, .st (.tmp (t + 2)) 1 (.const v), none⟩] :: dfL r (t + 3)
def dfGen (l : List (Nat × Value)) : IC × List RV × Nat := (seqs (dfL l 2), [], 2 + 3 * l.length)
def dfRes : List (Nat × Value) → List Value → List Value
  | [], z => z
  | (off, v) :: r, z => dfRes r (z.set off v)
def dfOk (l : List (Nat × Value)) (n : Nat) : Prop := ∀ p ∈ l, p.1 < n ∧ p.2.cells = #[p.2] ∧ p.2.oneCell' = true
def dfOkB (l : List (Nat × Value)) (n : Nat) : Bool := l.all fun p => Nat.blt p.1 n && match p.2 with
  | .int .. | .bool _ | .string _ | .pointer _ => true
  | _ => false
theorem dfOk_of {l : List (Nat × Value)} {n : Nat} (h : dfOkB l n = true) : dfOk l n := by
  intro p hp
  unfold dfOkB at h
  rw [List.all_eq_true] at h
  have := h p hp
  simp only [Bool.and_eq_true] at this
  refine ⟨Nat.lt_of_succ_le (Nat.le_of_ble_eq_true this.1), ?_⟩
  have h2 := this.2
  cases hv : p.2 <;> rw [hv] at h2 <;> first | (simp at h2; done) | exact ⟨rfl, rfl⟩
section
variable {P : Program}
theorem set_splice1 (pre z post : List Value) (off : Nat) (v : Value) (h : off < z.length) : splice (pre ++ (z ++ post)) (pre.length + off) [v] = pre ++ (z.set off v ++ post) := by
  unfold splice
  rw [List.take_length_add_append, List.take_append_of_le_length (by omega)]
  have e : pre.length + off + [v].length = pre.length + (off + 1) := by simp; omega
  rw [e, List.drop_length_add_append, List.drop_append_of_le_length (by omega), List.set_eq_take_append_cons_drop, if_pos h]
  simp
theorem dfL_wp {B : Nat} {pre post : List Value} : ∀ (l : List (Nat × Value)) (t : Nat) (z : List Value) (σ : Sl) (w : World) (Q : Exit → Sl → World → Prop), 1 ≤ t → dfOk l z.length → σ 0 = .pointer (some ⟨B, pre.length, none⟩) →
    Blk w B (pre ++ (z ++ post)) → (∀ σ' w', Mod [B] w w' → Blk w' B (pre ++ (dfRes l z ++ post)) → Q .normal σ' w') → wpL P (dfL l t) Q σ w
  | [], t, z, σ, w, Q, ht, hok, h0, hb, hQ => hQ σ w (Mod.refl _ _) hb
  | (off, v) :: r, t, z, σ, w, Q, ht, hok, h0, hb, hQ => by
    obtain ⟨ho, hv, h1⟩ := hok (off, v) List.mem_cons_self
    simp only at ho hv h1
    simp only [dfL, wpL, wpC, wpR, RI.wp, gOk, if_true, RK.run, ev, updo]
    simp only [upd, if_true, h0, Addr.add_mk, hv]
    have hput : Mod [B] w (putCells w ⟨B, pre.length + off, none⟩ 0 [v]) := Mod.put (by simp)
    refine ⟨rfl, stOk_many hb (by simp; omega) (by simpa using h1), ?_⟩
    have hp := hb.put (o := pre.length + off) (vs := [v]) (by simp; omega)
    rw [set_splice1 _ _ _ _ _ ho] at hp
    simp only [thenC]
    refine dfL_wp r (t + 3) (z.set off v) _ _ Q (by omega) (fun p hp => by rw [List.length_set]; exact hok p (List.mem_cons_of_mem _ hp)) ?_ (by simpa using hp) fun σ' w' hm hb' => hQ σ' w' (hput.trans hm) hb'
    simp only [upd, show (0 : Nat) ≠ t by omega, show (0 : Nat) ≠ t + 1 by omega, show (0 : Nat) ≠ t + 2 by omega, if_false, h0]
theorem df_call (hm : P.follows .mixedOrders = true) {f : FuncId} {l : List (Nat × Value)} (h : liftF P f = some (dfGen l)) {z d : List Value} (hok : dfOk l z.length) (hd : dfRes l z = d) : DfC P f z d := by
  intro w B pre post hb
  refine call_of h hm (by simp; omega) ?_
  rw [wpC_seqs]
  refine dfL_wp l 2 z _ w _ (by omega) hok rfl hb fun σ' w' hm' hb' => ?_
  simp only [postC, rvals, List.mapM_nil, Option.pure_def, tup]
  exact ⟨trivial, hd ▸ hb', hm'⟩
end
end Go.Msk

namespace Go.Msk
open Go.RowKit
set_option maxRecDepth 100000
def newCode (z : List Value) (dfl : FuncId) : IC × List RV × Nat :=
  (.seq (.blk [⟨some 0, .mv (.const (.pointer none)), none⟩]) (.seq (.blk [⟨some 1, .alloc z, none⟩]) (.seq (.blk [⟨some 2, .call dfl [.tmp 1], none⟩]) (.seq (.blk [⟨some 0, .mv (.tmp 1), none⟩]) .ret))), [.tmp 0], 3)
def maxCode (v : Int) : IC × List RV × Nat :=
  (.seq (.blk [⟨some 2, .mv (.const (.int .i16 0)), none⟩]) (.seq (.blk [⟨some 2, .mv (.const (.int .i16 v)), none⟩]) .ret), [.tmp 2], 3)
def setCode : IC × List RV × Nat :=
  (.blk [⟨some 4, .mv (.tmp 0), none⟩, ⟨some 5, .mv (.tmp 1), none⟩, ⟨some 6, .nilc (.tmp 4), none⟩, ⟨some 7, .fad (.tmp 6) 0, none⟩, ⟨none, .st (.tmp 7) 1 (.tmp 5), none⟩], [], 8)
def rfCode (f : FuncId) (u : Bool) : IC × List RV × Nat :=
  (.seq (.blk [⟨some 4, .mv (.const .nilIface), none⟩]) (.seq (.blk [⟨some 5, .mv (.tmp 0), none⟩, ⟨some 6, .mv (.tmp 1), none⟩, ⟨some 7, .call f [.tmp 5, .tmp 6, .const (.bool u)], none⟩, ⟨some 4, .mv (.tmp 7), none⟩]) .ret), [.tmp 4], 8)
def impMaxCode (newp mxv : FuncId) : IC × List RV × Nat :=
  (.seq (.blk [⟨some 0, .mv (.const (.int .i64 0)), none⟩]) (.seq (.blk [⟨some 1, .call newp [], none⟩, ⟨some 2, .call mxv [.tmp 1], none⟩, ⟨some 3, .conv .i64 (.tmp 2), none⟩, ⟨some 0, .mv (.tmp 3), none⟩]) .ret), [.tmp 0], 4)
section
variable {P : Program}
attribute [local simp] bnd wpC wpR RI.wp gOk RK.run thenC inBlockC updo upd ev args0 postC rvals RV.val tup_one isShift
theorem new_call (hm : P.follows .mixedOrders = true) {f dfl : FuncId} {z d : List Value} (h : liftF P f = some (newCode z dfl)) (hd : DfC P dfl z d) {w : World} :
    Calls P f #[] w fun e w' => e = .returned (.pointer (some ⟨w.heap.size, 0, none⟩)) ∧ Blk w' w.heap.size d ∧ Mod [] w w' := by
  refine call_of (args := []) h hm (by simp) ?_
  simp
  intro T
  have hb := Blk.new w z T
  have hm1 : Mod [] w (w.alloc (.cells z.toArray T)) := Mod.alloc _ _ _
  have := hd (w.alloc (.cells z.toArray T)) w.heap.size [] [] (by simpa using hb)
  refine (show Calls P dfl _ _ _ from this).mono ?_
  rintro e w' ⟨rfl, h1, h2⟩
  refine ⟨⟨_, rfl⟩, by simpa using h1, ?_⟩
  exact Mod.drop (b := w.heap.size) (S := []) (hm1.nil.trans h2) (Nat.le_refl _)
theorem max_call (hm : P.follows .mixedOrders = true) {f : FuncId} {v : Int} (h : liftF P f = some (maxCode v)) {w : World} {p : Value} :
    Calls P f [p].toArray w fun e w' => e = .returned (.int .i16 v) ∧ w' = w := by
  refine call_of h hm (by simp) ?_
  simp
theorem set_call (hm : P.follows .mixedOrders = true) {f : FuncId} (h : liftF P f = some setCode) {w : World} {b : Nat} {v : Int} {x : Value} {cs : List Value} (hb : Blk w b (x :: cs)) :
    Calls P f [.pointer (some ⟨b, 0, none⟩), .int .i16 v].toArray w fun e w' => e = .returned (.tuple #[]) ∧ Blk w' b (.int .i16 v :: cs) ∧ Mod [b] w w' := by
  refine call_of h hm (by simp) ?_
  have hput : Mod [b] w (putCells w ⟨b, 0, none⟩ 0 [.int .i16 v]) := Mod.put (by simp)
  have hp := hb.put (o := 0) (vs := [.int .i16 v]) (by simp)
  have e : splice (x :: cs) 0 [.int .i16 v] = .int .i16 v :: cs := by simp [splice]
  rw [e] at hp
  simp [Addr.add_mk, Value.cells]
  exact ⟨stOk_one hb (by simp) rfl, by simp [tup], hp, hput⟩
theorem rf_call (hm : P.follows .mixedOrders = true) {f g : FuncId} {u : Bool} (h : liftF P f = some (rfCode g u)) {w : World} {p s : Value} {R : Ending → World → Prop} (hR : ∀ e w', R e w' → ∃ v, e = .returned v)
    (hc : Calls P g [p, s, .bool u].toArray w R) : Calls P f [p, s].toArray w R := by
  refine call_of h hm (by simp) ?_
  simp
  refine hc.mono fun e w' he => ?_
  obtain ⟨v, rfl⟩ := hR e w' he
  exact ⟨v, rfl, he⟩
theorem impMax_call (hm : P.follows .mixedOrders = true) {f newp mxv dfl : FuncId} {z d : List Value} {v : Int} (h : liftF P f = some (impMaxCode newp mxv)) (hn : liftF P newp = some (newCode z dfl)) (hd : DfC P dfl z d) (hx : liftF P mxv = some (maxCode v)) (hv : 0 ≤ v ∧ v < 32768) {w : World} :
    Calls P f #[] w fun e w' => e = .returned (.int .i64 v) ∧ Mod [] w w' := by
  refine call_of (args := []) h hm (by simp) ?_
  simp
  refine (new_call hm hn hd).mono ?_
  rintro e w1 ⟨rfl, -, hm1⟩
  refine ⟨_, rfl, ?_⟩
  refine (show Calls P mxv _ _ _ from max_call hm hx).mono ?_
  rintro e w2 ⟨rfl, rfl⟩
  have e1 : IntKind.i64.wrap v = v := by simp [IntKind.wrap, IntKind.bits, IntKind.signed]; omega
  simp [e1, hm1]
end
end Go.Msk

namespace Go.Msk
open Go.RowKit
set_option maxRecDepth 100000
def behCode (newp setv rf ap : FuncId) : IC × List RV × Nat :=
  (.seq (.blk [⟨some 6, .mv (.const (.slice none 0 0)), none⟩, ⟨some 7, .mv (.const (.bool false)), none⟩])
    (.seq (.blk [⟨some 9, .call newp [], none⟩, ⟨some 8, .mv (.tmp 9), none⟩])
    (.seq (.blk [⟨some 10, .mv (.tmp 8), none⟩, ⟨some 11, .mv (.tmp 0), none⟩, ⟨some 12, .conv .i16 (.tmp 11), none⟩, ⟨some 13, .call setv [.tmp 10, .tmp 12], none⟩])
    (.seq (.seq (.blk [⟨some 14, .mv (.tmp 8), none⟩, ⟨some 15, .mv (.tmp 2), none⟩, ⟨some 16, .append (.const (.slice none 0 0)) (.tmp 15) 1 1, none⟩, ⟨some 17, .call rf [.tmp 14, .tmp 16], none⟩, ⟨some 18, .isnil .ic true (.tmp 17), none⟩])
      (.cond (.tmp 18) (.seq (.blk [⟨some 6, .mv (.const (.slice none 0 0)), none⟩, ⟨some 7, .mv (.const (.bool false)), none⟩]) .ret) .skip))
    (.seq (.blk [⟨some 19, .mv (.tmp 8), none⟩, ⟨some 20, .mv (.tmp 1), none⟩, ⟨some 21, .append (.const (.slice none 0 0)) (.tmp 20) 1 1, none⟩, ⟨some 22, .call ap [.tmp 19, .tmp 21], none⟩, ⟨some 6, .mv (.tmp 22), none⟩, ⟨some 7, .mv (.const (.bool true)), none⟩])
    .ret)))), [.tmp 6, .tmp 7], 23)
section
variable {P : Program}
attribute [local simp] gOk updo upd ev RK.val? isShift intBin Addr.add_mk args0 Value.cells undef
end
end Go.Msk
