/- A small language of resolved operations, and what the generic and the generated functions do in it (part 15). -/
import Derived.Test.YtkgihecaappglaaGreatDoorFn

namespace Go.Msk
open Go.RowKit
set_option maxRecDepth 100000
theorem TR.smallL_of {l : List TR} (h : ∀ t ∈ l, t.small) : TR.smallL l := by
  induction l with
  | nil => trivial
  | cons t l ih => exact ⟨h t List.mem_cons_self, ih fun x hx => h x (List.mem_cons_of_mem _ hx)⟩
def GV.sm (g : GV) : Prop := g.told.small ∧ ∀ m, g = .tag m → m.length ≤ 2147483647 ∧ ∀ p ∈ m, p.2.length ≤ 2147483647
def Dec.Small (D : Dec) : Prop := ∀ (p : PK) (x : Bool) (s : RS), s.src.length ≤ 2147483647 → (D.prim p x s).1.sm
def Df.smallB : Df → Bool
  | .str l => decide (l.length ≤ 1000)
  | _ => true
theorem Df.small {d : Df} (h : d.smallB = true) : d.gv.sm := by
  refine ⟨?_, fun m e => by cases d <;> simp [Df.gv] at e⟩
  cases d with
  | str l =>
    simp only [Df.smallB, decide_eq_true_eq] at h
    simp only [Df.gv, Msk.str, GV.told, TR.small, TR.smallL]
    simp; omega
  | _ => simp [Df.gv, GV.told, TR.small, TR.smallL]
def Sc.len : Sc → Nat
  | .nil => 0
  | .prm _ _ _ _ _ rest => rest.len + 1
  | .enm _ _ _ _ _ rest => rest.len + 1
  | .lsp _ _ _ _ _ _ _ rest => rest.len + 1
  | .lss _ _ _ _ _ _ rest => rest.len + 1
  | .sub _ _ _ rest => rest.len + 1
  | .tags _ => 1
  | .ktg cs mid _ _ _ => cs.length + (mid.len + 1)
  | .uid _ _ rest => rest.len + 1
  | .vst _ _ _ _ rest => rest.len + 1
def Sc.smallB : Sc → Bool
  | .nil => true
  | .prm _ _ _ _ d rest => d.smallB && rest.smallB
  | .enm _ _ _ _ d rest => d.smallB && rest.smallB
  | .lsp _ _ _ _ _ _ _ rest => rest.smallB
  | .lss _ _ _ _ _ body rest => decide (body.len ≤ 1000) && body.smallB && rest.smallB
  | .sub _ _ body rest => decide (body.len ≤ 1000) && body.smallB && rest.smallB
  | .tags _ => true
  | .uid _ _ rest => rest.smallB
  | .vst _ _ _ _ _ => false
  | .ktg cs mid _ _ _ => cs.all (fun c => decide (c.fs.length + 1 ≤ 1000) && c.fs.all fun f => f.d.smallB) && cs.any (fun c => c.tag == 0) && mid.smallB
theorem Sc.dgv_len : ∀ sc : Sc, sc.dgv.length = sc.len := by
  intro sc
  induction sc with
  | nil => rfl
  | _ => simp [Sc.dgv, Sc.len, *]
theorem arr_sm {l : List UInt8} (h : l.length ≤ 2147483647) : (GV.arr l).sm := by
  refine ⟨?_, fun m e => by simp at e⟩
  simp only [GV.told, TR.small, TR.smallL]
  simpa using h
theorem toldF_len (gs : List GV) : (GV.toldF gs).length ≤ gs.length := by
  induction gs with
  | nil => simp [GV.toldF]
  | cons g gs ih => cases g <;> simp only [GV.toldF, List.length_cons] <;> omega
theorem toldF_small {gs : List GV} (h : ∀ g ∈ gs, g.sm) : TR.smallL (GV.toldF gs) := by
  induction gs with
  | nil => simp [GV.toldF, TR.smallL]
  | cons g gs ih =>
    have h1 := (h g List.mem_cons_self).1
    have h2 := ih fun x hx => h x (List.mem_cons_of_mem _ hx)
    cases g with
    | tag m => simpa only [GV.toldF] using h2
    | _ => simp only [GV.toldF]; exact ⟨h1, h2⟩
theorem tagsF_small {gs : List GV} (h : ∀ g ∈ gs, g.sm) : (GV.tagsF gs).length ≤ 2147483647 ∧ ∀ p ∈ GV.tagsF gs, p.2.length ≤ 2147483647 := by
  induction gs with
  | nil => simp [GV.tagsF]
  | cons g gs ih =>
    have h2 := ih fun x hx => h x (List.mem_cons_of_mem _ hx)
    cases g with
    | tag m =>
      obtain ⟨k1, k2⟩ := (h _ List.mem_cons_self).2 m rfl
      have hp := sortT_perm m
      exact ⟨by rw [GV.tagsF, hp.length_eq]; exact k1, fun p hx => k2 p (hp.mem_iff.1 hx)⟩
    | _ => exact h2
theorem rcd_small {gs : List GV} (h1 : gs.length ≤ 1000) (h2 : ∀ g ∈ gs, g.sm) : (GV.rcd gs).sm := by
  refine ⟨?_, fun m e => by simp at e⟩
  simp only [GV.told, TR.small]
  have := toldF_len gs
  have k := tagsF_small h2
  exact ⟨by simp, by omega, k.1, k.2, toldF_small h2⟩
theorem flDgv_len : ∀ fs : List KF, (flDgv fs).length = fs.length + 1
  | [] => rfl
  | f :: fs => by simp [flDgv, flDgv_len fs]
theorem tag0_sm : (GV.tag []).sm := ⟨by simp [GV.told, TR.small, TR.smallL, TR.zero], fun m e => by simp only [GV.tag.injEq] at e; subst e; simp⟩
theorem lst0_sm : (GV.lst true 0 []).sm := ⟨by simp [GV.told, GV.toldL, TR.small, TR.smallL], fun m e => by simp at e⟩
theorem flDgv_sm : ∀ fs : List KF, (fs.all fun f => f.d.smallB) = true → ∀ g ∈ flDgv fs, g.sm
  | [], _, g, hg => by
    simp only [flDgv, List.mem_singleton] at hg
    subst hg
    exact tag0_sm
  | f :: fs, h, g, hg => by
    simp only [List.all_cons, Bool.and_eq_true] at h
    rcases List.mem_cons.1 hg with rfl | hg
    · exact Df.small h.1
    · exact flDgv_sm fs h.2 g hg
theorem KCase.gv0_sm {c : KCase} (h : (decide (c.fs.length + 1 ≤ 1000) && c.fs.all fun f => f.d.smallB) = true) : c.gv0.sm := by
  simp only [Bool.and_eq_true, decide_eq_true_eq] at h
  unfold KCase.gv0
  split
  · exact rcd_small (by rw [flDgv_len]; exact h.1) (flDgv_sm _ h.2)
  · exact lst0_sm
theorem Sc.dgv_small : ∀ sc : Sc, sc.smallB = true → ∀ g ∈ sc.dgv, g.sm := by
  intro sc
  have l0 : (GV.lst true 0 []).sm := ⟨by simp [GV.told, GV.toldL, TR.small, TR.smallL], fun m e => by simp at e⟩
  induction sc with
  | nil => intro _ g hg; simp [Sc.dgv] at hg
  | prm vc i r p d rest ih =>
    intro h g hg
    simp only [Sc.smallB, Bool.and_eq_true] at h
    rcases List.mem_cons.1 hg with rfl | hg
    · exact Df.small h.1
    · exact ih h.2 g hg
  | enm vc i r p d rest ih =>
    intro h g hg
    simp only [Sc.smallB, Bool.and_eq_true] at h
    rcases List.mem_cons.1 hg with rfl | hg
    · exact Df.small h.1
    · exact ih h.2 g hg
  | lsp vc l b d i r p rest ih =>
    intro h g hg
    rcases List.mem_cons.1 hg with rfl | hg
    · exact l0
    · exact ih h g hg
  | lss vc l b z d body rest ihb ih =>
    intro h g hg
    simp only [Sc.smallB, Bool.and_eq_true] at h
    rcases List.mem_cons.1 hg with rfl | hg
    · exact l0
    · exact ih h.2 g hg
  | sub vc d body rest ihb ih =>
    intro h g hg
    simp only [Sc.smallB, Bool.and_eq_true, decide_eq_true_eq] at h
    rcases List.mem_cons.1 hg with rfl | hg
    · exact rcd_small (by rw [Sc.dgv_len]; exact h.1.1) (ihb h.1.2)
    · exact ih h.2 g hg
  | vst _ _ _ _ rest ih => intro h; simp [Sc.smallB] at h
  | uid vc f rest ih =>
    intro h g hg
    rcases List.mem_cons.1 hg with rfl | hg
    · exact arr_sm (by simp)
    · exact ih h g hg
  | ktg cs mid _ _ _ ih =>
    intro h g hg
    simp only [Sc.smallB, Bool.and_eq_true, List.all_eq_true] at h
    simp only [Sc.dgv, List.mem_append, List.mem_map, List.mem_singleton] at hg
    rcases hg with ⟨c, hc, rfl⟩ | hg | rfl
    · exact KCase.gv0_sm (by simpa [Bool.and_eq_true, List.all_eq_true] using h.1.1 c hc)
    · exact ih h.2 g hg
    · exact tag0_sm
  | tags f =>
    intro h g hg
    simp only [Sc.dgv, List.mem_singleton] at hg
    subst hg
    exact ⟨by simp [GV.told, TR.small, TR.smallL, TR.zero], fun m e => by simp only [GV.tag.injEq] at e; subst e; simp⟩
theorem lst_small {b : Bool} {z : Nat} {l : List GV} (h1 : l.length ≤ 2147483647) (h2 : ∀ g ∈ l, g.sm) : (GV.lst b z l).sm := by
  refine ⟨?_, fun m e => by simp at e⟩
  simp only [GV.told, TR.small]
  refine ⟨by simp, by rw [GV.toldL_map]; simp; omega, by simp, by simp, TR.smallL_of fun t ht => ?_⟩
  rw [GV.toldL_map] at ht
  obtain ⟨g, hg, rfl⟩ := List.mem_map.1 ht
  exact (h2 g hg).1
theorem num_sm {v : Value} (h : ∀ s, v ≠ .string s) : (GV.num v).sm := by
  refine ⟨?_, fun m e => by simp at e⟩
  cases v <;> first | exact absurd rfl (h _) | simp [GV.told, TR.small, TR.smallL, TR.zero]
theorem str_sm {l : List UInt8} (h : l.length ≤ 2147483647) : (GV.num (Msk.str l)).sm := by
  refine ⟨?_, fun m e => by simp at e⟩
  simp only [Msk.str, GV.told, TR.small, TR.smallL]
  simpa using h
theorem i64_wrap_wrap (n : Int) : IntKind.i64.wrap (IntKind.i64.wrap n) = IntKind.i64.wrap n := by
  simp only [IntKind.wrap, IntKind.bits, IntKind.signed]
  simp
  omega
end Go.Msk

namespace Go.Msk
open Go.RowKit
set_option maxRecDepth 100000
theorem flDec_len {D : Dec} {x : Bool} : ∀ (fs : List KF) (s : RS), (flDec D x fs s).1.length = fs.length + 1
  | [], s => by simp only [flDec]; split <;> rfl
  | f :: fs, s => by simp [flDec, flDec_len fs]
theorem flDec_sm {D : Dec} (hD : D.Ok) (hS : D.Small) {x : Bool} : ∀ (fs : List KF) (s : RS), s.src.length ≤ 2147483647 → (∀ g ∈ (flDec D x fs s).1, g.sm) ∧ (flDec D x fs s).2.src.length ≤ s.src.length
  | [], s, hs => by
    simp only [flDec]
    split
    · have k := hD.tagty s hs
      refine ⟨fun g hg => ?_, hD.tagle s⟩
      simp only [List.mem_singleton] at hg
      subst hg
      exact ⟨by simp [GV.told, TR.small, TR.smallL, TR.zero], fun m e => by simp only [GV.tag.injEq] at e; subst e; exact k⟩
    · refine ⟨fun g hg => ?_, Nat.le_refl _⟩
      simp only [List.mem_singleton] at hg
      subst hg
      exact tag0_sm
  | f :: fs, s, hs => by
    have e1 := hS f.p x s hs
    have e2 := hD.prle f.p x s
    obtain ⟨k1, k2⟩ := flDec_sm hD hS (x := x) fs (D.prim f.p x s).2 (by omega)
    simp only [flDec]
    refine ⟨fun g hg => ?_, by omega⟩
    rcases List.mem_cons.1 hg with rfl | hg
    · exact e1
    · exact k1 g hg
theorem kdec_sm {D : Dec} (hD : D.Ok) (hS : D.Small) {x : Bool} {c : KCase} (hc : c.fs.length + 1 ≤ 1000) {old g : GV} {s s4 : RS} (hs : s.src.length ≤ 2147483647) (h : c.dec D x old s = some (g, s4)) : g.sm := by
  have one : ∀ s, s.src.length ≤ 2147483647 → (GV.rcd (flDec D x c.fs s).1).sm ∧ (flDec D x c.fs s).2.src.length ≤ s.src.length := fun s hs => by
    obtain ⟨k1, k2⟩ := flDec_sm hD hS (x := x) c.fs s hs
    exact ⟨rcd_small (by rw [flDec_len]; exact hc) k1, k2⟩
  cases hn : c.lst.isNone with
  | true =>
    unfold KCase.dec at h
    rw [if_pos hn] at h
    simp only [flRcd, Option.some.injEq, Prod.mk.injEq] at h
    rw [← h.1]
    exact (one s hs).1
  | false =>
    obtain ⟨a, z, l, rfl, q1, q2, -⟩ := kdec_lst hD hn (T := fun g => g.sm) hs (fun s g s' hs h => by
      simp only [flRcd, Option.some.injEq, Prod.mk.injEq] at h
      obtain ⟨rfl, rfl⟩ := h
      exact one s hs) h
    exact lst_small q2 q1
theorem dec_small {D : Dec} (hD : D.Ok) (hS : D.Small) {ver : Int} {x : Bool} : ∀ (sc : Sc) (s s' : RS) (gs : List GV), sc.smallB = true → s.src.length ≤ 2147483647 → sc.dec D ver x s = some (gs, s') →
    gs.length = sc.len ∧ (∀ g ∈ gs, g.sm) ∧ s'.src.length ≤ s.src.length := by
  intro sc
  have l0 : (GV.lst true 0 []).sm := ⟨by simp [GV.told, GV.toldL, TR.small, TR.smallL], fun m e => by simp at e⟩
  have prim : ∀ (vc : VC) (p : PK) (d : Df) (s s1 : RS) (g : GV), d.smallB = true → s.src.length ≤ 2147483647 → (if vc.holds ver then some (D.prim p x s) else some (d.gv, s)) = some (g, s1) → g.sm ∧ s1.src.length ≤ s.src.length := by
    intro vc p d s s1 g hd hs h
    split at h
    · simp only [Option.some.injEq] at h
      have e1 := hS p x s hs
      have e2 := hD.prle p x s
      rw [h] at e1 e2
      exact ⟨e1, e2⟩
    · simp only [Option.some.injEq, Prod.mk.injEq] at h
      obtain ⟨rfl, rfl⟩ := h
      exact ⟨Df.small hd, Nat.le_refl _⟩
  have cons : ∀ {g : GV} {l : List GV}, g.sm → (∀ y ∈ l, y.sm) → ∀ y ∈ g :: l, y.sm := fun h1 h2 y hy => by
    rcases List.mem_cons.1 hy with rfl | hy
    · exact h1
    · exact h2 y hy
  induction sc with
  | nil =>
    intro s s' gs _ hs h
    simp only [Sc.dec, Option.some.injEq, Prod.mk.injEq] at h
    obtain ⟨rfl, rfl⟩ := h
    exact ⟨rfl, by simp, Nat.le_refl _⟩
  | prm vc i r p d rest ih =>
    intro s s' gs hb hs h
    simp only [Sc.smallB, Bool.and_eq_true] at hb
    obtain ⟨g, s1, l, h1, h2, rfl⟩ := consD_some h
    obtain ⟨k1, k2⟩ := prim vc p d s s1 g hb.1 hs h1
    obtain ⟨k3, k4, k5⟩ := ih s1 s' l hb.2 (by omega) h2
    exact ⟨by simp [Sc.len, k3], cons k1 k4, by omega⟩
  | enm vc i r p d rest ih =>
    intro s s' gs hb hs h
    simp only [Sc.smallB, Bool.and_eq_true] at hb
    obtain ⟨g, s1, l, h1, h2, rfl⟩ := consD_some h
    obtain ⟨k1, k2⟩ := prim vc p d s s1 g hb.1 hs h1
    obtain ⟨k3, k4, k5⟩ := ih s1 s' l hb.2 (by omega) h2
    exact ⟨by simp [Sc.len, k3], cons k1 k4, by omega⟩
  | lsp vc len b d i r p rest ih =>
    intro s s' gs hb hs h
    simp only [Sc.smallB] at hb
    obtain ⟨g, s1, l, h1, h2, rfl⟩ := consD_some h
    have : g.sm ∧ s1.src.length ≤ s.src.length := by
      split at h1
      · obtain ⟨⟨b, z, y, rfl, q1, q2, -⟩, q3⟩ := decLst_ty hD (T := fun g => g.sm) (fun s g s' hs h => by
          simp only [Option.some.injEq] at h
          have e1 := hS p x s hs
          have e2 := hD.prle p x s
          rw [h] at e1 e2
          exact ⟨e1, e2⟩) hs h1
        exact ⟨lst_small q2 q1, q3⟩
      · simp only [Option.some.injEq, Prod.mk.injEq] at h1
        obtain ⟨rfl, rfl⟩ := h1
        exact ⟨l0, Nat.le_refl _⟩
    obtain ⟨k3, k4, k5⟩ := ih s1 s' l hb (by omega) h2
    exact ⟨by simp [Sc.len, k3], cons this.1 k4, by omega⟩
  | lss vc len b z dfl body rest ihb ih =>
    intro s s' gs hb hs h
    simp only [Sc.smallB, Bool.and_eq_true, decide_eq_true_eq] at hb
    obtain ⟨g, s1, l, h1, h2, rfl⟩ := consD_some h
    have : g.sm ∧ s1.src.length ≤ s.src.length := by
      split at h1
      · obtain ⟨⟨b, z, y, rfl, q1, q2, -⟩, q3⟩ := decLst_ty hD (T := fun g => g.sm) (fun s g s' hs h => by
          unfold rcdD at h
          cases hd : body.dec D ver x s with
          | none => rw [hd] at h; simp at h
          | some q =>
            obtain ⟨gl, s2⟩ := q
            rw [hd] at h
            simp only [Option.some.injEq, Prod.mk.injEq] at h
            obtain ⟨rfl, rfl⟩ := h
            obtain ⟨k1, k2, k3⟩ := ihb s s2 gl hb.1.2 hs hd
            exact ⟨rcd_small (by omega) k2, k3⟩) hs h1
        exact ⟨lst_small q2 q1, q3⟩
      · simp only [Option.some.injEq, Prod.mk.injEq] at h1
        obtain ⟨rfl, rfl⟩ := h1
        exact ⟨l0, Nat.le_refl _⟩
    obtain ⟨k3, k4, k5⟩ := ih s1 s' l hb.2 (by omega) h2
    exact ⟨by simp [Sc.len, k3], cons this.1 k4, by omega⟩
  | sub vc dfl body rest ihb ih =>
    intro s s' gs hb hs h
    simp only [Sc.smallB, Bool.and_eq_true, decide_eq_true_eq] at hb
    obtain ⟨g, s1, l, h1, h2, rfl⟩ := consD_some h
    have : g.sm ∧ s1.src.length ≤ s.src.length := by
      split at h1
      · unfold rcdD at h1
        cases hd : body.dec D ver x s with
        | none => rw [hd] at h1; simp at h1
        | some q =>
          obtain ⟨gl, s2⟩ := q
          rw [hd] at h1
          simp only [Option.some.injEq, Prod.mk.injEq] at h1
          obtain ⟨rfl, rfl⟩ := h1
          obtain ⟨k1, k2, k3⟩ := ihb s s2 gl hb.1.2 hs hd
          exact ⟨rcd_small (by omega) k2, k3⟩
      · simp only [Option.some.injEq, Prod.mk.injEq] at h1
        obtain ⟨rfl, rfl⟩ := h1
        exact ⟨rcd_small (by rw [Sc.dgv_len]; exact hb.1.1) (Sc.dgv_small body hb.1.2), Nat.le_refl _⟩
    obtain ⟨k3, k4, k5⟩ := ih s1 s' l hb.2 (by omega) h2
    exact ⟨by simp [Sc.len, k3], cons this.1 k4, by omega⟩

  | vst _ _ _ _ rest ih => intro s s' gs hb; simp [Sc.smallB] at hb
  | uid vc f rest ih =>
    intro s s' gs hb hs h
    simp only [Sc.smallB] at hb
    obtain ⟨g, s1, l, h1, h2, rfl⟩ := consD_some h
    have : g.sm ∧ s1.src.length ≤ s.src.length := by
      split at h1
      · simp only [Option.some.injEq] at h1
        have e1 := hS .uuid x s hs
        have e2 := hD.prle .uuid x s
        rw [h1] at e1 e2
        exact ⟨e1, e2⟩
      · simp only [Option.some.injEq, Prod.mk.injEq] at h1
        obtain ⟨rfl, rfl⟩ := h1
        exact ⟨arr_sm (by simp), Nat.le_refl _⟩
    obtain ⟨k3, k4, k5⟩ := ih s1 s' l hb (by omega) h2
    exact ⟨by simp [Sc.len, k3], cons this.1 k4, by omega⟩
  | tags f =>
    intro s s' gs hb hs h
    simp only [Sc.dec] at h
    split at h
    · simp only [Option.some.injEq, Prod.mk.injEq] at h
      obtain ⟨rfl, rfl⟩ := h
      have k := hD.tagty s hs
      refine ⟨rfl, fun g hg => ?_, hD.tagle s⟩
      simp only [List.mem_singleton] at hg
      subst hg
      exact ⟨by simp [GV.told, TR.small, TR.smallL, TR.zero], fun m e => by simp only [GV.tag.injEq] at e; subst e; exact k⟩
    · simp only [Option.some.injEq, Prod.mk.injEq] at h
      obtain ⟨rfl, rfl⟩ := h
      refine ⟨rfl, fun g hg => ?_, Nat.le_refl _⟩
      simp only [List.mem_singleton] at hg
      subst hg
      exact ⟨by simp [GV.told, TR.small, TR.smallL, TR.zero], fun m e => by simp only [GV.tag.injEq] at e; subst e; simp⟩
  | ktg cs mid a b c ih =>
    intro s s' gs hb hs h
    simp only [Sc.smallB, Bool.and_eq_true] at hb
    have hcs : ∀ c ∈ cs, (decide (c.fs.length + 1 ≤ 1000) && c.fs.all fun f => f.d.smallB) = true := fun c hc => List.all_eq_true.1 hb.1.1 c hc
    have hc1 : ∀ c ∈ cs, c.fs.length + 1 ≤ 1000 := fun c hc => by
      have := hcs c hc
      simp only [Bool.and_eq_true, decide_eq_true_eq] at this
      exact this.1
    have hg0 : ∀ g ∈ cs.map KCase.gv0, g.sm := fun g hg => by
      obtain ⟨c, hc, rfl⟩ := List.mem_map.1 hg
      exact KCase.gv0_sm (hcs c hc)
    simp only [Sc.dec] at h
    cases hd : mid.dec D ver x s with
    | none => rw [hd] at h; simp [ktgJ] at h
    | some q =>
      obtain ⟨gm, s1⟩ := q
      rw [hd] at h
      obtain ⟨k1, k2, k3⟩ := ih s s1 gm hb.2 hs hd
      have a1 := rdUv_le s1
      have all : ∀ {gk : List GV} {mm : List (Nat × List UInt8)}, (∀ g ∈ gk, g.sm) → mm.length ≤ 2147483647 → (∀ p ∈ mm, p.2.length ≤ 2147483647) → ∀ g ∈ gk ++ (gm ++ [.tag mm]), g.sm := fun {gk mm} h1 h2 h3 g hg => by
        simp only [List.mem_append, List.mem_singleton] at hg
        rcases hg with hg | hg | rfl
        · exact h1 g hg
        · exact k2 g hg
        · exact ⟨by simp [GV.told, TR.small, TR.smallL, TR.zero], fun m e => by simp only [GV.tag.injEq] at e; subst e; exact ⟨h2, h3⟩⟩
      simp only [ktgJ] at h
      split at h
      · split at h
        · simp at h
        · rename_i gk mm s2 hq
          simp only [Option.some.injEq, Prod.mk.injEq] at h
          obtain ⟨rfl, rfl⟩ := h
          obtain ⟨p1, p2, p3, p4, p5⟩ := ktgDec_inv (T := fun _ g => g.sm) hb.1.2 (fun j c old s g s4 hc hs hd => kdec_sm hD hS (hc1 c (List.mem_of_getElem? hc)) hs hd) _ _ _ _ _ _ _ (by omega) (fun j g hg => hg0 g (List.mem_of_getElem? hg)) (by simp; omega) (by simp) hq
          refine ⟨by simp [Sc.len, k1, p1], all (fun g hg => ?_) p3 p4, by omega⟩
          obtain ⟨j, hj⟩ := List.mem_iff_getElem?.1 hg
          exact p2 j g hj
      · simp only [Option.some.injEq, Prod.mk.injEq] at h
        obtain ⟨rfl, rfl⟩ := h
        exact ⟨by simp [Sc.len, k1], all hg0 (by simp) (by simp), k3⟩
theorem rdN_le (k : Nat) (s : RS) : (rdN k s).2.src.length ≤ s.src.length := by
  unfold rdN; split <;> simp [RS.fail]
theorem rdSpan_le (l : Int) (s : RS) : (rdSpan l s).2.src.length ≤ s.src.length := by
  unfold rdSpan; split <;> simp [RS.fail]
theorem rdSpan_len {l : Int} {s : RS} {o : List UInt8} (h : (rdSpan l s).1 = some o) : o.length ≤ s.src.length := by
  unfold rdSpan at h
  split at h
  · simp at h
  · simp only at h
    split at h
    · simp at h
    · simp only [Option.some.injEq] at h; subst h; simp; omega
theorem rdSpan_getD (l : Int) (s : RS) : ((rdSpan l s).1.getD []).length ≤ s.src.length := by
  cases h : (rdSpan l s).1 with
  | none => simp
  | some o => exact rdSpan_len h
theorem rdCl_le (s : RS) : (rdCl s).2.src.length ≤ s.src.length := rdUv_le s
theorem rdString_b (s : RS) : (rdString s).1.length ≤ s.src.length ∧ (rdString s).2.src.length ≤ s.src.length := by
  have h := rdN_le 2 s
  simp only [rdString]
  exact ⟨Nat.le_trans (rdSpan_getD _ _) h, Nat.le_trans (rdSpan_le _ _) h⟩
theorem rdCString_b (s : RS) : (rdCString s).1.length ≤ s.src.length ∧ (rdCString s).2.src.length ≤ s.src.length := by
  have h := rdCl_le s
  simp only [rdCString]
  exact ⟨Nat.le_trans (rdSpan_getD _ _) h, Nat.le_trans (rdSpan_le _ _) h⟩
theorem rdNullableString_b (s : RS) : (∀ l, (rdNullableString s).1 = some l → l.length ≤ s.src.length) ∧ (rdNullableString s).2.src.length ≤ s.src.length := by
  have h := rdN_le 2 s
  simp only [rdNullableString]
  split
  · exact ⟨by simp, h⟩
  · exact ⟨fun l e => by simp only [Option.some.injEq] at e; subst e; exact Nat.le_trans (rdSpan_getD _ _) h, Nat.le_trans (rdSpan_le _ _) h⟩
theorem rdCNullableString_b (s : RS) : (∀ l, (rdCNullableString s).1 = some l → l.length ≤ s.src.length) ∧ (rdCNullableString s).2.src.length ≤ s.src.length := by
  have h := rdCl_le s
  simp only [rdCNullableString]
  split
  · exact ⟨by simp, h⟩
  · exact ⟨fun l e => by simp only [Option.some.injEq] at e; subst e; exact Nat.le_trans (rdSpan_getD _ _) h, Nat.le_trans (rdSpan_le _ _) h⟩
theorem rdBytes_b (s : RS) : (∀ l, (rdBytes s).1 = some l → l.length ≤ s.src.length) ∧ (rdBytes s).2.src.length ≤ s.src.length := by
  have h := rdN_le 4 s
  simp only [rdBytes]
  split
  · exact ⟨fun l e => by simp only [Option.some.injEq] at e; subst e; simp, h⟩
  · exact ⟨fun l e => Nat.le_trans (rdSpan_len e) h, Nat.le_trans (rdSpan_le _ _) h⟩
theorem rdCBytes_b (s : RS) : (∀ l, (rdCBytes s).1 = some l → l.length ≤ s.src.length) ∧ (rdCBytes s).2.src.length ≤ s.src.length := by
  have h := rdCl_le s
  simp only [rdCBytes]
  split
  · exact ⟨fun l e => by simp only [Option.some.injEq] at e; subst e; simp, h⟩
  · exact ⟨fun l e => Nat.le_trans (rdSpan_len e) h, Nat.le_trans (rdSpan_le _ _) h⟩
theorem rdNullableBytes_b (s : RS) : (∀ l, (rdNullableBytes s).1 = some l → l.length ≤ s.src.length) ∧ (rdNullableBytes s).2.src.length ≤ s.src.length := by
  have h := rdN_le 4 s
  simp only [rdNullableBytes]
  split
  · exact ⟨by simp, h⟩
  · exact ⟨fun l e => Nat.le_trans (rdSpan_len e) h, Nat.le_trans (rdSpan_le _ _) h⟩
theorem rdCNullableBytes_b (s : RS) : (∀ l, (rdCNullableBytes s).1 = some l → l.length ≤ s.src.length) ∧ (rdCNullableBytes s).2.src.length ≤ s.src.length := by
  have h := rdCl_le s
  simp only [rdCNullableBytes]
  split
  · exact ⟨by simp, h⟩
  · exact ⟨fun l e => Nat.le_trans (rdSpan_len e) h, Nat.le_trans (rdSpan_le _ _) h⟩
theorem rdUuid_b (s : RS) : (rdUuid s).1.length = 16 ∧ (rdUuid s).2.src.length ≤ s.src.length := ⟨rdUuid_len s, rdSpan_le _ _⟩
theorem uvR_pos : ∀ (n : Nat) (l : List UInt8) (v k : Nat), uvR n l = some (v, k) → 1 ≤ k ∧ l ≠ []
  | 0, l, v, k, h => by simp [uvR] at h
  | n + 1, [], v, k, h => by simp [uvR] at h
  | n + 1, b :: r, v, k, h => by
    refine ⟨?_, by simp⟩
    simp only [uvR] at h
    split at h
    · split at h
      · simp at h
      · simp only [Option.some.injEq, Prod.mk.injEq] at h; omega
    · split at h
      · simp only [Option.some.injEq, Prod.mk.injEq] at h; omega
      · simp at h
theorem rdUv_step (s : RS) : (rdUv s).2.src.length + 1 ≤ s.src.length ∨ (rdUv s).1 = 0 := by
  unfold rdUv
  split
  · rename_i v k h
    obtain ⟨h1, h2⟩ := uvR_pos _ _ _ _ h
    left
    have : 0 < s.src.length := List.length_pos_iff.2 h2
    simp; omega
  · exact .inr rfl
theorem putTag_len (m : List (Nat × List UInt8)) (k : Nat) (l : List UInt8) : (putTag m k l).length = if k ∈ m.map (·.1) then m.length else m.length + 1 := by
  have := congrArg List.length (putTag_keys m k l)
  rw [List.length_map] at this
  rw [this]
  split <;> simp
theorem putTag_mem {m : List (Nat × List UInt8)} {k : Nat} {l : List UInt8} {p : Nat × List UInt8} (h : p ∈ putTag m k l) : p ∈ m ∨ p.2 = l := by
  induction m with
  | nil => simp only [putTag, List.mem_singleton] at h; subst h; exact .inr rfl
  | cons q m ih =>
    obtain ⟨k', l'⟩ := q
    simp only [putTag] at h
    split at h
    · rcases List.mem_cons.1 h with rfl | h
      · exact .inr rfl
      · exact .inl (List.mem_cons_of_mem _ h)
    · rcases List.mem_cons.1 h with rfl | h
      · exact .inl List.mem_cons_self
      · exact (ih h).imp (List.mem_cons_of_mem _) id
theorem rdTagsN_b : ∀ (n : Nat) (m : List (Nat × List UInt8)) (s : RS) (N : Nat), s.src.length ≤ N → (∀ p ∈ m, p.2.length ≤ N) →
    (rdTagsN n m s).1.length ≤ m.length + s.src.length + (if 0 ∈ m.map (·.1) then 0 else 1) ∧ (∀ p ∈ (rdTagsN n m s).1, p.2.length ≤ N) ∧ (rdTagsN n m s).2.src.length ≤ s.src.length
  | 0, m, s, N, hs, hm => by simp only [rdTagsN]; exact ⟨by omega, hm, Nat.le_refl _⟩
  | n + 1, m, s, N, hs, hm => by
    simp only [rdTagsN]
    have a1 := rdUv_le s
    have a2 := rdUv_le (rdUv s).2
    have a3 := rdSpan_le (rdUv (rdUv s).2).1 (rdUv (rdUv s).2).2
    have a4 := rdSpan_getD (rdUv (rdUv s).2).1 (rdUv (rdUv s).2).2
    have st := rdUv_step s
    generalize (rdSpan (rdUv (rdUv s).2).1 (rdUv (rdUv s).2).2).1.getD [] = o at *
    generalize (rdSpan (rdUv (rdUv s).2).1 (rdUv (rdUv s).2).2).2 = s3 at *
    obtain ⟨h1, h2, h3⟩ := rdTagsN_b n (putTag m (rdUv s).1 o) s3 N (by omega) (fun p hp => by
      rcases putTag_mem hp with hp | hp
      · exact hm p hp
      · rw [hp]; omega)
    generalize rdTagsN n (putTag m (rdUv s).1 o) s3 = r at h1 h2 h3 ⊢
    refine ⟨?_, h2, by omega⟩
    have hk := putTag_keys m (rdUv s).1 o
    rw [putTag_len] at h1
    rw [hk] at h1
    by_cases hin : (rdUv s).1 ∈ m.map (·.1)
    · simp only [if_pos hin] at h1
      split at h1 <;> rename_i h0
      · rw [if_pos h0]; omega
      · rw [if_neg h0]; omega
    · simp only [if_neg hin] at h1
      by_cases hz : (rdUv s).1 = 0
      · rw [hz] at hin h1
        rw [if_neg hin]
        rw [if_pos (by simp)] at h1
        omega
      · have hst := st.resolve_right hz
        have e0 : (0 ∈ m.map (·.1) ++ [(rdUv s).1]) ↔ 0 ∈ m.map (·.1) := by
          simp only [List.mem_append, List.mem_singleton]
          exact ⟨fun h => h.resolve_right fun h => hz h.symm, .inl⟩
        simp only [e0] at h1
        omega
theorem rdTags_b (s : RS) : (rdTags s).1.length ≤ s.src.length ∧ (∀ p ∈ (rdTags s).1, p.2.length ≤ s.src.length) ∧ (rdTags s).2.src.length ≤ s.src.length := by
  unfold rdTags
  have a1 := rdUv_le s
  obtain ⟨h1, h2, h3⟩ := rdTagsN_b (rdUv s).1 [] (rdUv s).2 s.src.length a1 (by simp)
  refine ⟨?_, h2, by omega⟩
  rcases rdUv_step s with h | h
  · simp at h1; omega
  · rw [h]; simp [rdTagsN]
theorem decStd_ok : decStd.Ok where
  short := decStd_short
  lenle := fun x s => by
    have h := rdN_le 4 s
    have h2 := rdUv_le s
    simp only [decStd]
    split
    · simp only [rdCArrayLen]; split
      · simp [RS.fail]
      · exact h2
    · simp only [rdArrayLen]; split
      · simp [RS.fail]
      · exact h
  prle := fun p x s => by
    cases p <;> simp only [decStd]
    · exact rdN_le _ _
    · exact rdN_le _ _
    · exact rdN_le _ _
    · exact rdN_le _ _
    · exact rdN_le _ _
    · exact rdN_le _ _
    · exact rdN_le _ _
    · exact (rdUuid_b s).2
    · split
      · exact (rdCString_b s).2
      · exact (rdString_b s).2
    · split
      · exact (rdCNullableString_b s).2
      · exact (rdNullableString_b s).2
    · split
      · exact (rdCBytes_b s).2
      · exact (rdBytes_b s).2
    · split
      · exact (rdCNullableBytes_b s).2
      · exact (rdNullableBytes_b s).2
  ty := fun p x s hs => by
    cases p <;> simp only [decStd, PK.ty]
    · exact ⟨_, rfl⟩
    · exact ⟨_, _, rfl⟩
    · exact ⟨_, _, rfl⟩
    · exact ⟨_, _, rfl⟩
    · exact ⟨_, _, rfl⟩
    · exact ⟨_, rfl, i64_wrap_wrap _⟩
    · exact ⟨_, _, rfl⟩
    · exact ⟨_, rfl, (rdUuid_b s).1⟩
    · split
      · exact ⟨_, rfl⟩
      · exact ⟨_, rfl⟩
    · split
      · exact ⟨_, rfl⟩
      · exact ⟨_, rfl⟩
    · split
      · exact ⟨_, rfl, fun l h => Nat.le_trans ((rdCBytes_b s).1 l h) hs⟩
      · exact ⟨_, rfl, fun l h => Nat.le_trans ((rdBytes_b s).1 l h) hs⟩
    · split
      · exact ⟨_, rfl, fun l h => Nat.le_trans ((rdCNullableBytes_b s).1 l h) hs⟩
      · exact ⟨_, rfl, fun l h => Nat.le_trans ((rdNullableBytes_b s).1 l h) hs⟩
  tagle := fun s => (rdTags_b s).2.2
  tagty := fun s hs => ⟨Nat.le_trans (rdTags_b s).1 hs, fun p hp => Nat.le_trans ((rdTags_b s).2.1 p hp) hs⟩
theorem decStd_small : decStd.Small := fun p x s hs => by
  have nb : ∀ {o : Option (List UInt8)}, (∀ l, o = some l → l.length ≤ s.src.length) → (GV.nstr o).sm := fun {o} h => by
    refine ⟨?_, fun m e => by simp at e⟩
    cases o with
    | none => simp [GV.told, TR.small, TR.smallL]
    | some l => have := h l rfl; simp only [GV.told, TR.small, TR.smallL]; simp; omega
  have yb : ∀ {o : Option (List UInt8)}, (∀ l, o = some l → l.length ≤ s.src.length) → (GV.byt o).sm := fun {o} h => by
    refine ⟨?_, fun m e => by simp at e⟩
    cases o with
    | none => simp [GV.told, TR.small, TR.smallL]
    | some l => have := h l rfl; simp only [GV.told, TR.small, TR.smallL]; simp; omega
  cases p <;> simp only [decStd]
  · exact num_sm (by simp)
  · exact num_sm (by simp)
  · exact num_sm (by simp)
  · exact num_sm (by simp)
  · exact num_sm (by simp)
  · exact num_sm (by simp)
  · exact num_sm (by simp)
  · refine ⟨?_, fun m e => by simp at e⟩
    have := (rdUuid_b s).1
    simp only [GV.told, TR.small, TR.smallL]; simp; omega
  · split
    · exact str_sm (Nat.le_trans (rdCString_b s).1 hs)
    · exact str_sm (Nat.le_trans (rdString_b s).1 hs)
  · split
    · exact nb (rdCNullableString_b s).1
    · exact nb (rdNullableString_b s).1
  · split
    · exact yb (rdCBytes_b s).1
    · exact yb (rdBytes_b s).1
  · split
    · exact yb (rdCNullableBytes_b s).1
    · exact yb (rdNullableBytes_b s).1
end Go.Msk

namespace Go.Msk
open Go.RowKit
set_option maxRecDepth 100000
def newCode (z : List Value) (dfl : FuncId) : IC × List RV × Nat :=
  (.seq (.blk [⟨some 0, .mv (.const (.pointer none)), none⟩]) (.seq (.blk [⟨some 1, .alloc z, none⟩]) (.seq (.blk [⟨some 2, .call dfl [.tmp 1], none⟩]) (.seq (.blk [⟨some 0, .mv (.tmp 1), none⟩]) .ret))), [.tmp 0], 3)
def maxCode (v : Int) : IC × List RV × Nat :=
  (.seq (.blk [⟨some 2, .mv (.const (.int .i16 0)), none⟩]) (.seq (.blk [⟨some 2, .mv (.const (.int .i16 v)), none⟩]) .ret), [.tmp 2], 3)
def setCode : IC × List RV × Nat :=
  (.blk [⟨some 4, .mv (.tmp 0), none⟩, ⟨some 5, .mv (.tmp 1), none⟩, ⟨some 6, .nilc (.tmp 4), none⟩, ⟨some 7, .fad (.tmp 6) 0, none⟩, ⟨none, .st (.tmp 7) 1 (.tmp 5), none⟩], [], 8)
def rfCode (f : FuncId) (u : Bool) : IC × List RV × Nat :=
  (.seq (.blk [⟨some 4, .mv (.const .nilIface), none⟩]) (.seq (.blk [⟨some 5, .mv (.tmp 0), none⟩, ⟨some 6, .mv (.tmp 1), none⟩, ⟨some 7, .call f [.tmp 5, .tmp 6, .const (.bool u)], none⟩, ⟨some 4, .mv (.tmp 7), none⟩]) .ret), [.tmp 4], 8)
def impMaxCode (newp mxv : FuncId) : IC × List RV × Nat :=
  (.seq (.blk [⟨some 0, .mv (.const (.int .i64 0)), none⟩]) (.seq (.blk [⟨some 1, .call newp [], none⟩, ⟨some 2, .call mxv [.tmp 1], none⟩, ⟨some 3, .conv .i64 (.tmp 2), none⟩, ⟨some 0, .mv (.tmp 3), none⟩]) .ret), [.tmp 0], 4)
section
variable {P : Program}
attribute [local simp] bnd wpC wpR RI.wp gOk RK.run thenC inBlockC updo upd ev args0 postC rvals RV.val tup_one isShift
theorem new_call (hm : P.follows .mixedOrders = true) {f dfl : FuncId} {z d : List Value} (h : liftF P f = some (newCode z dfl)) (hd : DfC P dfl z d) {w : World} :
    Calls P f #[] w fun e w' => e = .returned (.pointer (some ⟨w.heap.size, 0, none⟩)) ∧ Blk w' w.heap.size d ∧ Mod [] w w' := by
  refine call_of (args := []) h hm (by simp) ?_
  simp
  intro T
  have hb := Blk.new w z T
  have hm1 : Mod [] w (w.alloc (.cells z.toArray T)) := Mod.alloc _ _ _
  have := hd (w.alloc (.cells z.toArray T)) w.heap.size [] [] (by simpa using hb)
  refine (show Calls P dfl _ _ _ from this).mono ?_
  rintro e w' ⟨rfl, h1, h2⟩
  refine ⟨⟨_, rfl⟩, by simpa using h1, ?_⟩
  exact Mod.drop (b := w.heap.size) (S := []) (hm1.nil.trans h2) (Nat.le_refl _)
theorem max_call (hm : P.follows .mixedOrders = true) {f : FuncId} {v : Int} (h : liftF P f = some (maxCode v)) {w : World} {p : Value} :
    Calls P f [p].toArray w fun e w' => e = .returned (.int .i16 v) ∧ w' = w := by
  refine call_of h hm (by simp) ?_
  simp
theorem set_call (hm : P.follows .mixedOrders = true) {f : FuncId} (h : liftF P f = some setCode) {w : World} {b : Nat} {v : Int} {x : Value} {cs : List Value} (hb : Blk w b (x :: cs)) :
    Calls P f [.pointer (some ⟨b, 0, none⟩), .int .i16 v].toArray w fun e w' => e = .returned (.tuple #[]) ∧ Blk w' b (.int .i16 v :: cs) ∧ Mod [b] w w' := by
  refine call_of h hm (by simp) ?_
  have hput : Mod [b] w (putCells w ⟨b, 0, none⟩ 0 [.int .i16 v]) := Mod.put (by simp)
  have hp := hb.put (o := 0) (vs := [.int .i16 v]) (by simp)
  have e : splice (x :: cs) 0 [.int .i16 v] = .int .i16 v :: cs := by simp [splice]
  rw [e] at hp
  simp [Addr.add_mk, Value.cells]
  exact ⟨stOk_one hb (by simp) rfl, by simp [tup], hp, hput⟩
theorem rf_call (hm : P.follows .mixedOrders = true) {f g : FuncId} {u : Bool} (h : liftF P f = some (rfCode g u)) {w : World} {p s : Value} {R : Ending → World → Prop} (hR : ∀ e w', R e w' → ∃ v, e = .returned v)
    (hc : Calls P g [p, s, .bool u].toArray w R) : Calls P f [p, s].toArray w R := by
  refine call_of h hm (by simp) ?_
  simp
  refine hc.mono fun e w' he => ?_
  obtain ⟨v, rfl⟩ := hR e w' he
  exact ⟨v, rfl, he⟩
theorem impMax_call (hm : P.follows .mixedOrders = true) {f newp mxv dfl : FuncId} {z d : List Value} {v : Int} (h : liftF P f = some (impMaxCode newp mxv)) (hn : liftF P newp = some (newCode z dfl)) (hd : DfC P dfl z d) (hx : liftF P mxv = some (maxCode v)) (hv : 0 ≤ v ∧ v < 32768) {w : World} :
    Calls P f #[] w fun e w' => e = .returned (.int .i64 v) ∧ Mod [] w w' := by
  refine call_of (args := []) h hm (by simp) ?_
  simp
  refine (new_call hm hn hd).mono ?_
  rintro e w1 ⟨rfl, -, hm1⟩
  refine ⟨_, rfl, ?_⟩
  refine (show Calls P mxv _ _ _ from max_call hm hx).mono ?_
  rintro e w2 ⟨rfl, rfl⟩
  have e1 : IntKind.i64.wrap v = v := by simp [IntKind.wrap, IntKind.bits, IntKind.signed]; omega
  simp [e1, hm1]
end
end Go.Msk

namespace Go.Msk
open Go.RowKit
set_option maxRecDepth 100000
def tellCode (newp setv rf tell : FuncId) : IC × List RV × Nat :=
  (.seq (.blk [⟨some 4, .alloc tzero, none⟩, ⟨some 5, .mv (.const (.bool false)), none⟩]) (.seq (.blk [⟨some 7, .call newp [], none⟩, ⟨some 6, .mv (.tmp 7), none⟩])
    (.seq (.blk [⟨some 8, .mv (.tmp 6), none⟩, ⟨some 9, .mv (.tmp 0), none⟩, ⟨some 10, .conv .i16 (.tmp 9), none⟩, ⟨some 11, .call setv [.tmp 8, .tmp 10], none⟩])
    (.seq (.seq (.blk [⟨some 12, .mv (.tmp 6), none⟩, ⟨some 13, .mv (.tmp 1), none⟩, ⟨some 14, .append (.const (.slice none 0 0)) (.tmp 13) 1 1, none⟩, ⟨some 15, .call rf [.tmp 12, .tmp 14], none⟩, ⟨some 16, .isnil .ic true (.tmp 15), none⟩])
      (.cond (.tmp 16) (.seq (.blk [⟨some 17, .build tzero [], none⟩, ⟨none, .st (.tmp 4) 5 (.tmp 17), none⟩, ⟨some 5, .mv (.const (.bool false)), none⟩]) .ret) .skip))
    (.seq (.blk [⟨some 18, .mv (.tmp 6), none⟩, ⟨some 19, .call tell [.tmp 18], none⟩, ⟨none, .st (.tmp 4) 5 (.tmp 19), none⟩, ⟨some 5, .mv (.const (.bool true)), none⟩]) .ret)))),
   [.cells 4 5, .tmp 5], 20)
def Top.tells (T : Top) (D : Dec) (ver : Int) (src : List UInt8) : Option TR :=
  match T.dec D ver ⟨src, false, src.isEmpty⟩ with
  | none => none
  | some ((_, gs), s) => if s.bad then none else some (GV.rcd gs).told
section
variable {P : Program} {D : Dec}
end
end Go.Msk

namespace Go.Msk
open Go.RowKit
set_option maxRecDepth 100000
section
variable {P : Program} {D : Dec}
theorem tell_first {T : Top} (hm : P.follows .mixedOrders = true) {newp setv : FuncId} {z : List Value} (hn : liftF P newp = some (newCode z T.dfl))
    (hz : DfC P T.dfl z (.int .i16 0 :: T.sc.dcs.flatten)) (hs : liftF P setv = some setCode) {w1 : World} {ver : Int} {_v : Value} (hver : IntKind.i16.wrap ver = ver) {σ : Sl} {rest : IC} {Q : Exit → Sl → World → Prop}
    (a0 : σ 0 = .int .i64 ver) (hQ : ∀ σ' w', (∀ j, j < 6 → σ' j = σ j) → σ' 6 = .pointer (some ⟨w1.heap.size, 0, none⟩) → Blk w' w1.heap.size (.int .i16 ver :: T.sc.dcs.flatten) → Mod [] w1 w' → wpC P rest Q σ' w') :
    wpC P (.seq (.blk [⟨some 7, .call newp [], none⟩, ⟨some 6, .mv (.tmp 7), none⟩])
      (.seq (.blk [⟨some 8, .mv (.tmp 6), none⟩, ⟨some 9, .mv (.tmp 0), none⟩, ⟨some 10, .conv .i16 (.tmp 9), none⟩, ⟨some 11, .call setv [.tmp 8, .tmp 10], none⟩]) rest)) Q σ w1 := by
  rw [wpC_seq, wpC_blk]
  refine wpR_call (vs := []) rfl (new_call hm hn hz) ?_
  rintro e w2 ⟨rfl, bS, m2⟩
  refine ⟨_, rfl, ?_⟩
  refine wpR_step (v := .pointer (some ⟨w1.heap.size, 0, none⟩)) rfl ?_
  simp only [wpR, thenC]
  rw [wpC_seq, wpC_blk]
  refine wpR_step (v := .pointer (some ⟨w1.heap.size, 0, none⟩)) rfl ?_
  refine wpR_step (v := .int .i64 ver) (congrArg some a0) ?_
  refine wpR_step (v := .int .i16 ver) (by simp only [RK.val?, ev, updo, upd_same, hver]) ?_
  refine wpR_call (vs := [.pointer (some ⟨w1.heap.size, 0, none⟩), .int .i16 ver]) rfl (set_call hm hs bS) ?_
  rintro e w3 ⟨rfl, bS3, m3⟩
  refine ⟨_, rfl, ?_⟩
  simp only [wpR, thenC]
  refine hQ _ w3 (fun j hj => ?_) rfl bS3 (Mod.drop (b := w1.heap.size) (S := []) (m2.nil.trans m3) (Nat.le_refl _))
  simp only [updo, upd, show j ≠ 6 by omega, show j ≠ 7 by omega, show j ≠ 8 by omega, show j ≠ 9 by omega, show j ≠ 10 by omega, show j ≠ 11 by omega, if_false]
end
end Go.Msk

namespace Go.Msk
open Go.RowKit
set_option maxRecDepth 100000
section
variable {P : Program} {D : Dec}
theorem tell_read {T : Top} {g : Nat} {u : Bool} (hm : P.follows .mixedOrders = true) {rf rd : FuncId} (hr : liftF P rf = some (rfCode rd u)) (hrd : liftF P rd = some T.gen) (hT : T.Ok P D g u) {w : World} {b0 : Nat} {ver : Int} {v : Value} {src : List UInt8} {ok : Nat → Prop}
    {Te : TypeId} {ve : Value} {σ : Sl} {A B : IC} {Q : Exit → Sl → World → Prop} (hb : Blk w b0 (.int .i16 ver :: T.sc.dcs.flatten)) (hsrc : SlC ok w v src.length (u8s src)) (hl : src.length ≤ 2147483647) (hg : GErr g w Te ve) (hgb : g ≠ b0)
    (a6 : σ 6 = .pointer (some ⟨b0, 0, none⟩)) (a1 : σ 1 = v)
    (hbad : ∀ σ' w', (∀ j, j < 12 → σ' j = σ j) → Mod [b0] w w' → (match T.dec D ver ⟨src, false, src.isEmpty⟩ with | none => True | some (_, s) => s.bad = true) → wpC P A Q σ' w')
    (hgood : ∀ σ' w' vr gs s css, (∀ j, j < 12 → σ' j = σ j) → Mod [b0] w w' → T.dec D ver ⟨src, false, src.isEmpty⟩ = some ((vr, gs), s) → s.bad = false → RepL [b0] w' gs css → Blk w' b0 (.int .i16 vr :: css.flatten) → wpC P B Q σ' w') :
    wpC P (.seq (.blk [⟨some 12, .mv (.tmp 6), none⟩, ⟨some 13, .mv (.tmp 1), none⟩, ⟨some 14, .append (.const (.slice none 0 0)) (.tmp 13) 1 1, none⟩, ⟨some 15, .call rf [.tmp 12, .tmp 14], none⟩, ⟨some 16, .isnil .ic true (.tmp 15), none⟩])
      (.cond (.tmp 16) A B)) Q σ w := by
  rw [wpC_seq, wpC_blk]
  refine wpR_step (v := .pointer (some ⟨b0, 0, none⟩)) (congrArg some a6) ?_
  refine wpR_step (v := v) (congrArg some a1) ?_
  refine wpR_run ?_
  refine appendNil_bytes (v := v) rfl hsrc hl fun base cap w1 hby hnil hblk hm1 => ?_
  have hb1 := hb.mod hm1 (by simp)
  have hg1 : GErr g w1 Te ve := cell_mod hg hm1 (by simp)
  have hread := Top.read_call hm hrd hT hb1 hby (fun a ha => ⟨by have := (hblk a ha).1; have := hb.lt; omega, (hblk a ha).2⟩) (by omega) hg1 hgb
  rw [hnil] at hread
  refine wpR_call (vs := [.pointer (some ⟨b0, 0, none⟩), .slice base src.length cap]) rfl (rf_call hm hr (R := fun e w' => Mod [b0] w1 w' ∧
      match T.dec D ver ⟨src, false, src.isEmpty⟩ with
      | none => e = .returned (.iface Te ve)
      | some ((v, gs), s) => e = .returned (errVal s.bad Te ve) ∧ ∃ css, RepL [b0] w' gs css ∧ css.flatten.length = T.sc.dcs.flatten.length ∧ Blk w' b0 (.int .i16 v :: css.flatten)) (fun e w' he => ?_) hread) ?_
  · obtain ⟨-, he⟩ := he
    split at he
    · exact ⟨_, he⟩
    · exact ⟨_, he.1⟩
  rintro e w2 ⟨hm2, he⟩
  have hfr : ∀ (x y z t : Value) j, j < 12 → (updo (updo (updo (updo (updo σ (some 12) (.pointer (some ⟨b0, 0, none⟩))) (some 13) v) (some 14) x) (some 15) y) (some 16) z) j = σ j := fun x y z t j hj => by
    simp only [updo, upd, show j ≠ 12 by omega, show j ≠ 13 by omega, show j ≠ 14 by omega, show j ≠ 15 by omega, show j ≠ 16 by omega, if_false]
  have hm12 : Mod [b0] w w2 := hm1.nil.trans hm2
  cases hd : T.dec D ver ⟨src, false, src.isEmpty⟩ with
  | none =>
    rw [hd] at he hbad
    simp only at he
    refine ⟨_, he, ?_⟩
    refine wpR_step (v := .bool true) rfl ?_
    simp only [wpR, thenC]
    rw [wpC_cond_t rfl]
    exact hbad _ w2 (hfr _ _ _ undef) hm12 trivial
  | some q =>
    obtain ⟨⟨vr, gs⟩, s⟩ := q
    rw [hd] at he hbad
    obtain ⟨he, css, hrep, hlen, hblk2⟩ := he
    refine ⟨_, he, ?_⟩
    cases hbd : s.bad with
    | true =>
      refine wpR_step (v := .bool true) rfl ?_
      simp only [wpR, thenC]
      rw [wpC_cond_t rfl]
      exact hbad _ w2 (hfr _ _ _ undef) hm12 hbd
    | false =>
      refine wpR_step (v := .bool false) rfl ?_
      simp only [wpR, thenC]
      rw [wpC_cond_f rfl]
      exact hgood _ w2 vr gs s css (hfr _ _ _ undef) hm12 hd hbd hrep hblk2
end
end Go.Msk

namespace Go.Msk
open Go.RowKit
set_option maxRecDepth 100000
section
variable {P : Program} {D : Dec}
theorem doorRet {σ : Sl} {w w0 : World} {t b4 : Nat} {cs : List Value} {tr : TR} {b : Bool} (h4 : σ 4 = .pointer (some ⟨b4, 0, none⟩)) (hb : Blk w b4 tzero) (ht : σ t = .agg cs.toArray) (hrep : RepT (fun b => w0.heap.size ≤ b ∧ b ≠ b4) w tr cs)
    (hm : Mod [b4] w0 w) (hw0 : w0.heap.size ≤ b4) : wpR P [⟨none, .st (.tmp 4) 5 (.tmp t), none⟩, ⟨some 5, .mv (.const (.bool b)), none⟩] σ w
      (thenC (wpC P .ret (postC [.cells 4 5, .tmp 5] (fun e w' => Mod [] w0 w' ∧ ∃ cs, RepT (fun b => w0.heap.size ≤ b) w' tr cs ∧ e = .returned (.tuple #[.agg cs.toArray, .bool b]))))
        (postC [.cells 4 5, .tmp 5] (fun e w' => Mod [] w0 w' ∧ ∃ cs, RepT (fun b => w0.heap.size ≤ b) w' tr cs ∧ e = .returned (.tuple #[.agg cs.toArray, .bool b]))) .normal) := by
  have h5 := hrep.five
  have hput : Mod [b4] w (putCells w ⟨b4, 0, none⟩ 0 cs) := Mod.put (by simp)
  have hp := hb.put (o := 0) (vs := cs) (by simp [h5, tzero])
  rw [splice_all (by rw [h5]; rfl)] at hp
  have ec : (Value.agg cs.toArray).cells = cs.toArray := rfl
  refine wpR_run ?_
  simp only [RK.run, ev, h4, ht, ec]
  refine ⟨by simp [h5], stOk_many hb (by simp [h5, tzero]) (by simpa using hrep.oneCell), ?_⟩
  refine wpR_step (v := .bool b) rfl ?_
  refine wpR_done ?_
  simp only [wpC, postC, rvals, List.mapM_cons, List.mapM_nil, RV.val, updo, upd, show (4 : Nat) ≠ 5 by omega, if_false, if_true, h4, cellsAt_of' hp.cells h5, Option.bind_eq_bind, Option.map_some, Option.bind_some, Option.pure_def, tup]
  exact ⟨Mod.drop (b := b4) (S := []) (hm.trans hput) hw0, cs, hrep.mod hput (fun b hb hx => by simp only [List.mem_singleton] at hb; exact hx.2 hb) (fun b _ hb => hb.1), rfl⟩
theorem tells_none {T : Top} {ver : Int} {src : List UInt8} (h : match T.dec D ver ⟨src, false, src.isEmpty⟩ with | none => True | some (_, s) => s.bad = true) : T.tells D ver src = none := by
  unfold Top.tells
  revert h
  cases T.dec D ver ⟨src, false, src.isEmpty⟩ with
  | none => intro _; rfl
  | some q => obtain ⟨⟨vr, gs⟩, s⟩ := q; intro h; simp only at h; simp only [h, if_true]
theorem tell_call {T : Top} {g : Nat} {u : Bool} (hm : P.follows .mixedOrders = true) {f newp setv rf rd tell : FuncId} {z : List Value} {tl : Tl} (h : liftF P f = some (tellCode newp setv rf tell)) (hn : liftF P newp = some (newCode z T.dfl))
    (hz : DfC P T.dfl z (.int .i16 0 :: T.sc.dcs.flatten)) (hs : liftF P setv = some setCode) (hr : liftF P rf = some (rfCode rd u)) (hrd : liftF P rd = some T.gen) (hT : T.Ok P D g u) (htl : TellAt P tell 1 tl.ty)
    {w : World} {ver : Int} {v : Value} {src : List UInt8} {ok : Nat → Prop} {Te : TypeId} {ve : Value} (hty : ∀ vr gs s, T.dec D ver ⟨src, false, src.isEmpty⟩ = some ((vr, gs), s) → tl.ty gs)
    (hsrc : SlC ok w v src.length (u8s src)) (hl : src.length ≤ 2147483647) (hver : IntKind.i16.wrap ver = ver) (hg : GErr g w Te ve) :
    Calls P f [.int .i64 ver, v].toArray w fun e w' => Mod [] w w' ∧ ∃ cs, RepT (fun b => w.heap.size ≤ b) w' ((T.tells D ver src).getD .zero) cs ∧ e = .returned (.tuple #[.agg cs.toArray, .bool (T.tells D ver src).isSome]) := by
  unfold tellCode at h
  refine call_of h hm (by simp) ?_
  have a0 : args0 [.int .i64 ver, v] 0 = .int .i64 ver := rfl
  have a1 : args0 [.int .i64 ver, v] 1 = v := rfl
  generalize args0 [.int .i64 ver, v] = σ0 at a0 a1 ⊢
  rw [wpC_seq, wpC_blk]
  refine wpR_run ?_
  intro T1
  have bR := Blk.new w tzero T1
  have m1 : Mod [] w (w.alloc (.cells tzero.toArray T1)) := Mod.alloc _ _ _
  have z1 : (w.alloc (.cells tzero.toArray T1)).heap.size = w.heap.size + 1 := by simp
  generalize w.alloc (.cells tzero.toArray T1) = w1 at bR m1 z1 ⊢
  refine wpR_step (v := .bool false) rfl ?_
  refine wpR_done ?_
  refine tell_first (T := T) (_v := v) hm hn hz hs hver (show updo (updo σ0 (some 4) _) (some 5) _ 0 = _ from a0) fun σ3 w3 a3 s6 bS m13 => ?_
  have m03 := m1.trans m13
  have hsrc3 := hsrc.mod (ok' := ok) m03 (by simp) fun _ _ h => h
  have hgl : g < w.heap.size := World.block_lt_of_cell? w ⟨g, 0, none⟩ hg
  have s4 : σ3 4 = .pointer (some ⟨w.heap.size, 0, none⟩) := a3 4 (by omega)
  have s1 : σ3 1 = v := (a3 1 (by omega)).trans a1
  have bR3 := bR.mod m13 (by simp)
  rw [wpC_seq]
  refine tell_read hm hr hrd hT bS hsrc3 hl (cell_mod hg m03 (by simp)) (by omega) s6 s1 (fun σ4 w4 a4 m34 hbad => ?_) fun σ4 w4 vr gs s css a4 m34 hd hok hrep hblk => ?_
  · rw [tells_none hbad]
    have m04 : Mod [] w w4 := Mod.drop (b := w1.heap.size) (S := []) (m03.nil.trans m34) (by omega)
    have h4 : σ4 4 = .pointer (some ⟨w.heap.size, 0, none⟩) := (a4 4 (by omega)).trans s4
    rw [wpC_seq, wpC_blk]
    refine wpR_step (v := .agg tzero.toArray) rfl ?_
    exact doorRet (tr := .zero) (show updo σ4 (some 17) _ 4 = _ from h4) (bR3.mod m34 (by simp; omega)) rfl RepT.zero m04.nil (Nat.le_refl _)
  · have htells : T.tells D ver src = some (GV.rcd gs).told := by
      unfold Top.tells; rw [hd]; simp only [hok, Bool.false_eq_true, if_false]
    rw [htells]
    have m04 : Mod [] w w4 := Mod.drop (b := w1.heap.size) (S := []) (m03.nil.trans m34) (by omega)
    have h4 : σ4 4 = .pointer (some ⟨w.heap.size, 0, none⟩) := (a4 4 (by omega)).trans s4
    have h6 : σ4 6 = .pointer (some ⟨w1.heap.size, 0, none⟩) := (a4 6 (by omega)).trans s6
    have bR4 := bR3.mod m34 (by simp; omega)
    have hc : Cells w4 ⟨w1.heap.size, 0 + 1, none⟩ css.flatten := by simpa using hblk.cells.sub 1
    rw [wpC_skip]; simp only [thenC]
    rw [wpC_seq, wpC_blk]
    refine wpR_step (v := .pointer (some ⟨w1.heap.size, 0, none⟩)) (congrArg some h6) ?_
    refine wpR_call (vs := [.pointer (some ⟨w1.heap.size, 0, none⟩)]) rfl (htl [w1.heap.size] w4 w1.heap.size 0 gs css (hty _ _ _ hd) hrep hblk.lt hc) ?_
    rintro e w5 ⟨cs, rfl, hrt, m45⟩
    refine ⟨_, rfl, ?_⟩
    exact doorRet (show updo (updo σ4 (some 18) _) (some 19) _ 4 = _ from h4) (bR4.mod m45 (by simp)) rfl
      (hrt.mod (Mod.refl [] _) (by simp) fun b _ hb => by have := m04.size; have := bR4.lt; omega) ((m04.trans m45).nil) (Nat.le_refl _)
end
end Go.Msk

namespace Go.Msk
open Go.RowKit
set_option maxRecDepth 100000
def SameAt (P : Program) (f : FuncId) (t : TR) : Prop :=
  ∀ (w : World) (cs1 cs2 : List Value), RepT (fun _ => True) w t cs1 → RepT (fun _ => True) w t cs2 →
    Calls P f [.agg cs1.toArray, .agg cs2.toArray].toArray w fun e w' => e = .returned (.bool true) ∧ Mod [] w w'
section
variable {P : Program} {F : Nat → Nat}
attribute [local simp] bnd wpC wpR RI.wp gOk RK.run thenC inBlockC updo upd ev args0 postC rvals RV.val tup_one isShift
theorem same_head (hS : ∀ (w : World) (v1 v2 : Value) (l : List UInt8), SlC (fun _ => True) w v1 l.length (u8s l) → SlC (fun _ => True) w v2 l.length (u8s l) → l.length ≤ 2147483647 →
      Calls P (F sSame) [v1, v2].toArray w fun e w' => e = .returned (.bool true) ∧ Mod [] w w')
    {w : World} {p1 p2 : Nat} {n : Int} {null : Bool} {s : List UInt8} {nl nu : Nat} {sv1 sv2 : Value} {lb1 lb2 ub1 ub2 : Option Addr} {lc1 lc2 uc1 uc2 : Nat} {σ : Sl} {Q : Exit → Sl → World → Prop} (hs : s.length ≤ 2147483647)
    (b1 : Blk w p1 [.int .i64 n, sv1, .bool null, .slice lb1 nl lc1, .slice ub1 nu uc1]) (b2 : Blk w p2 [.int .i64 n, sv2, .bool null, .slice lb2 nl lc2, .slice ub2 nu uc2]) (h1 : SlC (fun _ => True) w sv1 s.length (u8s s)) (h2 : SlC (fun _ => True) w sv2 s.length (u8s s))
    (s2 : σ 2 = .pointer (some ⟨p1, 0, none⟩)) (s3 : σ 3 = .pointer (some ⟨p2, 0, none⟩)) (hQ : ∀ σ' w', σ' 2 = .pointer (some ⟨p1, 0, none⟩) → σ' 3 = .pointer (some ⟨p2, 0, none⟩) → Mod [] w w' → Q .normal σ' w') :
    wpC P (.seq (.blk [⟨some 7, .fad (.tmp 2) 0, none⟩, ⟨some 8, .ld (.tmp 7), none⟩, ⟨some 9, .fad (.tmp 3) 0, none⟩, ⟨some 10, .ld (.tmp 9), none⟩, ⟨some 11, .bin .neq (.tmp 8) (.tmp 10), none⟩, ⟨some 12, .mv (.tmp 11), none⟩,
        ⟨some 13, .fad (.tmp 2) 2, some (12, false)⟩, ⟨some 14, .ld (.tmp 13), some (12, false)⟩, ⟨some 15, .fad (.tmp 3) 2, some (12, false)⟩, ⟨some 16, .ld (.tmp 15), some (12, false)⟩, ⟨some 17, .beq true (.tmp 14) (.tmp 16), some (12, false)⟩,
        ⟨some 18, .pick (.tmp 12) (.const (.bool true)) (.tmp 17), none⟩, ⟨some 19, .mv (.tmp 18), none⟩,
        ⟨some 20, .fad (.tmp 2) 1, some (19, false)⟩, ⟨some 21, .ld (.tmp 20), some (19, false)⟩, ⟨some 22, .fad (.tmp 3) 1, some (19, false)⟩, ⟨some 23, .ld (.tmp 22), some (19, false)⟩, ⟨some 24, .call (F sSame) [.tmp 21, .tmp 23], some (19, false)⟩,
        ⟨some 25, .lnot (.tmp 24), some (19, false)⟩, ⟨some 26, .pick (.tmp 19) (.const (.bool true)) (.tmp 25), none⟩, ⟨some 27, .mv (.tmp 26), none⟩,
        ⟨some 28, .fad (.tmp 2) 3, some (27, false)⟩, ⟨some 29, .ld (.tmp 28), some (27, false)⟩, ⟨some 30, .len (.tmp 29), some (27, false)⟩, ⟨some 31, .fad (.tmp 3) 3, some (27, false)⟩, ⟨some 32, .ld (.tmp 31), some (27, false)⟩,
        ⟨some 33, .len (.tmp 32), some (27, false)⟩, ⟨some 34, .bin .neq (.tmp 30) (.tmp 33), some (27, false)⟩, ⟨some 35, .pick (.tmp 27) (.const (.bool true)) (.tmp 34), none⟩, ⟨some 36, .mv (.tmp 35), none⟩,
        ⟨some 37, .fad (.tmp 2) 4, some (36, false)⟩, ⟨some 38, .ld (.tmp 37), some (36, false)⟩, ⟨some 39, .len (.tmp 38), some (36, false)⟩, ⟨some 40, .fad (.tmp 3) 4, some (36, false)⟩, ⟨some 41, .ld (.tmp 40), some (36, false)⟩,
        ⟨some 42, .len (.tmp 41), some (36, false)⟩, ⟨some 43, .bin .neq (.tmp 39) (.tmp 42), some (36, false)⟩, ⟨some 44, .pick (.tmp 36) (.const (.bool true)) (.tmp 43), none⟩])
      (.cond (.tmp 44) (.seq (.blk [⟨some 4, .mv (.const (.bool false)), none⟩]) .ret) .skip)) Q σ w := by
  have c1 := fun k => b1.cell k
  have c2 := fun k => b2.cell k
  rw [wpC_seq, wpC_blk]
  refine wpR_step (v := .pointer (some ⟨p1, 0, none⟩)) (by simp [RK.val?, s2, Addr.add_mk]) ?_
  refine wpR_step (v := .int .i64 n) (by simp [RK.val?, c1]) ?_
  refine wpR_step (v := .pointer (some ⟨p2, 0, none⟩)) (by simp [RK.val?, s3, Addr.add_mk]) ?_
  refine wpR_step (v := .int .i64 n) (by simp [RK.val?, c2]) ?_
  refine wpR_step (v := .bool false) (by simp [RK.val?, intBin]) ?_
  refine wpR_step (v := .bool false) (by simp [RK.val?]) ?_
  refine wpR_stepG (v := .pointer (some ⟨p1, 2, none⟩)) (by simp) (by simp [RK.val?, s2, Addr.add_mk]) ?_
  refine wpR_stepG (v := .bool null) (by simp) (by simp [RK.val?, c1]) ?_
  refine wpR_stepG (v := .pointer (some ⟨p2, 2, none⟩)) (by simp) (by simp [RK.val?, s3, Addr.add_mk]) ?_
  refine wpR_stepG (v := .bool null) (by simp) (by simp [RK.val?, c2]) ?_
  refine wpR_stepG (v := .bool false) (by simp) (by simp [RK.val?]) ?_
  refine wpR_step (v := .bool false) (by simp [RK.val?]) ?_
  refine wpR_step (v := .bool false) (by simp [RK.val?]) ?_
  refine wpR_stepG (v := .pointer (some ⟨p1, 1, none⟩)) (by simp) (by simp [RK.val?, s2, Addr.add_mk]) ?_
  refine wpR_stepG (v := sv1) (by simp) (by simp [RK.val?, c1]) ?_
  refine wpR_stepG (v := .pointer (some ⟨p2, 1, none⟩)) (by simp) (by simp [RK.val?, s3, Addr.add_mk]) ?_
  refine wpR_stepG (v := sv2) (by simp) (by simp [RK.val?, c2]) ?_
  refine wpR_runG (by simp) ?_
  have hcall := hS w sv1 sv2 s h1 h2 hs
  simp only [RK.run, List.map_cons, List.map_nil, ev, updo, upd]
  simp only [show (21 : Nat) ≠ 23 by decide, show (21 : Nat) ≠ 22 by decide, if_true, if_false]
  refine hcall.mono ?_
  rintro e w' ⟨rfl, hm⟩
  refine ⟨_, rfl, ?_⟩
  have d1 := fun k => (b1.mod hm (by simp)).cell k
  have d2 := fun k => (b2.mod hm (by simp)).cell k
  refine wpR_stepG (v := .bool false) (by simp) (by simp [RK.val?]) ?_
  refine wpR_step (v := .bool false) (by simp [RK.val?]) ?_
  refine wpR_step (v := .bool false) (by simp [RK.val?]) ?_
  refine wpR_stepG (v := .pointer (some ⟨p1, 3, none⟩)) (by simp) (by simp [RK.val?, s2, Addr.add_mk]) ?_
  refine wpR_stepG (v := .slice lb1 nl lc1) (by simp) (by simp [RK.val?, d1]) ?_
  refine wpR_stepG (v := .int .i64 nl) (by simp) (by simp [RK.val?]) ?_
  refine wpR_stepG (v := .pointer (some ⟨p2, 3, none⟩)) (by simp) (by simp [RK.val?, s3, Addr.add_mk]) ?_
  refine wpR_stepG (v := .slice lb2 nl lc2) (by simp) (by simp [RK.val?, d2]) ?_
  refine wpR_stepG (v := .int .i64 nl) (by simp) (by simp [RK.val?]) ?_
  refine wpR_stepG (v := .bool false) (by simp) (by simp [RK.val?, intBin]) ?_
  refine wpR_step (v := .bool false) (by simp [RK.val?]) ?_
  refine wpR_step (v := .bool false) (by simp [RK.val?]) ?_
  refine wpR_stepG (v := .pointer (some ⟨p1, 4, none⟩)) (by simp) (by simp [RK.val?, s2, Addr.add_mk]) ?_
  refine wpR_stepG (v := .slice ub1 nu uc1) (by simp) (by simp [RK.val?, d1]) ?_
  refine wpR_stepG (v := .int .i64 nu) (by simp) (by simp [RK.val?]) ?_
  refine wpR_stepG (v := .pointer (some ⟨p2, 4, none⟩)) (by simp) (by simp [RK.val?, s3, Addr.add_mk]) ?_
  refine wpR_stepG (v := .slice ub2 nu uc2) (by simp) (by simp [RK.val?, d2]) ?_
  refine wpR_stepG (v := .int .i64 nu) (by simp) (by simp [RK.val?]) ?_
  refine wpR_stepG (v := .bool false) (by simp) (by simp [RK.val?, intBin]) ?_
  refine wpR_step (v := .bool false) (by simp [RK.val?]) ?_
  simp only [wpR, thenC]
  rw [wpC_cond_f (by simp), wpC_skip]
  refine hQ _ w' ?_ ?_ hm
  · simp [s2]
  · simp [s3]
theorem same_loop1 {w : World} {p1 p2 : Nat} {n : Int} {null : Bool} {l : List TR} {sv1 sv2 lv1 lv2 uv1 uv2 : Value} {css1 css2 : List (List Value)} {σ : Sl} {Q : Exit → Sl → World → Prop} (hf : ∀ t ∈ l, SameAt P (F sSameTree) t) (hlen : l.length ≤ 2147483647)
    (b1 : Blk w p1 [.int .i64 n, sv1, .bool null, lv1, uv1]) (b2 : Blk w p2 [.int .i64 n, sv2, .bool null, lv2, uv2])
    (h1 : SlC (fun _ => True) w lv1 l.length css1.flatten) (r1 : RepTL (fun _ => True) w l css1) (h2 : SlC (fun _ => True) w lv2 l.length css2.flatten) (r2 : RepTL (fun _ => True) w l css2)
    (s2 : σ 2 = .pointer (some ⟨p1, 0, none⟩)) (s3 : σ 3 = .pointer (some ⟨p2, 0, none⟩)) (hQ : ∀ σ' w', σ' 2 = .pointer (some ⟨p1, 0, none⟩) → σ' 3 = .pointer (some ⟨p2, 0, none⟩) → Mod [] w w' → Q .normal σ' w') :
    wpC P (.seq (.blk [⟨some 45, .fad (.tmp 2) 3, none⟩, ⟨some 46, .ld (.tmp 45), none⟩, ⟨some 47, .len (.tmp 46), none⟩, ⟨some 48, .mv (.const (.int .i64 0)), none⟩])
      (.block 0 (.loop (.seq (.blk [⟨some 49, .bin .lss (.tmp 48) (.tmp 47), none⟩]) (.seq (.cond (.tmp 49) .skip (.exit 0))
        (.seq (.block 1 (.seq (.blk [⟨some 50, .mv (.tmp 48), none⟩, ⟨some 5, .mv (.tmp 50), none⟩])
          (.seq (.drw [⟨⟨some 51, .fad (.tmp 2) 3, none⟩, false, []⟩, ⟨⟨some 52, .ld (.tmp 51), none⟩, false, []⟩, ⟨⟨some 53, .mv (.tmp 5), none⟩, false, []⟩, ⟨⟨some 54, .iad (.tmp 52) (.tmp 53) 5, none⟩, false, []⟩, ⟨⟨some 55, .ldn (.tmp 54) 5, none⟩, false, []⟩,
                ⟨⟨some 56, .fad (.tmp 3) 3, none⟩, false, []⟩, ⟨⟨some 57, .ld (.tmp 56), none⟩, false, []⟩, ⟨⟨some 58, .mv (.tmp 5), none⟩, false, []⟩, ⟨⟨some 59, .iad (.tmp 57) (.tmp 58) 5, none⟩, false, []⟩, ⟨⟨some 60, .ldn (.tmp 59) 5, none⟩, false, []⟩,
                ⟨⟨some 61, .call (F sSameTree) [.tmp 55, .tmp 60], none⟩, true, []⟩, ⟨⟨some 62, .lnot (.tmp 61), none⟩, false, [10]⟩] [])
            (.cond (.tmp 62) (.seq (.blk [⟨some 4, .mv (.const (.bool false)), none⟩]) .ret) .skip))))
          (.blk [⟨some 63, .bin .add (.tmp 48) (.const (.int .i64 1)), none⟩, ⟨some 48, .mv (.tmp 63), none⟩])))))))
      Q σ w := by
  obtain ⟨lb1, lc1, e1⟩ := h1.shape
  rw [wpC_seq, wpC_blk]
  refine wpR_step (v := .pointer (some ⟨p1, 3, none⟩)) (by simp [RK.val?, s2, Addr.add_mk]) ?_
  refine wpR_step (v := lv1) (by simp [RK.val?, b1.cell]) ?_
  refine wpR_step (v := .int .i64 l.length) (by simp [RK.val?, e1]) ?_
  refine wpR_step (v := .int .i64 0) (by simp [RK.val?]) ?_
  simp only [wpR, thenC]
  rw [wpC_block, wpC_loop]
  refine ⟨fun σ1 w1 => ∃ j, j ≤ l.length ∧ σ1 2 = .pointer (some ⟨p1, 0, none⟩) ∧ σ1 3 = .pointer (some ⟨p2, 0, none⟩) ∧ σ1 47 = .int .i64 l.length ∧ σ1 48 = .int .i64 j ∧ Mod [] w w1,
    fun σ1 _ => l.length - (match σ1 48 with | .int _ j => j.toNat | _ => 0), ⟨0, Nat.zero_le _, by simp [s2], by simp [s3], by simp, by simp, Mod.refl _ _⟩, ?_⟩
  rintro σ1 w1 ⟨j, hj, t2, t3, t47, t48, hm1⟩
  rw [wpC_seq, wpC_blk]
  refine wpR_step (v := .bool (decide ((j : Int) < l.length))) (by simp [RK.val?, t47, t48, intBin]) ?_
  simp only [wpR, thenC]
  rw [wpC_seq]
  by_cases hlt : j < l.length
  · rw [wpC_cond_t (by simp [hlt]), wpC_skip]
    simp only [thenC]
    rw [wpC_seq, wpC_block, wpC_seq, wpC_blk]
    refine wpR_step (v := .int .i64 j) (by simp [RK.val?, t48]) ?_
    refine wpR_step (v := .int .i64 j) (by simp [RK.val?]) ?_
    simp only [wpR, thenC]
    obtain ⟨tj, htj⟩ : ∃ t, l[j]? = some t := ⟨l[j], List.getElem?_eq_getElem hlt⟩
    have hmd : Mod [] w w1.drew := hm1.trans (Mod.drew _ _)
    have g1 := fun k => (b1.mod hmd (by simp)).cell k
    have g2 := fun k => (b2.mod hmd (by simp)).cell k
    have r1d := r1.mod (ok' := fun _ => True) hmd (by simp) fun _ _ h => h
    have r2d := r2.mod (ok' := fun _ => True) hmd (by simp) fun _ _ h => h
    obtain ⟨c1, hc1, hr1⟩ := r1d.nth htj
    obtain ⟨c2, hc2, hr2⟩ := r2d.nth htj
    obtain ⟨pa1, pc1, ep1, -, hcells1⟩ := (h1.mod (ok' := fun _ => True) hmd (by simp) fun _ _ h => h).flat r1.length r1.five hc1
    obtain ⟨pa2, pc2, ep2, -, hcells2⟩ := (h2.mod (ok' := fun _ => True) hmd (by simp) fun _ _ h => h).flat r2.length r2.five hc2
    rw [wpC_seq]
    show wpD P _ _ _ w1.drew _
    refine wpD_one (.bool true) ?_
    refine walkB_step (v := .pointer (some ⟨p1, 3, none⟩)) (by simp [RK.val?, t2, Addr.add_mk]) ?_
    refine walkB_step (v := lv1) (by simp [RK.val?, g1]) ?_
    refine walkB_step (v := .int .i64 j) (by simp [RK.val?]) ?_
    refine walkB_step (v := .pointer (some (pa1.add (j * 5)))) (by simp [RK.val?, ep1, hlt]) ?_
    refine walkB_step (v := .agg c1.toArray) (by simp [RK.val?, hcells1]) ?_
    refine walkB_step (v := .pointer (some ⟨p2, 3, none⟩)) (by simp [RK.val?, t3, Addr.add_mk]) ?_
    refine walkB_step (v := lv2) (by simp [RK.val?, g2]) ?_
    refine walkB_step (v := .int .i64 j) (by simp [RK.val?]) ?_
    refine walkB_step (v := .pointer (some (pa2.add (j * 5)))) (by simp [RK.val?, ep2, hlt]) ?_
    refine walkB_step (v := .agg c2.toArray) (by simp [RK.val?, hcells2]) ?_
    refine walkB_node (fun w5 hm5 _ => ?_) fun u hu => ?_
    · have := hf tj (List.mem_of_getElem? htj) w5 c1 c2 (hr1.mod hm5 (by simp) fun _ _ h => h) (hr2.mod hm5 (by simp) fun _ _ h => h)
      simp only [RK.run, List.map_cons, List.map_nil, ev, updo, upd]
      simp only [show (55 : Nat) ≠ 60 by decide, show (55 : Nat) ≠ 59 by decide, show (55 : Nat) ≠ 58 by decide, show (55 : Nat) ≠ 57 by decide, show (55 : Nat) ≠ 56 by decide, if_true, if_false]
      refine this.mono ?_
      rintro e w6 ⟨rfl, hm6⟩
      exact ⟨_, rfl, hm6, rfl⟩
    obtain ⟨wu, rfl⟩ := hu
    refine walkB_step (v := .bool false) (by simp [RK.val?]) ?_
    simp only [walkB]
    intro w5 hm5
    simp only [wpR, thenC]
    rw [wpC_cond_f (by simp), wpC_skip]
    simp only [inBlockC, thenC]
    have hw : IntKind.i64.wrap ((j : Int) + 1) = ((j + 1 : Nat) : Int) := by
      simp only [IntKind.wrap, IntKind.bits, IntKind.signed]; simp; omega
    rw [wpC_blk]
    refine wpR_step (v := .int .i64 ((j + 1 : Nat) : Int)) (by simp [RK.val?, intBin, t48, hw]) ?_
    refine wpR_step (v := .int .i64 ((j + 1 : Nat) : Int)) (by simp [RK.val?]) ?_
    simp only [wpR, thenC]
    refine ⟨⟨j + 1, hlt, by simp [t2], by simp [t3], by simp [t47], by simp, hmd.trans hm5⟩, ?_⟩
    simp [t48]; show l.length - (j + 1) < l.length - j; omega
  · rw [wpC_cond_f (by simp; omega)]
    simp only [wpC, inBlockC, thenC, if_true]
    exact hQ _ w1 (by simp [t2]) (by simp [t3]) hm1
theorem same_loop2 (hS : ∀ (w : World) (v1 v2 : Value) (l : List UInt8), SlC (fun _ => True) w v1 l.length (u8s l) → SlC (fun _ => True) w v2 l.length (u8s l) → l.length ≤ 2147483647 →
      Calls P (F sSame) [v1, v2].toArray w fun e w' => e = .returned (.bool true) ∧ Mod [] w w')
    {w : World} {p1 p2 : Nat} {n : Int} {null : Bool} {u : List (Nat × List UInt8)} {sv1 sv2 lv1 lv2 uv1 uv2 : Value} {us1 us2 : List (List Value)} {σ : Sl} {Q : Exit → Sl → World → Prop} (hu : ∀ x ∈ u, x.2.length ≤ 2147483647) (hlen : u.length ≤ 2147483647)
    (b1 : Blk w p1 [.int .i64 n, sv1, .bool null, lv1, uv1]) (b2 : Blk w p2 [.int .i64 n, sv2, .bool null, lv2, uv2])
    (h1 : SlC (fun _ => True) w uv1 u.length us1.flatten) (r1 : RepU (fun _ => True) w u us1) (h2 : SlC (fun _ => True) w uv2 u.length us2.flatten) (r2 : RepU (fun _ => True) w u us2)
    (s2 : σ 2 = .pointer (some ⟨p1, 0, none⟩)) (s3 : σ 3 = .pointer (some ⟨p2, 0, none⟩)) (hQ : ∀ σ' w', Mod [] w w' → Q .normal σ' w') :
    wpC P (.seq (.blk [⟨some 64, .fad (.tmp 2) 4, none⟩, ⟨some 65, .ld (.tmp 64), none⟩, ⟨some 66, .len (.tmp 65), none⟩, ⟨some 67, .mv (.const (.int .i64 0)), none⟩])
      (.block 2 (.loop (.seq (.blk [⟨some 68, .bin .lss (.tmp 67) (.tmp 66), none⟩]) (.seq (.cond (.tmp 68) .skip (.exit 2))
        (.seq (.block 3 (.seq (.blk [⟨some 69, .mv (.tmp 67), none⟩, ⟨some 6, .mv (.tmp 69), none⟩])
          (.seq (.drw [⟨⟨some 70, .fad (.tmp 2) 4, none⟩, false, []⟩, ⟨⟨some 71, .ld (.tmp 70), none⟩, false, []⟩, ⟨⟨some 72, .mv (.tmp 6), none⟩, false, []⟩, ⟨⟨some 73, .iad (.tmp 71) (.tmp 72) 2, none⟩, false, []⟩, ⟨⟨some 74, .fad (.tmp 73) 0, none⟩, false, []⟩, ⟨⟨some 75, .ld (.tmp 74), none⟩, false, []⟩,
                ⟨⟨some 76, .fad (.tmp 3) 4, none⟩, false, []⟩, ⟨⟨some 77, .ld (.tmp 76), none⟩, false, []⟩, ⟨⟨some 78, .mv (.tmp 6), none⟩, false, []⟩, ⟨⟨some 79, .iad (.tmp 77) (.tmp 78) 2, none⟩, false, []⟩, ⟨⟨some 80, .fad (.tmp 79) 0, none⟩, false, []⟩, ⟨⟨some 81, .ld (.tmp 80), none⟩, false, []⟩,
                ⟨⟨some 82, .bin .neq (.tmp 75) (.tmp 81), none⟩, false, []⟩, ⟨⟨some 83, .mv (.tmp 82), none⟩, false, []⟩,
                ⟨⟨some 84, .fad (.tmp 2) 4, some (83, false)⟩, false, []⟩, ⟨⟨some 85, .ld (.tmp 84), some (83, false)⟩, false, []⟩, ⟨⟨some 86, .mv (.tmp 6), some (83, false)⟩, false, []⟩, ⟨⟨some 87, .iad (.tmp 85) (.tmp 86) 2, some (83, false)⟩, false, []⟩, ⟨⟨some 88, .fad (.tmp 87) 1, some (83, false)⟩, false, []⟩, ⟨⟨some 89, .ld (.tmp 88), some (83, false)⟩, false, []⟩,
                ⟨⟨some 90, .fad (.tmp 3) 4, some (83, false)⟩, false, []⟩, ⟨⟨some 91, .ld (.tmp 90), some (83, false)⟩, false, []⟩, ⟨⟨some 92, .mv (.tmp 6), some (83, false)⟩, false, []⟩, ⟨⟨some 93, .iad (.tmp 91) (.tmp 92) 2, some (83, false)⟩, false, []⟩, ⟨⟨some 94, .fad (.tmp 93) 1, some (83, false)⟩, false, []⟩, ⟨⟨some 95, .ld (.tmp 94), some (83, false)⟩, false, []⟩,
                ⟨⟨some 96, .call (F sSame) [.tmp 89, .tmp 95], some (83, false)⟩, true, []⟩, ⟨⟨some 97, .lnot (.tmp 96), some (83, false)⟩, false, [26]⟩, ⟨⟨some 98, .pick (.tmp 83) (.const (.bool true)) (.tmp 97), none⟩, false, [26]⟩] [])
            (.cond (.tmp 98) (.seq (.blk [⟨some 4, .mv (.const (.bool false)), none⟩]) .ret) .skip))))
          (.blk [⟨some 99, .bin .add (.tmp 67) (.const (.int .i64 1)), none⟩, ⟨some 67, .mv (.tmp 99), none⟩])))))))
      Q σ w := by
  obtain ⟨lb1, lc1, e1⟩ := h1.shape
  rw [wpC_seq, wpC_blk]
  refine wpR_step (v := .pointer (some ⟨p1, 4, none⟩)) (by simp [RK.val?, s2, Addr.add_mk]) ?_
  refine wpR_step (v := uv1) (by simp [RK.val?, b1.cell]) ?_
  refine wpR_step (v := .int .i64 u.length) (by simp [RK.val?, e1]) ?_
  refine wpR_step (v := .int .i64 0) (by simp [RK.val?]) ?_
  simp only [wpR, thenC]
  rw [wpC_block, wpC_loop]
  refine ⟨fun σ1 w1 => ∃ j, j ≤ u.length ∧ σ1 2 = .pointer (some ⟨p1, 0, none⟩) ∧ σ1 3 = .pointer (some ⟨p2, 0, none⟩) ∧ σ1 66 = .int .i64 u.length ∧ σ1 67 = .int .i64 j ∧ Mod [] w w1,
    fun σ1 _ => u.length - (match σ1 67 with | .int _ j => j.toNat | _ => 0), ⟨0, Nat.zero_le _, by simp [s2], by simp [s3], by simp, by simp, Mod.refl _ _⟩, ?_⟩
  rintro σ1 w1 ⟨j, hj, t2, t3, t47, t48, hm1⟩
  rw [wpC_seq, wpC_blk]
  refine wpR_step (v := .bool (decide ((j : Int) < u.length))) (by simp [RK.val?, t47, t48, intBin]) ?_
  simp only [wpR, thenC]
  rw [wpC_seq]
  by_cases hlt : j < u.length
  · rw [wpC_cond_t (by simp [hlt]), wpC_skip]
    simp only [thenC]
    rw [wpC_seq, wpC_block, wpC_seq, wpC_blk]
    refine wpR_step (v := .int .i64 j) (by simp [RK.val?, t48]) ?_
    refine wpR_step (v := .int .i64 j) (by simp [RK.val?]) ?_
    simp only [wpR, thenC]
    obtain ⟨tj, htj⟩ : ∃ t, u[j]? = some t := ⟨u[j], List.getElem?_eq_getElem hlt⟩
    have hmd : Mod [] w w1.drew := hm1.trans (Mod.drew _ _)
    have g1 := fun k => (b1.mod hmd (by simp)).cell k
    have g2 := fun k => (b2.mod hmd (by simp)).cell k
    have r1d := r1.mod (ok' := fun _ => True) hmd (by simp) fun _ _ h => h
    have r2d := r2.mod (ok' := fun _ => True) hmd (by simp) fun _ _ h => h
    obtain ⟨v1, hc1, hr1⟩ := r1d.nth htj
    obtain ⟨v2, hc2, hr2⟩ := r2d.nth htj
    obtain ⟨pa1, pc1, ep1, hp1, q1, q2⟩ := (h1.mod (ok' := fun _ => True) hmd (by simp) fun _ _ h => h).pair r1d.length r1d.two hc1
    obtain ⟨pa2, pc2, ep2, hp2, q3, q4⟩ := (h2.mod (ok' := fun _ => True) hmd (by simp) fun _ _ h => h).pair r2d.length r2d.two hc2
    rw [wpC_seq]
    show wpD P _ _ _ w1.drew _
    refine wpD_one (.bool true) ?_
    refine walkB_step (v := .pointer (some ⟨p1, 4, none⟩)) (by simp [RK.val?, t2, Addr.add_mk]) ?_
    refine walkB_step (v := uv1) (by simp [RK.val?, g1]) ?_
    refine walkB_step (v := .int .i64 j) (by simp [RK.val?]) ?_
    refine walkB_step (v := .pointer (some (pa1.add (j * 2)))) (by simp [RK.val?, ep1, hlt]) ?_
    refine walkB_step (v := .pointer (some ((pa1.add (j * 2)).add 0))) (by simp [RK.val?]) ?_
    refine walkB_step (v := .int .u32 tj.1) (by simp [RK.val?, q1]) ?_
    refine walkB_step (v := .pointer (some ⟨p2, 4, none⟩)) (by simp [RK.val?, t3, Addr.add_mk]) ?_
    refine walkB_step (v := uv2) (by simp [RK.val?, g2]) ?_
    refine walkB_step (v := .int .i64 j) (by simp [RK.val?]) ?_
    refine walkB_step (v := .pointer (some (pa2.add (j * 2)))) (by simp [RK.val?, ep2, hlt]) ?_
    refine walkB_step (v := .pointer (some ((pa2.add (j * 2)).add 0))) (by simp [RK.val?]) ?_
    refine walkB_step (v := .int .u32 tj.1) (by simp [RK.val?, q3]) ?_
    refine walkB_step (v := .bool false) (by simp [RK.val?, intBin]) ?_
    refine walkB_step (v := .bool false) (by simp [RK.val?]) ?_
    refine walkB_stepG (v := .pointer (some ⟨p1, 4, none⟩)) (by simp) (by simp [RK.val?, t2, Addr.add_mk]) ?_
    refine walkB_stepG (v := uv1) (by simp) (by simp [RK.val?, g1]) ?_
    refine walkB_stepG (v := .int .i64 j) (by simp) (by simp [RK.val?]) ?_
    refine walkB_stepG (v := .pointer (some (pa1.add (j * 2)))) (by simp) (by simp [RK.val?, ep1, hlt]) ?_
    refine walkB_stepG (v := .pointer (some ((pa1.add (j * 2)).add 1))) (by simp) (by simp [RK.val?]) ?_
    refine walkB_stepG (v := v1) (by simp) (by simp [RK.val?, q2]) ?_
    refine walkB_stepG (v := .pointer (some ⟨p2, 4, none⟩)) (by simp) (by simp [RK.val?, t3, Addr.add_mk]) ?_
    refine walkB_stepG (v := uv2) (by simp) (by simp [RK.val?, g2]) ?_
    refine walkB_stepG (v := .int .i64 j) (by simp) (by simp [RK.val?]) ?_
    refine walkB_stepG (v := .pointer (some (pa2.add (j * 2)))) (by simp) (by simp [RK.val?, ep2, hlt]) ?_
    refine walkB_stepG (v := .pointer (some ((pa2.add (j * 2)).add 1))) (by simp) (by simp [RK.val?]) ?_
    refine walkB_stepG (v := v2) (by simp) (by simp [RK.val?, q4]) ?_
    refine walkB_nodeG (by simp) (fun w5 hm5 _ => ?_) fun x hx => ?_
    · have := hS w5 v1 v2 tj.2 (hr1.mod hm5 (by simp) fun _ _ h => h) (hr2.mod hm5 (by simp) fun _ _ h => h) (hu tj (List.mem_of_getElem? htj))
      have e1 : ∀ σ : Sl, σ 89 = v1 → σ 95 = v2 → (RK.call (F sSame) [.tmp 89, .tmp 95]).run P σ w5 fun v w' => Mod [] w5 w' ∧ v = .bool true := by
        intro σ a1 a2
        simp only [RK.run, List.map_cons, List.map_nil, ev, a1, a2]
        refine this.mono ?_
        rintro e w6 ⟨rfl, hm6⟩
        exact ⟨_, rfl, hm6, rfl⟩
      exact e1 _ (by simp) (by simp)
    obtain ⟨wu, rfl⟩ := hx
    refine walkB_stepG (v := .bool false) (by simp) (by simp [RK.val?]) ?_
    refine walkB_step (v := .bool false) (by simp [RK.val?]) ?_
    simp only [walkB]
    intro w5 hm5
    simp only [wpR, thenC]
    rw [wpC_cond_f (by simp), wpC_skip]
    simp only [inBlockC, thenC]
    have hw : IntKind.i64.wrap ((j : Int) + 1) = ((j + 1 : Nat) : Int) := by
      simp only [IntKind.wrap, IntKind.bits, IntKind.signed]; simp; omega
    rw [wpC_blk]
    refine wpR_step (v := .int .i64 ((j + 1 : Nat) : Int)) (by simp [RK.val?, intBin, t48, hw]) ?_
    refine wpR_step (v := .int .i64 ((j + 1 : Nat) : Int)) (by simp [RK.val?]) ?_
    simp only [wpR, thenC]
    refine ⟨⟨j + 1, hlt, by simp [t2], by simp [t3], by simp [t47], by simp, hmd.trans hm5⟩, ?_⟩
    simp [t48]; show u.length - (j + 1) < u.length - j; omega
  · rw [wpC_cond_f (by simp; omega)]
    simp only [wpC, inBlockC, thenC, if_true]
    exact hQ _ w1 hm1
end
end Go.Msk

namespace Go.Msk
open Go.RowKit
set_option maxRecDepth 100000
section
variable {P : Program} {F : Nat → Nat}
theorem sameTree_one (hm : P.follows .mixedOrders = true) (h : liftF P (F sSameTree) = some (ir_sSameTree F)) (hs : liftF P (F sSame) = some (ir_sSame F)) {n : Int} {s : List UInt8} {null : Bool} {l : List TR} {u : List (Nat × List UInt8)}
    (hf : ∀ t ∈ l, SameAt P (F sSameTree) t) (hsl : s.length ≤ 2147483647) (hl : l.length ≤ 2147483647) (hul : u.length ≤ 2147483647) (hu : ∀ x ∈ u, x.2.length ≤ 2147483647) : SameAt P (F sSameTree) (.mk n s null l u) := by
  intro w cs1 cs2 hr1 hr2
  have hS : ∀ (w : World) (v1 v2 : Value) (l : List UInt8), SlC (fun _ => True) w v1 l.length (u8s l) → SlC (fun _ => True) w v2 l.length (u8s l) → l.length ≤ 2147483647 →
      Calls P (F sSame) [v1, v2].toArray w fun e w' => e = .returned (.bool true) ∧ Mod [] w w' := fun w v1 v2 l g1 g2 g3 =>
    (same_call hm hs g1 g2 (by omega)).mono fun e w' ⟨k1, k2⟩ => ⟨by rw [k1]; simp, k2⟩
  obtain ⟨sv1, lv1, uv1, css1, uss1, rfl, a1, a2, a3, a4, a5⟩ : ∃ sv lv uv css uss, cs1 = [.int .i64 n, sv, .bool null, lv, uv] ∧ SlC (fun _ => True) w sv s.length (u8s s) ∧ SlC (fun _ => True) w lv l.length css.flatten ∧ RepTL (fun _ => True) w l css ∧
      SlC (fun _ => True) w uv u.length uss.flatten ∧ RepU (fun _ => True) w u uss := by
    cases hr1 with | mk h1 h2 h3 h4 h5 => exact ⟨_, _, _, _, _, rfl, h1, h2, h3, h4, h5⟩
  obtain ⟨sv2, lv2, uv2, css2, uss2, rfl, c1, c2, c3, c4, c5⟩ : ∃ sv lv uv css uss, cs2 = [.int .i64 n, sv, .bool null, lv, uv] ∧ SlC (fun _ => True) w sv s.length (u8s s) ∧ SlC (fun _ => True) w lv l.length css.flatten ∧ RepTL (fun _ => True) w l css ∧
      SlC (fun _ => True) w uv u.length uss.flatten ∧ RepU (fun _ => True) w u uss := by
    cases hr2 with | mk h1 h2 h3 h4 h5 => exact ⟨_, _, _, _, _, rfl, h1, h2, h3, h4, h5⟩
  refine call_of h hm (by simp) ?_
  have g0 : args0 [.agg [.int .i64 n, sv1, .bool null, lv1, uv1].toArray, .agg [.int .i64 n, sv2, .bool null, lv2, uv2].toArray] 0 = .agg [.int .i64 n, sv1, .bool null, lv1, uv1].toArray := rfl
  have g1 : args0 [.agg [.int .i64 n, sv1, .bool null, lv1, uv1].toArray, .agg [.int .i64 n, sv2, .bool null, lv2, uv2].toArray] 1 = .agg [.int .i64 n, sv2, .bool null, lv2, uv2].toArray := rfl
  generalize args0 [.agg [.int .i64 n, sv1, .bool null, lv1, uv1].toArray, .agg [.int .i64 n, sv2, .bool null, lv2, uv2].toArray] = σ0 at g0 g1 ⊢
  have k1 : (Value.agg [.int .i64 n, sv1, .bool null, lv1, uv1].toArray).cells.toList = [.int .i64 n, sv1, .bool null, lv1, uv1] := rfl
  have k2 : (Value.agg [.int .i64 n, sv2, .bool null, lv2, uv2].toArray).cells.toList = [.int .i64 n, sv2, .bool null, lv2, uv2] := rfl
  rw [wpC_seq, wpC_blk]
  refine wpR_run ?_
  simp only [RK.run, ev, g0, k1]
  intro T1
  have b1 := Blk.new w [.int .i64 n, sv1, .bool null, lv1, uv1] T1
  have m1 : Mod [] w (w.alloc (.cells [.int .i64 n, sv1, .bool null, lv1, uv1].toArray T1)) := Mod.alloc _ _ _
  generalize w.alloc (.cells [.int .i64 n, sv1, .bool null, lv1, uv1].toArray T1) = w1 at b1 m1 ⊢
  refine wpR_run ?_
  have g1' : ∀ x, updo σ0 (some 2) x 1 = .agg [.int .i64 n, sv2, .bool null, lv2, uv2].toArray := fun x => by simp [updo, upd, g1]
  simp only [RK.run, ev, g1', k2]
  intro T2
  have b2 := Blk.new w1 [.int .i64 n, sv2, .bool null, lv2, uv2] T2
  have m2 : Mod [] w1 (w1.alloc (.cells [.int .i64 n, sv2, .bool null, lv2, uv2].toArray T2)) := Mod.alloc _ _ _
  generalize w1.alloc (.cells [.int .i64 n, sv2, .bool null, lv2, uv2].toArray T2) = w2 at b2 m2 ⊢
  refine wpR_step (v := .bool false) (by simp [RK.val?, ev]) ?_
  have m02 := m1.trans m2
  have b12 := b1.mod m2 (by simp)
  have up : ∀ {v : Value} {k : Nat} {cs : List Value} {w' : World}, Mod [] w2 w' → SlC (fun _ => True) w v k cs → SlC (fun _ => True) w' v k cs := fun hm h => h.mod (m02.trans hm) (by simp) fun _ _ h => h
  obtain ⟨x1, x2, rfl⟩ := a2.shape
  obtain ⟨x3, x4, rfl⟩ := c2.shape
  obtain ⟨x5, x6, rfl⟩ := a4.shape
  obtain ⟨x7, x8, rfl⟩ := c4.shape
  simp only [wpR, thenC]
  rw [wpC_seq]
  refine same_head hS hsl b12 b2 (up (Mod.refl _ _) a1) (up (Mod.refl _ _) c1) (by simp [updo, upd]) (by simp [updo, upd]) fun σ3 w3 t2 t3 m3 => ?_
  simp only [thenC]
  rw [wpC_seq]
  refine same_loop1 hf hl (b12.mod m3 (by simp)) (b2.mod m3 (by simp)) (up m3 a2) (a3.mod (m02.trans m3) (by simp) fun _ _ h => h) (up m3 c2) (c3.mod (m02.trans m3) (by simp) fun _ _ h => h) t2 t3 fun σ4 w4 r2 r3 m4 => ?_
  have m34 := m3.trans m4
  simp only [thenC]
  rw [wpC_seq]
  refine same_loop2 hS hu hul (b12.mod m34 (by simp)) (b2.mod m34 (by simp)) (up m34 a4) (a5.mod (m02.trans m34) (by simp) fun _ _ h => h) (up m34 c4) (c5.mod (m02.trans m34) (by simp) fun _ _ h => h) r2 r3 fun σ5 w5 m5 => ?_
  simp only [thenC]
  rw [wpC_seq, wpC_blk]
  refine wpR_step (v := .bool true) (by simp [RK.val?, ev]) ?_
  simp only [wpR, wpC, thenC, postC, rvals, List.mapM_cons, List.mapM_nil, RV.val, updo, upd_same, Option.bind_eq_bind, Option.bind_some, Option.pure_def, tup_one]
  exact ⟨trivial, m02.trans (m34.trans m5)⟩
theorem sameTree_call (hm : P.follows .mixedOrders = true) (h : liftF P (F sSameTree) = some (ir_sSameTree F)) (hs : liftF P (F sSame) = some (ir_sSame F)) : ∀ t : TR, t.small → SameAt P (F sSameTree) t := by
  intro t
  refine TR.rec (motive_1 := fun t => t.small → SameAt P (F sSameTree) t) (motive_2 := fun l => ∀ t ∈ l, t.small → SameAt P (F sSameTree) t) ?_ ?_ ?_ t
  · intro n s null l u ih hsm
    simp only [TR.small] at hsm
    exact sameTree_one hm h hs (fun t ht => ih t ht (TR.smallL_mem hsm.2.2.2.2 t ht)) hsm.1 hsm.2.1 hsm.2.2.1 hsm.2.2.2.1
  · intro t ht; simp at ht
  · intro a l ih1 ih2 t ht
    rcases List.mem_cons.1 ht with rfl | ht
    · exact ih1
    · exact ih2 t ht
end
end Go.Msk
