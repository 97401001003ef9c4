/- A small language of resolved operations, and what the generic and the generated functions do in it (part 16). -/
import Derived.Test.YtkceiijlnaakjaaGreatDoorFo

namespace Go.Msk
open Go.RowKit
set_option maxRecDepth 100000
inductive Tl where
  | nil
  | fld (k : TK) (rest : Tl)
  | lst (k : EK) (esz : Nat) (body : Tl) (rest : Tl)
  | uid (rest : Tl)
  | sub (f : FuncId) (size : Nat) (body : Tl) (rest : Tl)
  | tags (f1 each srt : FuncId)
  deriving Inhabited
def Tl.ty : Tl → List GV → Prop
  | .nil, gs => gs = []
  | .fld k rest, gs => ∃ g l, gs = g :: l ∧ k.ty g ∧ rest.ty l
  | .lst k esz body rest, gs => ∃ isnil sz x l, gs = .lst isnil sz x :: l ∧ (∀ g ∈ x, k.ty body.ty g) ∧ x.length ≤ 2147483647 ∧ (x = [] ∨ sz = esz) ∧ rest.ty l
  | .uid rest, gs => ∃ x l, gs = .arr x :: l ∧ x.length = 16 ∧ rest.ty l
  | .sub _ size body rest, gs => ∃ x l, gs = .rcd x :: l ∧ body.ty x ∧ rest.ty l ∧ size = size
  | .tags .., gs => ∃ m, gs = [.tag m] ∧ m.length ≤ 2147483647 ∧ ∀ p ∈ m, p.2.length ≤ 2147483647
def Tl.tg : Tl → Option (FuncId × FuncId × FuncId)
  | .nil => none
  | .fld _ rest => rest.tg
  | .lst _ _ _ rest => rest.tg
  | .uid rest => rest.tg
  | .sub _ _ _ rest => rest.tg
  | .tags a b c => some (a, b, c)
def Tl.size : Tl → Nat
  | .nil => 0
  | .fld _ rest => 1 + rest.size
  | .lst _ _ _ rest => 1 + rest.size
  | .uid rest => 16 + rest.size
  | .sub _ n _ rest => n + rest.size
  | .tags .. => 0
def Tl.Ok (P : Program) : Tl → Prop
  | .nil => True
  | .fld k rest => k.Ok P ∧ rest.Ok P
  | .lst k _ body rest => k.Ok P body.ty ∧ rest.Ok P
  | .uid rest => rest.Ok P
  | .sub f n body rest => TellS P f body.ty ∧ rest.Ok P ∧ ∀ O w gs css, body.ty gs → RepL O w gs css → css.flatten.length = n
  | .tags a b c => TagFs P a b c
def Tl.len : Tl → Nat
  | .nil => 0
  | .fld _ rest => 1 + rest.len
  | .lst _ _ _ rest => 1 + rest.len
  | .uid rest => 1 + rest.len
  | .sub _ _ _ rest => 1 + rest.len
  | .tags .. => 0
def Tl.nl : Tl → Nat
  | .nil => 0
  | .fld _ rest => rest.nl
  | .lst _ _ _ rest => 1 + rest.nl
  | .uid rest => rest.nl
  | .sub _ _ _ rest => rest.nl
  | .tags .. => 0
def Tl.nt : Tl → Nat
  | .nil => 0
  | .fld k rest => k.nt + rest.nt
  | .lst k _ _ rest => 54 + 2 * k.n + rest.nt
  | .uid rest => 9 + rest.nt
  | .sub _ _ _ rest => 7 + rest.nt
  | .tags .. => 0
def Tl.gen : Tl → (i t off iv nb : Nat) → List IC
  | .nil, _, _, _, _, _ => []
  | .fld k rest, i, t, off, iv, nb => k.gen i t off :: rest.gen (i + 1) (t + k.nt) (off + 1) iv nb
  | .lst k esz _ rest, i, t, off, iv, nb => nullF i t off :: loopT k i (t + 9) off iv nb esz :: rest.gen (i + 1) (t + (54 + 2 * k.n)) (off + 1) (iv + 1) (nb + 2)
  | .uid rest, i, t, off, iv, nb => uidF i t off :: rest.gen (i + 1) (t + 9) (off + 16) iv nb
  | .sub f n _ rest, i, t, off, iv, nb => subF f i t off :: rest.gen (i + 1) (t + 7) (off + n) iv nb
  | .tags .., _, _, _, _, _ => []
def Tl.t0 (tl : Tl) : Nat := 4 + tl.nl
def Tl.tail (tl : Tl) (t off : Nat) : List IC := match tl.tg with
  | none => []
  | some (a, b, c) => tagBlks a b c t off
def Tl.tn (tl : Tl) : Nat := match tl.tg with
  | none => 0
  | some _ => 8
def Tl.code (tl : Tl) (off : Nat) : IC × List RV × Nat :=
  (seqs ([.blk [⟨some 2, .alloc tzero, none⟩], .blk [⟨some tl.t0, .mkslice (.const (.int .i64 tl.len)) (.const (.int .i64 tl.len)) 88 tzero, none⟩, ⟨some (tl.t0 + 1), .build tzero [(3, 1, .tmp tl.t0)], none⟩, ⟨some 3, .alloc tzero, none⟩, ⟨none, .st (.tmp 3) 5 (.tmp (tl.t0 + 1)), none⟩]] ++
    (tl.gen 0 (tl.t0 + 2) off 4 0 ++ (tl.tail (tl.t0 + 2 + tl.nt) (off + tl.size) ++ [.blk [⟨some (tl.t0 + 2 + tl.nt + tl.tn), .ldn (.tmp 3) 5, none⟩, ⟨none, .st (.tmp 2) 5 (.tmp (tl.t0 + 2 + tl.nt + tl.tn)), none⟩], .ret]))),
   [.cells 2 5], tl.t0 + 3 + tl.nt + tl.tn)
section
variable {P : Program}
theorem Tl.sound {Tb Lb n B base : Nat} {O : List Nat} (hB : B ≠ Lb) (hLO : Lb ∈ O) : ∀ (tl : Tl) (i t off iv nb : Nat) (gs : List GV) (gcs : List (List Value)) (pre : List Value) (σ : Sl) (w : World) (Q : Exit → Sl → World → Prop), tl.Ok P → tl.ty gs →
    RepL O w gs gcs → B < w.heap.size → Cells w ⟨B, base + off, none⟩ gcs.flatten → σ 0 = .pointer (some ⟨B, base, none⟩) → σ 3 = .pointer (some ⟨Tb, 0, none⟩) → TW w Tb Lb n (pre ++ zrep tl.len tzero) → pre.length = i * 5 → i + tl.len ≤ n → 4 ≤ iv → iv + tl.nl ≤ t → 4 ≤ t →
    (∀ σ' w' tcs, Ag 4 σ σ' → Mod [Lb] w w' → RepTL (fun b => w.heap.size ≤ b) w' (GV.toldF gs) tcs → TW w' Tb Lb n (pre ++ tcs.flatten) → tcs.length = tl.len → Q .normal σ' w') → wpL P (tl.gen i t off iv nb) Q σ w := by
  intro tl
  induction tl with
  | nil =>
    intro i t off iv nb gs gcs pre σ w Q hO hT hr hBl hc h0 h3 hw hpre hi hiv hivt ht hQ
    simp only [Tl.ty] at hT
    subst hT
    exact hQ σ w [] (Ag.refl _ _) (Mod.refl _ _) (by simpa [GV.toldF] using .nil) (by simpa [Tl.len, zrep] using hw) rfl
  | fld k rest ih =>
    intro i t off iv nb gs gcs pre σ w Q hO hT hr hBl hc h0 h3 hw hpre hi hiv hivt ht hQ
    obtain ⟨g, l, rfl, hg, hT⟩ := hT
    obtain ⟨hk, hO⟩ := hO
    cases hr with
    | @cons _ _ cs css h1 h2 =>
      obtain ⟨v, rfl⟩ : ∃ v, cs = [v] := by
        cases k with
        | num c =>
          cases c with
          | true => obtain ⟨k, m, rfl⟩ := hg; cases h1; exact ⟨_, rfl⟩
          | false => obtain ⟨m, rfl, -⟩ := hg; cases h1; exact ⟨_, rfl⟩
        | str => obtain ⟨m, rfl⟩ := hg; cases h1; exact ⟨_, rfl⟩
        | boo f => obtain ⟨m, rfl⟩ := hg; cases h1; exact ⟨_, rfl⟩
        | txt f => obtain ⟨m, rfl⟩ := hg; cases h1 <;> exact ⟨_, rfl⟩
        | oct f => obtain ⟨m, rfl, -⟩ := hg; cases h1; exact ⟨_, rfl⟩
      simp only [Tl.gen, wpL, Tl.len] at hi ⊢
      have hz : zrep (1 + rest.len) tzero = tzero ++ zrep rest.len tzero := by rw [Nat.add_comm, zrep_succ]
      simp only [Tl.len, hz] at hw
      simp only [Tl.nl] at hivt
      simp only [List.flatten_cons] at hc
      refine TK.wp hk ht h0 h3 hw hpre (by omega) hg h1 (by simpa using hc.head) fun σ' w' cs' a' hm' hrep' htw' => ?_
      simp only [thenC]
      have h5 := hrep'.five
      have hsub := hc.sub 1
      refine ih (i + 1) (t + k.nt) (off + 1) iv nb l css (pre ++ cs') σ' w' Q hO hT (h2.mod hm' (by simpa using hLO)) (Nat.lt_of_lt_of_le hBl hm'.size) ?_ (by rw [a' 0 (by omega)]; exact h0) (by rw [a' 3 (by omega)]; exact h3) (by simpa only [List.append_assoc] using htw')
        (by simp only [List.length_append]; omega) (by omega) hiv (by omega) (by omega) fun σ2 w2 tcs a2 hm2 hrep2 htw2 hl2 => ?_
      · have : Cells w ⟨B, base + off + 1, none⟩ css.flatten := by simpa using hsub
        exact this.mod hm' (.inr (by simpa using hB))
      · refine hQ σ2 w2 (cs' :: tcs) (fun q hq => by rw [a2 q hq]; exact a' q (by omega)) (hm'.trans hm2) ?_ (by simpa only [List.flatten_cons, List.append_assoc] using htw2) (by simp [hl2, Tl.len]; omega)
        rw [GV.toldF_cons (by rintro m rfl; exact TK.ty_tag hg)]
        exact .cons (hrep'.mod hm2 (fun b hb hx => by simp only [List.mem_singleton] at hb; subst hb; have := hw.lb.lt; omega) fun _ _ h => h) (hrep2.mod (Mod.refl [] _) (by simp) fun b _ hb => Nat.le_trans hm'.size hb)
  | lst k esz body rest _ ih =>
    intro i t off iv nb gs gcs pre σ w Q hO hT hr hBl hc h0 h3 hw hpre hi hiv hivt ht hQ
    obtain ⟨isnil, sz, xs, l, rfl, hg, hlen, hsz, hT⟩ := hT
    obtain ⟨hk, hO⟩ := hO
    cases hr with
    | @cons _ _ cs css h1 h2 =>
      simp only [Tl.gen, wpL, Tl.len] at hi ⊢
      have hz : zrep (1 + rest.len) tzero = tzero ++ zrep rest.len tzero := by rw [Nat.add_comm, zrep_succ]
      simp only [Tl.len, hz] at hw
      simp only [Tl.nl] at hivt
      simp only [List.flatten_cons] at hc
      -- the slice that the field holds
      obtain ⟨sb, cap, xcs, rfl, hisn, hrx, hsbx, hsn, hszx⟩ : ∃ sb cap xcs, cs = [.slice sb xs.length cap] ∧ isnil = sb.isNone ∧ RepL O w xs xcs ∧ (∀ a, sb = some a → a.block ∉ O ∧ a.block < w.heap.size ∧ Cells w a xcs.flatten) ∧ (sb = none → xs = []) ∧ (∀ c ∈ xcs, c.length = esz) := by
        cases h1 with
        | lst0 => exact ⟨none, 0, [], rfl, rfl, .nil, fun a h => by simp at h, fun _ => rfl, by simp⟩
        | @lst1 a nn c _ _ xcs ha hlt hn hc' hs hl hcells =>
          refine ⟨some a, c, xcs, by rw [hn], rfl, hl, fun a' e => ?_, fun h => by simp at h, fun d hd => ?_⟩
          · simp only [Option.some.injEq] at e; subst e; exact ⟨ha, hlt, hcells⟩
          · rcases hsz with rfl | rfl
            · have := hl.length; cases xcs with | nil => simp at hd | cons a b => simp at this
            · exact hs d hd
      have hcell : w.cell? ⟨B, base + off, none⟩ = some (.slice sb xs.length cap) := by simpa using hc.head
      refine nullF_wp ht h0 h3 hw hpre (by omega) hcell fun σ1 w1 a1 hm1 hsz1 htw1 => ?_
      simp only [thenC]
      have hLn : ∀ x ∈ [Lb], x ∈ O := by simpa using hLO
      refine loopT_wp hk (by omega) (by omega) hiv (by rw [a1 0 (by omega)]; exact h0) (by rw [a1 3 (by omega)]; exact h3) (by omega) htw1 hpre (cell_mod hcell hm1 (by simpa using hB)) hB hLO (hrx.mod hm1 hLn)
        (fun a ha => ⟨(hsbx a ha).1, Nat.lt_of_lt_of_le (hsbx a ha).2.1 hm1.size, (hsbx a ha).2.2.mod hm1 (.inr (by simp only [List.mem_singleton]; exact fun e => (hsbx a ha).1 (e ▸ hLO)))⟩) hsn hszx hg hlen fun σ2 w2 cs' a2 hm2 hrep2 htw2 => ?_
      simp only [thenC]
      have h5 := hrep2.five
      have hsub := hc.sub 1
      have hm12 := hm1.trans hm2
      have a12 : Ag 4 σ σ2 := fun q hq => by rw [a2 q (by omega) (by omega)]; exact a1 q (by omega)
      refine ih (i + 1) (t + (54 + 2 * k.n)) (off + 1) (iv + 1) (nb + 2) l css (pre ++ cs') σ2 w2 Q hO hT (h2.mod hm12 hLn) (Nat.lt_of_lt_of_le hBl hm12.size) ?_ (by rw [a12 0 (by omega)]; exact h0) (by rw [a12 3 (by omega)]; exact h3) (by simpa only [List.append_assoc] using htw2)
        (by simp only [List.length_append]; omega) (by omega) (by omega) (by omega) (by omega) fun σ3 w3 tcs a3 hm3 hrep3 htw3 hl3 => ?_
      · have : Cells w ⟨B, base + off + 1, none⟩ css.flatten := by simpa using hsub
        exact this.mod hm12 (.inr (by simpa using hB))
      · refine hQ σ3 w3 (cs' :: tcs) (a12.trans a3) (hm12.trans hm3) ?_ (by simpa only [List.flatten_cons, List.append_assoc] using htw3) (by simp [hl3, Tl.len]; omega)
        rw [GV.toldF_cons (by rintro m h; simp at h)]
        simp only [GV.told, hisn]
        refine .cons (hrep2.mod hm3 (fun b hb hx => by simp only [List.mem_singleton] at hb; subst hb; have := hw.lb.lt; omega) fun b _ hb => by omega) (hrep3.mod (Mod.refl [] _) (by simp) fun b _ hb => Nat.le_trans hm12.size hb)

  | uid rest ih =>
    intro i t off iv nb gs gcs pre σ w Q hO hT hr hBl hc h0 h3 hw hpre hi hiv hivt ht hQ
    obtain ⟨x, l, rfl, hx, hT⟩ := hT
    cases hr with
    | @cons _ _ cs css h1 h2 =>
      have : cs = u8s x := by cases h1; rfl
      subst this
      simp only [Tl.gen, wpL, Tl.len] at hi ⊢
      have hz : zrep (1 + rest.len) tzero = tzero ++ zrep rest.len tzero := by rw [Nat.add_comm, zrep_succ]
      simp only [Tl.len, hz] at hw
      simp only [Tl.nl] at hivt
      simp only [List.flatten_cons] at hc
      have hcx : Cells w ⟨B, base + off, none⟩ (u8s x) := by have := hc.take (u8s x).length; simpa using this
      refine uidF_wp ht h0 h3 hw hpre (by omega) hx hcx hBl fun σ' w' cs' a' hm' hrep' htw' => ?_
      simp only [thenC]
      have h5 := hrep'.five
      have hsub := hc.sub 16
      refine ih (i + 1) (t + 9) (off + 16) iv nb l css (pre ++ cs') σ' w' Q hO hT (h2.mod hm' (by simpa using hLO)) (Nat.lt_of_lt_of_le hBl hm'.size) ?_ (by rw [a' 0 (by omega)]; exact h0) (by rw [a' 3 (by omega)]; exact h3) (by simpa only [List.append_assoc] using htw')
        (by simp only [List.length_append]; omega) (by omega) hiv (by omega) (by omega) fun σ2 w2 tcs a2 hm2 hrep2 htw2 hl2 => ?_
      · have : Cells w ⟨B, base + off + 16, none⟩ css.flatten := by
          have hlen : (u8s x).length = 16 := by rw [u8s_length, hx]
          rw [← hlen, List.drop_left] at hsub
          rw [hlen] at hsub
          exact hsub
        exact this.mod hm' (.inr (by simpa using hB))
      · refine hQ σ2 w2 (cs' :: tcs) (fun q hq => by rw [a2 q hq]; exact a' q (by omega)) (hm'.trans hm2) ?_ (by simpa only [List.flatten_cons, List.append_assoc] using htw2) (by simp [hl2, Tl.len]; omega)
        rw [GV.toldF_cons (by rintro m h; simp at h)]
        exact .cons (hrep'.mod hm2 (fun b hb hx => by simp only [List.mem_singleton] at hb; subst hb; have := hw.lb.lt; omega) fun _ _ h => h) (hrep2.mod (Mod.refl [] _) (by simp) fun b _ hb => Nat.le_trans hm'.size hb)
  | sub f sz body rest _ ih =>
    intro i t off iv nb gs gcs pre σ w Q hO hT hr hBl hc h0 h3 hw hpre hi hiv hivt ht hQ
    obtain ⟨x, l, rfl, hx, hT, -⟩ := hT
    obtain ⟨hk, hO, hsz⟩ := hO
    cases hr with
    | @cons _ _ cs css h1 h2 =>
      obtain ⟨xcs, rfl, hrx⟩ : ∃ xcs, cs = xcs.flatten ∧ RepL O w x xcs := by
        cases h1 with
        | rcd h => exact ⟨_, rfl, h⟩
      have hxl := hsz O w x xcs hx hrx
      simp only [Tl.gen, wpL, Tl.len] at hi ⊢
      have hz : zrep (1 + rest.len) tzero = tzero ++ zrep rest.len tzero := by rw [Nat.add_comm, zrep_succ]
      simp only [Tl.len, hz] at hw
      simp only [Tl.nl] at hivt
      rw [List.flatten_cons] at hc
      have hcx : Cells w ⟨B, base + off, none⟩ xcs.flatten := by have := hc.take xcs.flatten.length; simpa using this
      refine subF_wp hk ht h0 h3 hw hpre (by omega) hx hrx hcx fun σ' w' cs' a' hm' hrep' htw' => ?_
      simp only [thenC]
      have h5 := hrep'.five
      have hsub := hc.sub sz
      refine ih (i + 1) (t + 7) (off + sz) iv nb l css (pre ++ cs') σ' w' Q hO hT (h2.mod hm' (by simpa using hLO)) (Nat.lt_of_lt_of_le hBl hm'.size) ?_ (by rw [a' 0 (by omega)]; exact h0) (by rw [a' 3 (by omega)]; exact h3) (by simpa only [List.append_assoc] using htw')
        (by simp only [List.length_append]; omega) (by omega) hiv (by omega) (by omega) fun σ2 w2 tcs a2 hm2 hrep2 htw2 hl2 => ?_
      · have : Cells w ⟨B, base + (off + sz), none⟩ css.flatten := by
          rw [← hxl, List.drop_left] at hsub
          rw [hxl] at hsub
          rwa [← Nat.add_assoc]
        exact this.mod hm' (.inr (by simpa using hB))
      · refine hQ σ2 w2 (cs' :: tcs) (fun q hq => by rw [a2 q hq]; exact a' q (by omega)) (hm'.trans hm2) ?_ (by simpa only [List.flatten_cons, List.append_assoc] using htw2) (by simp [hl2, Tl.len]; omega)
        rw [GV.toldF_cons (by rintro m h; simp at h)]
        exact .cons (hrep'.mod hm2 (fun b hb hx => by simp only [List.mem_singleton] at hb; subst hb; have := hw.lb.lt; omega) fun _ _ h => h) (hrep2.mod (Mod.refl [] _) (by simp) fun b _ hb => Nat.le_trans hm'.size hb)
  | tags a b c =>
    intro i t off iv nb gs gcs pre σ w Q hO hT hr hBl hc h0 h3 hw hpre hi hiv hivt ht hQ
    obtain ⟨m, rfl, -⟩ := hT
    exact hQ σ w [] (Ag.refl _ _) (Mod.refl _ _) (by simpa [GV.toldF] using .nil) (by simpa [Tl.len, zrep] using hw) rfl
theorem Tl.no_tags : ∀ (tl : Tl) (gs : List GV), tl.tg = none → tl.ty gs → GV.tagsF gs = [] := by
  intro tl
  induction tl with
  | nil => intro gs _ h; simp only [Tl.ty] at h; subst h; rfl
  | fld k rest ih =>
    rintro gs h ⟨g, l, rfl, hg, hT⟩
    have := ih l h hT
    cases g <;> first | exact this | exact (TK.ty_tag hg).elim
  | lst k esz body rest _ ih => rintro gs h ⟨_, _, _, l, rfl, -, -, -, hT⟩; exact ih l h hT
  | uid rest ih => rintro gs h ⟨_, l, rfl, -, hT⟩; exact ih l h hT
  | sub f sz body rest _ ih => rintro gs h ⟨_, l, rfl, -, hT, -⟩; exact ih l h hT
  | tags a b c => intro gs h; simp [Tl.tg] at h
theorem Tl.tag_cell {O : List Nat} {w : World} : ∀ (tl : Tl) (gs : List GV) (gcs : List (List Value)) (a b c : FuncId), tl.tg = some (a, b, c) → tl.Ok P → tl.ty gs → RepL O w gs gcs →
    ∃ m v, gcs.flatten[tl.size]? = some v ∧ Rep O w (.tag m) [v] ∧ GV.tagsF gs = sortT m ∧ m.length ≤ 2147483647 ∧ (∀ p ∈ m, p.2.length ≤ 2147483647) ∧ TagFs P a b c := by
  intro tl
  have step : ∀ {n k : Nat} {g : GV} {l : List GV} {cs : List Value} {css : List (List Value)} {m : List (Nat × List UInt8)} {v : Value}, cs.length = n → (∀ m, g ≠ .tag m) → css.flatten[k]? = some v → GV.tagsF l = sortT m →
      (cs :: css).flatten[n + k]? = some v ∧ GV.tagsF (g :: l) = sortT m := by
    intro n k g l cs css m v hn hg hk ht
    refine ⟨?_, ?_⟩
    · rw [List.flatten_cons, List.getElem?_append_right (by omega), show n + k - cs.length = k by omega]; exact hk
    · cases g <;> first | exact ht | exact absurd rfl (hg _)
  induction tl with
  | nil => intro gs gcs a b c h; simp [Tl.tg] at h
  | fld k rest ih =>
    intro gs gcs a b c h hO hT hr
    obtain ⟨g, l, rfl, hg, hT⟩ := hT
    cases hr with
    | @cons _ _ cs css h1 h2 =>
      obtain ⟨m, v, e1, e2, e3, e4⟩ := ih l css a b c h hO.2 hT h2
      obtain ⟨q1, q2⟩ := step (n := 1) (g := g) (TK.one hg h1) (by rintro m rfl; exact TK.ty_tag hg) e1 e3
      exact ⟨m, v, q1, e2, q2, e4⟩
  | lst k esz body rest _ ih =>
    intro gs gcs a b c h hO hT hr
    obtain ⟨isnil, sz, x, l, rfl, -, -, -, hT⟩ := hT
    cases hr with
    | @cons _ _ cs css h1 h2 =>
      obtain ⟨m, v, e1, e2, e3, e4⟩ := ih l css a b c h hO.2 hT h2
      have hl : cs.length = 1 := by cases h1 <;> rfl
      obtain ⟨q1, q2⟩ := step (n := 1) (g := .lst isnil sz x) hl (by rintro m h; simp at h) e1 e3
      exact ⟨m, v, q1, e2, q2, e4⟩
  | uid rest ih =>
    intro gs gcs a b c h hO hT hr
    obtain ⟨x, l, rfl, hx, hT⟩ := hT
    cases hr with
    | @cons _ _ cs css h1 h2 =>
      obtain ⟨m, v, e1, e2, e3, e4⟩ := ih l css a b c h hO hT h2
      have hl : cs.length = 16 := by cases h1; rw [u8s_length, hx]
      obtain ⟨q1, q2⟩ := step (n := 16) (g := .arr x) hl (by rintro m h; simp at h) e1 e3
      exact ⟨m, v, q1, e2, q2, e4⟩
  | sub f sz body rest _ ih =>
    intro gs gcs a b c h hO hT hr
    obtain ⟨x, l, rfl, hx, hT, -⟩ := hT
    cases hr with
    | @cons _ _ cs css h1 h2 =>
      obtain ⟨m, v, e1, e2, e3, e4⟩ := ih l css a b c h hO.2.1 hT h2
      have hl : cs.length = sz := by cases h1 with | rcd h1 => exact hO.2.2 _ _ _ _ hx h1
      obtain ⟨q1, q2⟩ := step (n := sz) (g := .rcd x) hl (by rintro m h; simp at h) e1 e3
      exact ⟨m, v, q1, e2, q2, e4⟩
  | tags a' b' c' =>
    intro gs gcs a b c h hO hT hr
    simp only [Tl.tg, Option.some.injEq, Prod.mk.injEq] at h
    obtain ⟨rfl, rfl, rfl⟩ := h
    obtain ⟨m, rfl, h1, h2⟩ := hT
    cases hr with
    | @cons _ _ cs css q1 q2 =>
      cases q2
      obtain ⟨v, rfl⟩ : ∃ v, cs = [v] := by cases q1 <;> exact ⟨_, rfl⟩
      exact ⟨m, v, rfl, q1, rfl, h1, h2, hO⟩
def TellAt (P : Program) (f : FuncId) (off : Nat) (T : List GV → Prop) : Prop :=
  ∀ (O : List Nat) (w : World) (B base : Nat) (gs : List GV) (css : List (List Value)), T gs → RepL O w gs css → B < w.heap.size → Cells w ⟨B, base + off, none⟩ css.flatten →
    TellC P f [.pointer (some ⟨B, base, none⟩)] w (GV.rcd gs).told
theorem Tl.call {tl : Tl} {f off : Nat} (hm : P.follows .mixedOrders = true) (h : liftF P f = some (tl.code off)) (hO : tl.Ok P) (hlen : tl.len ≤ 1000) : TellAt P f off tl.ty := by
  intro O w B base gs css hT hr hBlt hc
  unfold Tl.code at h
  refine call_of h hm (by simp; omega) ?_
  rw [wpC_seqs]
  have s0 : args0 [.pointer (some ⟨B, base, none⟩)] 0 = .pointer (some ⟨B, base, none⟩) := rfl
  generalize args0 [.pointer (some ⟨B, base, none⟩)] = σ0 at s0
  have ht0 : tl.t0 = 4 + tl.nl := rfl
  simp only [List.cons_append, List.nil_append, wpL]
  simp only [wpC_blk, wpR, RI.wp, gOk, if_true, RK.run, ev, updo]
  intro T1
  simp only [thenC]
  have hmul : ((tl.len : Int) * (88 : Nat)) ≤ 70368744177664 := by omega
  refine ⟨by omega, by omega, hmul, by omega, ?_⟩
  intro T2
  simp only [Int.toNat_natCast, upd_same, List.map_cons, List.map_nil]
  have hf : ∀ v : Value, v.cells = #[v] → fillL tzero [(3, 1, v)] = some [.int .i64 0, .slice none 0 0, .bool false, v, .slice none 0 0] := by
    intro v hv
    simp only [fillL, hv]
    simp [tzero, splice]
  rw [hf _ rfl]
  simp only
  intro T3
  have ec : ∀ cs, (Value.agg cs).cells = cs := fun _ => rfl
  simp only [upd, if_true, show tl.t0 + 1 ≠ 3 by omega, if_false, ec]
  -- the three new blocks
  have b2 := Blk.new w tzero T1
  generalize hw1 : w.alloc (.cells tzero.toArray T1) = w1 at b2 ⊢
  have z1 : w1.heap.size = w.heap.size + 1 := by rw [← hw1]; simp
  have m1 : Mod [] w w1 := by rw [← hw1]; exact Mod.alloc _ _ _
  have bL := Blk.new w1 (zrep tl.len tzero) T2
  generalize hw2 : w1.alloc (.cells (zrep tl.len tzero).toArray T2) = w2 at bL ⊢
  have z2 : w2.heap.size = w1.heap.size + 1 := by rw [← hw2]; simp
  have m2 : Mod [] w1 w2 := by rw [← hw2]; exact Mod.alloc _ _ _
  obtain ⟨k1, k2, k3⟩ := new_put w2 tzero [.int .i64 0, .slice none 0 0, .bool false, .slice (some ⟨w1.heap.size, 0, none⟩) tl.len tl.len, .slice none 0 0] T3 rfl (by simp [Value.oneCell'])
  generalize hw3 : w2.alloc (.cells tzero.toArray T3) = w3 at k1 k2 k3 ⊢
  have z3 : w3.heap.size = w2.heap.size + 1 := by rw [← hw3]; simp
  refine ⟨by rfl, by simpa using k1, ?_⟩
  rw [wpL_append]
  have hput : (putCells w3 ⟨w2.heap.size, 0, none⟩ 0 [.int .i64 0, .slice none 0 0, .bool false, .slice (some ⟨w1.heap.size, 0, none⟩) tl.len tl.len, .slice none 0 0]).heap.size = w3.heap.size := size_putCells ..
  generalize hw4 : putCells w3 ⟨w2.heap.size, 0, none⟩ 0 [.int .i64 0, .slice none 0 0, .bool false, .slice (some ⟨w1.heap.size, 0, none⟩) tl.len tl.len, .slice none 0 0] = w4 at k2 k3 hput
  have m14 : Mod [] w w4 := (m1.trans m2).trans k3
  have htw : TW w4 w2.heap.size w1.heap.size tl.len (zrep tl.len tzero) := ⟨k2, bL.mod k3 (by simp), by omega⟩
  refine Tl.sound (Tb := w2.heap.size) (Lb := w1.heap.size) (n := tl.len) (B := B) (base := base) (O := w2.heap.size :: w1.heap.size :: O) (by omega) (by simp) tl 0 (tl.t0 + 2) off 4 0 gs css [] _ w4 _ hO hT
    (hr.fresh m14 (by simp) (fun x hx => by
      rcases List.mem_cons.1 hx with rfl | hx
      · exact .inr (by omega)
      · rcases List.mem_cons.1 hx with rfl | hx
        · exact .inr (by omega)
        · exact .inl hx)) (by omega) (hc.mod m14 (.inr (by simp))) ?_ ?_ htw rfl (by omega) (by omega) (by omega) (by omega) fun σ' w' tcs a' hm' hrep htw' hln => ?_
  · simp only [upd, show (0 : Nat) ≠ 3 by omega, show (0 : Nat) ≠ tl.t0 + 1 by omega, show (0 : Nat) ≠ tl.t0 by omega, show (0 : Nat) ≠ 2 by omega, if_false, s0]
  · simp only [upd, if_true]
  · have s2' : σ' 2 = .pointer (some ⟨w.heap.size, 0, none⟩) := by
      rw [a' 2 (by omega)]
      simp only [upd, show (2 : Nat) ≠ 3 by omega, show (2 : Nat) ≠ tl.t0 + 1 by omega, show (2 : Nat) ≠ tl.t0 by omega, if_false, if_true]
    have s3' : σ' 3 = .pointer (some ⟨w2.heap.size, 0, none⟩) := by
      rw [a' 3 (by omega)]
      simp only [upd, if_true]
    have s0' : σ' 0 = .pointer (some ⟨B, base, none⟩) := by
      rw [a' 0 (by omega)]
      simp only [upd, show (0 : Nat) ≠ 3 by omega, show (0 : Nat) ≠ tl.t0 + 1 by omega, show (0 : Nat) ≠ tl.t0 by omega, show (0 : Nat) ≠ 2 by omega, if_false, s0]
    have hb2 : Blk w' w.heap.size tzero := ((b2.mod (m2.trans k3) (by simp))).mod hm' (by simp; omega)
    -- behind the fields
    have fin : ∀ (σ5 : Sl) (w5 : World) (t : Nat) (uv : Value) (ucs : List (List Value)), 4 ≤ t → σ5 2 = .pointer (some ⟨w.heap.size, 0, none⟩) → σ5 3 = .pointer (some ⟨w2.heap.size, 0, none⟩) → Mod [w2.heap.size] w' w5 →
        Blk w5 w2.heap.size [.int .i64 0, .slice none 0 0, .bool false, .slice (some ⟨w1.heap.size, 0, none⟩) tl.len tl.len, uv] → SlC (fun b => w.heap.size ≤ b ∧ b ≠ w.heap.size) w5 uv (GV.tagsF gs).length ucs.flatten →
        RepU (fun b => w.heap.size ≤ b ∧ b ≠ w.heap.size) w5 (GV.tagsF gs) ucs → wpL P [.blk [⟨some t, .ldn (.tmp 3) 5, none⟩, ⟨none, .st (.tmp 2) 5 (.tmp t), none⟩], .ret] (postC [.cells 2 5] fun e w6 => ∃ cs, e = .returned (.agg cs.toArray) ∧ RepT (fun b => w.heap.size ≤ b) w6 (GV.rcd gs).told cs ∧ Mod [] w w6) σ5 w5 := by
      intro σ5 w5 t uv ucs ht5 q2 q3 hm5 hb5 hus hru
      have uone : uv.oneCell' = true := hus.one
      have hld : cellsAt w5 ⟨w2.heap.size, 0, none⟩ 0 5 = some [.int .i64 0, .slice none 0 0, .bool false, .slice (some ⟨w1.heap.size, 0, none⟩) tl.len tl.len, uv] := cellsAt_of' hb5.cells rfl
      have hb2' : Blk w5 w.heap.size tzero := hb2.mod hm5 (by simp; omega)
      have hput2 : Mod [w.heap.size] w5 (putCells w5 ⟨w.heap.size, 0, none⟩ 0 [.int .i64 0, .slice none 0 0, .bool false, .slice (some ⟨w1.heap.size, 0, none⟩) tl.len tl.len, uv]) := Mod.put (by simp)
      have hb3 := hb2'.put (o := 0) (vs := [.int .i64 0, .slice none 0 0, .bool false, .slice (some ⟨w1.heap.size, 0, none⟩) tl.len tl.len, uv]) (by simp [tzero])
      rw [splice_all (by rfl)] at hb3
      simp only [wpL]
      rw [wpC_blk]
      refine wpR_step (v := .agg [.int .i64 0, .slice none 0 0, .bool false, .slice (some ⟨w1.heap.size, 0, none⟩) tl.len tl.len, uv].toArray) (by simp only [RK.val?, ev, q3, hld, Option.map_some]) ?_
      refine wpR_run ?_
      simp only [RK.run, ev, updo, upd, show (2 : Nat) ≠ t by omega, if_false, if_true, q2, ec]
      refine ⟨rfl, stOk_many hb2' (by simp [tzero]) (fun x hx => by
        simp only [List.mem_cons, List.not_mem_nil, or_false] at hx
        rcases hx with rfl | rfl | rfl | rfl | rfl <;> first | rfl | exact uone), ?_⟩
      refine wpR_done ?_
      simp only [wpC, thenC, postC, rvals, List.mapM_cons, List.mapM_nil, RV.val, upd, show (2 : Nat) ≠ t by omega, if_false, q2, cellsAt_of' hb3.cells (n := 5) rfl, Option.bind_eq_bind, Option.map_some, Option.bind_some, Option.pure_def, tup_one]
      have m56 : Mod [w2.heap.size, w.heap.size] w' (putCells w5 ⟨w.heap.size, 0, none⟩ 0 [.int .i64 0, .slice none 0 0, .bool false, .slice (some ⟨w1.heap.size, 0, none⟩) tl.len tl.len, uv]) := (hm5.mono (by simp)).trans (hput2.mono (by simp))
      refine ⟨_, rfl, ?_, ?_⟩
      · have hlt : (GV.toldF gs).length = tl.len := hrep.length.trans hln
        simp only [GV.told]
        refine .mk (css := tcs) (uss := ucs) SlC.nil ⟨some ⟨w1.heap.size, 0, none⟩, tl.len, by rw [hlt], by rw [hlt]; exact Nat.le_refl _, fun h => by simp at h, fun a ha _ => ?_⟩ ?_
          (hus.mod hput2 (fun b hb hx => by simp only [List.mem_singleton] at hb; exact hx.2 hb) fun b _ hb => hb.1) (hru.mod hput2 (fun b hb hx => by simp only [List.mem_singleton] at hb; exact hx.2 hb) fun b _ hb => hb.1)
        · simp only [Option.some.injEq] at ha; subst ha
          refine ⟨show w.heap.size ≤ w1.heap.size by omega, ?_, ?_⟩
          · exact Nat.lt_of_lt_of_le htw'.lb.lt m56.size
          · have := (htw'.lb.mod m56 (by simp; omega)).cells
            simpa using this
        · exact (hrep.mod m56 (fun b hb hx => by simp only [List.mem_cons, List.not_mem_nil, or_false] at hb; omega) fun b _ hb => by omega)
      · refine Mod.drop (b := w.heap.size) (S := []) ?_ (Nat.le_refl _)
        refine Mod.drop (b := w1.heap.size) (S := [w.heap.size]) ?_ (by omega)
        refine Mod.drop (b := w2.heap.size) (S := [w1.heap.size, w.heap.size]) ?_ (by omega)
        exact (m14.nil.trans (hm'.mono (by simp))).trans (m56.mono (by simp))
    simp only [thenC]
    rw [wpL_append]
    cases htg : tl.tg with
    | none =>
      have e1 : tl.tail (tl.t0 + 2 + tl.nt) (off + tl.size) = [] := by unfold Tl.tail; rw [htg]
      rw [e1]
      have hnt : GV.tagsF gs = [] := Tl.no_tags tl gs htg hT
      have := fin σ' w' (tl.t0 + 2 + tl.nt + tl.tn) (.slice none 0 0) [] (by omega) s2' s3' (Mod.refl _ _) htw'.tb (by rw [hnt]; exact SlC.nil) (by rw [hnt]; exact .nil)
      simpa only [wpL, thenC] using this
    | some q =>
      obtain ⟨a, b, c⟩ := q
      have e1 : tl.tail (tl.t0 + 2 + tl.nt) (off + tl.size) = tagBlks a b c (tl.t0 + 2 + tl.nt) (off + tl.size) := by unfold Tl.tail; rw [htg]
      rw [e1]
      obtain ⟨m, v, u1, u2, u3, u4, u5, u6⟩ := Tl.tag_cell tl gs css a b c htg hO hT hr
      have hcv : w.cell? ⟨B, base + (off + tl.size), none⟩ = some v := by
        have := hc.2 tl.size v u1
        simpa [Nat.add_assoc] using this
      have hrv : Rep (w2.heap.size :: w1.heap.size :: O) w4 (.tag m) [v] := u2.fresh m14 (by simp) (fun x hx => by
        rcases List.mem_cons.1 hx with rfl | hx
        · exact .inr (by omega)
        · rcases List.mem_cons.1 hx with rfl | hx
          · exact .inr (by omega)
          · exact .inl hx)
      have hrv' := hrv.mod hm' (by simp)
      have hTM : TagM (fun b => b ∉ w2.heap.size :: w1.heap.size :: O) w' v m ∧ ∀ r, v = .map (some r) → r ≠ w2.heap.size := by
        cases hrv' with
        | tag0 => exact ⟨.inl ⟨rfl, rfl⟩, fun r h => by simp at h⟩
        | @tag1 r _ h1 h2 => exact ⟨.inr ⟨r, rfl, h2⟩, fun r' h => by simp only [Value.map.injEq, Option.some.injEq] at h; subst h; exact fun e => h1 (by simp [e])⟩
      refine tagBlks_wp u6 (okv := fun b => b ∉ w2.heap.size :: w1.heap.size :: O) (by omega) s0' s3' htw'.tb (cell_mod (cell_mod hcv m14 (by simp)) hm' (by simp; omega)) hTM.1 (fun b hb e => hb (by simp [e])) (by omega) hTM.2 u4 u5 fun σ6 w6 uv ucs a6 hm6 hb6 hs6 hr6 => ?_
      simp only [thenC]
      refine fin σ6 w6 (tl.t0 + 2 + tl.nt + tl.tn) uv ucs (by omega) (by rw [a6 2 (by omega)]; exact s2') (by rw [a6 3 (by omega)]; exact s3') hm6 hb6 ?_ ?_
      · rw [u3]; exact hs6.mod (Mod.refl [] _) (by simp) fun b _ hb => by have := hm'.size; omega
      · rw [u3]; exact hr6.mod (Mod.refl [] _) (by simp) fun b _ hb => by have := hm'.size; omega
end
end Go.Msk

namespace Go.Msk
open Go.RowKit
set_option maxRecDepth 100000
def PK.ty : PK → GV → Prop
  | .bool, g => ∃ b, g = .num (.bool b)
  | .i64, g => ∃ n, g = .num (.int .i64 n) ∧ IntKind.i64.wrap n = n
  | .str, g => ∃ l, g = .num (Msk.str l)
  | .nstr, g => ∃ o, g = .nstr o
  | .byt, g | .nbyt, g => ∃ o, g = .byt o ∧ ∀ l, o = some l → l.length ≤ 2147483647
  | .uuid, g => ∃ l, g = .arr l ∧ l.length = 16
  | _, g => ∃ k n, g = .num (.int k n)
def fitF : PK → TK → Bool
  | .bool, .boo _ => true
  | .i64, .num false => true
  | .str, .str => true
  | .nstr, .txt _ => true
  | .byt, .oct _ | .nbyt, .oct _ => true
  | .i8, .num true | .i16, .num true | .u16, .num true | .i32, .num true | .u32, .num true => true
  | _, _ => false
def fitE : PK → EK → Bool
  | .i64, .num false => true
  | .str, .str => true
  | .i8, .num true | .i16, .num true | .u16, .num true | .i32, .num true | .u32, .num true => true
  | _, _ => false
theorem fitF_ty {p : PK} {k : TK} {g : GV} (h : fitF p k = true) (hg : p.ty g) : k.ty g := by
  cases p <;> cases k <;> simp only [fitF, Bool.false_eq_true] at h <;> first | exact hg | (rename_i c; cases c <;> simp only [Bool.false_eq_true] at h <;> exact hg)
theorem fitE_ty {p : PK} {k : EK} {T : List GV → Prop} {g : GV} (h : fitE p k = true) (hg : p.ty g) : k.ty T g := by
  cases p <;> cases k <;> simp only [fitE, Bool.false_eq_true] at h <;> first | exact hg | (rename_i c; cases c <;> simp only [Bool.false_eq_true] at h <;> exact hg)
def fitD : PK → Df → Bool
  | .bool, .bool _ => true
  | .i64, .int .i64 n => decide (IntKind.i64.wrap n = n)
  | .str, .str _ => true
  | .nstr, .nstr => true
  | .byt, .byt | .nbyt, .byt => true
  | .uuid, .uuid => true
  | .i8, .int .. | .i16, .int .. | .u16, .int .. | .i32, .int .. | .u32, .int .. => true
  | _, _ => false
theorem fitD_ty {p : PK} {d : Df} (h : fitD p d = true) : p.ty d.gv := by
  cases p <;> cases d <;> simp only [fitD, Bool.false_eq_true] at h <;> first | exact ⟨_, _, rfl⟩ | exact ⟨_, rfl⟩ | exact ⟨none, rfl, by simp⟩ | exact ⟨_, rfl, by simp⟩ | skip
  rename_i k n
  cases k <;> simp only [Bool.false_eq_true, decide_eq_true_eq] at h
  exact ⟨n, rfl, h⟩
def fit : Sc → Tl → Bool
  | .nil, .nil => true
  | .prm _ _ _ p d rest, .fld k r => fitF p k && fitD p d && fit rest r
  | .prm _ _ _ p d rest, .uid r => decide (p = .uuid) && fitD p d && fit rest r
  | .enm _ _ _ p d rest, .fld k r => fitF p k && fitD p d && fit rest r
  | .lsp _ _ _ d _ _ p rest, .lst k esz _ r => fitE p k && decide (d.size = esz) && fit rest r
  | .lss _ _ _ _ _ body rest, .lst (.tell _) esz b r => fit body b && decide (body.size = esz) && fit rest r
  | .sub _ _ body rest, .sub _ n b r => fit body b && decide (body.size = n) && fit rest r
  | .tags _, .tags .. => true
  | .uid _ _ rest, .uid r => fit rest r
  | _, _ => false
theorem fit_dgv : ∀ (sc : Sc) (tl : Tl), fit sc tl = true → tl.ty sc.dgv := by
  intro sc
  induction sc with
  | nil => intro tl hf; cases tl <;> simp only [fit, Bool.false_eq_true] at hf; rfl
  | prm vc i r p d rest ih =>
    intro tl hf
    cases tl <;> simp only [fit, Bool.false_eq_true, Bool.and_eq_true] at hf
    · exact ⟨_, _, rfl, fitF_ty hf.1.1 (fitD_ty hf.1.2), ih _ hf.2⟩
    · have e : p = .uuid := by simpa using hf.1.1
      subst e
      obtain ⟨l, h1, h2⟩ := fitD_ty hf.1.2
      exact ⟨l, _, by rw [Sc.dgv, h1], h2, ih _ hf.2⟩
  | enm vc i r p d rest ih =>
    intro tl hf
    cases tl <;> simp only [fit, Bool.false_eq_true, Bool.and_eq_true] at hf
    exact ⟨_, _, rfl, fitF_ty hf.1.1 (fitD_ty hf.1.2), ih _ hf.2⟩
  | lsp vc len by' d i r p rest ih =>
    intro tl hf
    cases tl <;> simp only [fit, Bool.false_eq_true, Bool.and_eq_true] at hf
    exact ⟨_, _, _, _, rfl, by simp, by simp, .inl rfl, ih _ hf.2⟩
  | lss vc len by' z dfl body rest ihb ih =>
    intro tl hf
    cases tl with
    | lst k esz b r' =>
      cases k <;> simp only [fit, Bool.false_eq_true, Bool.and_eq_true] at hf
      exact ⟨_, _, _, _, rfl, by simp, by simp, .inl rfl, ih _ hf.2⟩
    | _ => simp [fit] at hf
  | sub vc dfl body rest ihb ih =>
    intro tl hf
    cases tl <;> simp only [fit, Bool.false_eq_true, Bool.and_eq_true] at hf
    exact ⟨_, _, rfl, ihb _ hf.1.1, ih _ hf.2, rfl⟩
  | uid vc f rest ih =>
    intro tl hf
    cases tl <;> simp only [fit, Bool.false_eq_true] at hf
    exact ⟨_, _, rfl, by simp, ih _ hf⟩
  | tags f =>
    intro tl hf
    cases tl <;> simp only [fit, Bool.false_eq_true] at hf
    exact ⟨[], rfl, by simp, by simp⟩
end Go.Msk

namespace Go.Msk
open Go.RowKit
set_option maxRecDepth 100000
section
variable {P : Program} {F : Nat → Nat}
attribute [local simp] bnd wpC wpR RI.wp gOk RK.run thenC inBlockC updo upd ev args0 postC rvals RV.val tup_one isShift
theorem got_loop2 {N : Nat} {w w3 : World} {Pb b2 Ob : Nat} {n : Int} {sv lv uv0 : Value} {null : Bool} {u : List (Nat × List UInt8)} {uss : List (List Value)} {σ : Sl} {Q : Exit → Sl → World → Prop}
    (hw : Mod [] w w3 ∨ (Mod [Ob] w w3)) (_hN : N ≤ w.heap.size) (hu : SlC (fun b => b < N) w uv0 u.length uss.flatten) (hr : RepU (fun b => b < N) w u uss) (hlen : u.length ≤ 2147483647)
    (hob : Blk w3 Ob [.int .i64 n, sv, .bool null, lv, .slice none 0 0]) (hoN : N ≤ Ob)
    (h1 : σ 1 = .pointer (some ⟨Pb, 0, none⟩)) (h2 : σ 2 = .pointer (some ⟨b2, 0, none⟩)) (h3 : σ 3 = .pointer (some ⟨Ob, 0, none⟩)) (hpb : w3.cell? ⟨Pb, 4, none⟩ = some uv0)
    (hQ : ∀ σ' w' uv ucs, σ' 2 = .pointer (some ⟨b2, 0, none⟩) → σ' 3 = .pointer (some ⟨Ob, 0, none⟩) → GU w3 w' Ob n sv lv uv null N u ucs → ucs.length = u.length → Q .normal σ' w') :
    wpC P (.seq (.blk [⟨some 30, .fad (.tmp 1) 4, none⟩, ⟨some 31, .ld (.tmp 30), none⟩, ⟨some 32, .len (.tmp 31), none⟩, ⟨some 33, .mv (.const (.int .i64 0)), none⟩])
      (.block 2 (.loop (.seq (.blk [⟨some 34, .bin .lss (.tmp 33) (.tmp 32), none⟩]) (.seq (.cond (.tmp 34) .skip (.exit 2))
        (.seq (.block 3 (.seq (.blk [⟨some 35, .iad (.tmp 31) (.tmp 33) 2, none⟩, ⟨some 36, .ldn (.tmp 35) 2, none⟩, ⟨some 7, .alloc uzero, none⟩, ⟨none, .st (.tmp 7) 2 (.tmp 36), none⟩])
            (.blk [⟨some 37, .fad (.tmp 3) 4, none⟩, ⟨some 38, .ld (.tmp 37), none⟩, ⟨some 39, .fad (.tmp 7) 0, none⟩, ⟨some 40, .ld (.tmp 39), none⟩, ⟨some 41, .fad (.tmp 7) 1, none⟩, ⟨some 42, .ld (.tmp 41), none⟩,
                ⟨some 43, .build uzero [(0, 1, .tmp 40), (1, 1, .tmp 42)], none⟩, ⟨some 44, .bslice 1 uzero [(0, 2, .tmp 43)], none⟩, ⟨some 45, .append (.tmp 38) (.tmp 44) 2 32, none⟩, ⟨some 46, .fad (.tmp 3) 4, none⟩, ⟨none, .st (.tmp 46) 1 (.tmp 45), none⟩])))
          (.blk [⟨some 47, .bin .add (.tmp 33) (.const (.int .i64 1)), none⟩, ⟨some 33, .mv (.tmp 47), none⟩])))))))
      Q σ w3 := by
  obtain ⟨lb, lc, elv⟩ := hu.shape
  have hol := hob.lt
  have hw' : Mod [Ob] w w3 := hw.elim (·.nil) id
  rw [wpC_seq, wpC_blk]
  refine wpR_step (v := .pointer (some ⟨Pb, 4, none⟩)) (by simp [RK.val?, h1, Addr.add_mk]) ?_
  refine wpR_step (v := uv0) (by simp [RK.val?, hpb]) ?_
  refine wpR_step (v := .int .i64 u.length) (by simp [RK.val?, elv]) ?_
  refine wpR_step (v := .int .i64 0) (by simp [RK.val?]) ?_
  simp only [wpR, thenC]
  rw [wpC_block, wpC_loop]
  refine ⟨fun σ1 w1 => ∃ j uv ucs, j ≤ u.length ∧ σ1 2 = .pointer (some ⟨b2, 0, none⟩) ∧ σ1 3 = .pointer (some ⟨Ob, 0, none⟩) ∧ σ1 31 = uv0 ∧ σ1 32 = .int .i64 u.length ∧ σ1 33 = .int .i64 j ∧
      GU w3 w1 Ob n sv lv uv null N (u.take j) ucs ∧ ucs.length = j,
    fun σ1 _ => u.length - (match σ1 33 with | .int _ j => j.toNat | _ => 0), ⟨0, .slice none 0 0, [], Nat.zero_le _, by simp [h2], by simp [h3], by simp, by simp, by simp, ⟨hob, ⟨by simp, .inl ⟨rfl, rfl⟩⟩, by simpa using .nil, Mod.refl _ _, hol, hoN⟩, rfl⟩, ?_⟩
  rintro σ1 w1 ⟨j, uv, ucs, hj, s2, s3, s31, s32, s33, hgs, htl⟩
  rw [wpC_seq, wpC_blk]
  refine wpR_step (v := .bool (decide ((j : Int) < u.length))) (by simp [RK.val?, s32, s33, intBin]) ?_
  simp only [wpR, thenC]
  rw [wpC_seq]
  by_cases hlt : j < u.length
  · rw [wpC_cond_t (by simp [hlt]), wpC_skip]
    simp only [thenC]
    rw [wpC_seq, wpC_block, wpC_seq, wpC_blk]
    obtain ⟨tj, htj⟩ : ∃ t, u[j]? = some t := ⟨u[j], List.getElem?_eq_getElem hlt⟩
    have hmw : Mod [Ob] w w1 := hw'.trans hgs.mod
    have hNob : ∀ b ∈ [Ob], ¬ b < N := fun b hb => by simp only [List.mem_singleton] at hb; have := hgs.nob; omega
    obtain ⟨vj, hcj, hrj⟩ := (hr.mod (ok' := fun b => b < N) hmw hNob fun _ _ h => h).nth htj
    obtain ⟨pa, pc, ep, -, hcells⟩ := (hu.mod (ok' := fun b => b < N) hmw hNob fun _ _ h => h).flat hr.length hr.two hcj
    obtain ⟨vb, vc, evj⟩ := hrj.shape
    refine wpR_step (v := .pointer (some (pa.add (j * 2)))) (by simp [RK.val?, s31, s33, ep, hlt]) ?_
    refine wpR_step (v := .agg [.int .u32 tj.1, vj].toArray) (by simp [RK.val?, hcells]) ?_
    refine wpR_run ?_
    intro Ty
    obtain ⟨q1, q2, q3⟩ := new_put w1 uzero [.int .u32 tj.1, vj] Ty rfl (by rw [evj]; simp [Value.oneCell'])
    refine wpR_run ?_
    have ec' : (Value.agg [.int .u32 tj.1, vj].toArray).cells.toList = [.int .u32 tj.1, vj] := rfl
    simp only [RK.run, ev, updo, upd]
    simp only [if_true, show (36 : Nat) ≠ 7 by decide, if_false, ec']
    refine ⟨rfl, q1, ?_⟩
    generalize hw4 : putCells (w1.alloc (.cells uzero.toArray Ty)) ⟨w1.heap.size, 0, none⟩ 0 [.int .u32 tj.1, vj] = w4 at q2 q3
    simp only [wpR, thenC]
    rw [wpC_blk]
    have hob4 := hgs.ob.mod q3 (by simp)
    have hraw4 : LRaw2 w4 w3.heap.size uv ucs := ⟨hgs.raw.two, hgs.raw.sl.imp id fun ⟨BA, cap, rest, g1, g2, g3, g4, g5⟩ => ⟨BA, cap, rest, g1, g2, g3, g4.mod q3 (by simp), g5⟩⟩
    have c0 := q2.cell 0
    have c1 := q2.cell 1
    refine wpR_step (v := .pointer (some ⟨Ob, 4, none⟩)) (by simp [RK.val?, s3, Addr.add_mk]) ?_
    refine wpR_step (v := uv) (by simp [RK.val?]; exact hob4.cell 4) ?_
    refine wpR_step (v := .pointer (some ⟨w1.heap.size, 0, none⟩)) (by simp [RK.val?, Addr.add_mk]) ?_
    refine wpR_step (v := .int .u32 tj.1) (by simp [RK.val?]; simpa using c0) ?_
    refine wpR_step (v := .pointer (some ⟨w1.heap.size, 1, none⟩)) (by simp [RK.val?, Addr.add_mk]) ?_
    refine wpR_step (v := vj) (by simp [RK.val?]; simpa using c1) ?_
    refine wpR_step (v := .agg [.int .u32 tj.1, vj].toArray) (by simp [RK.val?, uzero, fillL, splice, Value.cells, evj]) ?_
    refine wpR_run ?_
    have hf : fillL (zrep 1 uzero) [(0, 2, Value.agg [.int .u32 tj.1, vj].toArray)] = some [.int .u32 tj.1, vj] := by
      simp [zrep, uzero, fillL, splice, Value.cells]
    simp only [RK.run, List.map_cons, List.map_nil, ev, updo, upd, if_true, hf]
    intro T5
    have hm5 : Mod [] w4 (w4.alloc (.cells [.int .u32 tj.1, vj].toArray T5)) := Mod.alloc _ _ _
    have hb5 : Blk (w4.alloc (.cells [.int .u32 tj.1, vj].toArray T5)) w4.heap.size [.int .u32 tj.1, vj] := Blk.new _ _ _
    generalize w4.alloc (.cells [.int .u32 tj.1, vj].toArray T5) = w5 at hm5 hb5
    have hob5 := hob4.mod hm5 (by simp)
    have hraw5 : LRaw2 w5 w3.heap.size uv ucs := ⟨hraw4.two, hraw4.sl.imp id fun ⟨BA, cap, rest, g1, g2, g3, g4, g5⟩ => ⟨BA, cap, rest, g1, g2, g3, g4.mod hm5 (by simp), g5⟩⟩
    have hm15 : Mod [] w1 w5 := q3.trans hm5
    have hm35 : Mod [Ob] w3 w5 := hgs.mod.trans hm15.nil
    refine wpR_run ?_
    refine append_two (lv := uv) (n0 := w3.heap.size) (by simp) hraw5 hm35.size (by simp) hb5 rfl (by rw [evj]; simp [Value.oneCell']) (by omega) fun uv' w6 hraw6 hown => ?_
    have hlob := hgs.lob
    have hge : ∀ b, own uv = some b → w3.heap.size ≤ b := fun b hb => by
      rcases hraw5.sl with ⟨e, -⟩ | ⟨BA, cap, rest, e, g2, g3, -⟩
      · rw [e] at hb; simp [own] at hb
      · rw [e] at hb; simp only [own, Option.some.injEq] at hb; omega
    have hnN : N ≤ w3.heap.size := by have := hgs.nob; omega
    have key : Blk w6 Ob [.int .i64 n, sv, .bool null, lv, uv] ∧ Mod [Ob] w3 w6 ∧ RepU (fun b => b < N) w6 (u.take j ++ [tj]) (ucs ++ [[.int .u32 tj.1, vj]]) := by
      have hS : ∀ b ∈ (own uv).toList, own uv = some b := fun b hb => by simpa using hb
      have hrep5 : RepU (fun b => b < N) w5 (u.take j ++ [tj]) (ucs ++ [[.int .u32 tj.1, vj]]) := (hgs.rep.mod hm15 (by simp) fun _ _ h => h).append (.cons (hrj.mod hm15 (by simp) fun _ _ h => h) .nil)
      rcases hown with ⟨⟨ho, hm⟩, -⟩ | ⟨ho, hm⟩
      · refine ⟨hob5.mod hm (fun hc => by have := hge _ (hS _ hc); omega), ?_, hrep5.mod hm (fun b hb hc => by have := hge _ (hS _ hb); omega) fun _ _ h => h⟩
        refine ⟨hm.os.trans hm35.os, hm.tape.trans hm35.tape, hm.output.trans hm35.output, Nat.le_trans hm35.size hm.size, fun k hk hn => ?_⟩
        rw [hm.block k (Nat.lt_of_lt_of_le hk hm35.size) (fun hc => by have := hge _ (hS _ hc); omega)]
        exact hm35.block k hk hn
      · exact ⟨hob5.mod hm (by simp), hm35.trans hm.nil, hrep5.mod hm (by simp) fun _ _ h => h⟩
    obtain ⟨k1, k2, k3⟩ := key
    have o1 : uv'.cells = #[uv'] ∧ uv'.oneCell' = true := by
      rcases hraw6.sl with ⟨e, -⟩ | ⟨BA, cap, rest, e, -⟩ <;> subst e <;> exact ⟨rfl, rfl⟩
    have hput : Mod [Ob] w6 (putCells w6 ⟨Ob, 4, none⟩ 0 [uv']) := Mod.put (by simp)
    have hp := k1.put (o := 4) (vs := [uv']) (by simp)
    have e1 : splice [Value.int .i64 n, sv, .bool null, lv, uv] 4 [uv'] = [.int .i64 n, sv, .bool null, lv, uv'] := by simp [splice]
    rw [e1] at hp
    refine wpR_step (v := .pointer (some ⟨Ob, 4, none⟩)) (by simp [RK.val?, s3, Addr.add_mk]) ?_
    refine wpR_run ?_
    simp only [RK.run, ev, updo, upd, if_true, show (45 : Nat) ≠ 46 by decide, if_false, o1.1]
    refine ⟨rfl, stOk_one k1 (by simp) o1.2, ?_⟩
    have hge' : ∀ b, own uv' = some b → w3.heap.size ≤ b := fun b hb => by
      rcases hraw6.sl with ⟨e, -⟩ | ⟨BA, cap, rest, e, g2, g3, -⟩
      · rw [e] at hb; simp [own] at hb
      · rw [e] at hb; simp only [own, Option.some.injEq] at hb; omega
    simp only [wpR, inBlockC, thenC]
    have hw : IntKind.i64.wrap ((j : Int) + 1) = ((j + 1 : Nat) : Int) := by
      simp only [IntKind.wrap, IntKind.bits, IntKind.signed]; simp; omega
    rw [wpC_blk]
    refine wpR_step (v := .int .i64 ((j + 1 : Nat) : Int)) (by simp [RK.val?, intBin, s33, hw]) ?_
    refine wpR_step (v := .int .i64 ((j + 1 : Nat) : Int)) (by simp [RK.val?]) ?_
    simp only [wpR, thenC]
    refine ⟨⟨j + 1, uv', ucs ++ [[.int .u32 tj.1, vj]], hlt, by simp [s2], by simp [s3], by simp [s31], by simp [s32], by simp, ?_, by simp [htl]⟩, ?_⟩
    · rw [List.take_add_one, htj]
      refine ⟨by simpa using hp, ⟨hraw6.two, hraw6.sl.imp id fun ⟨BA, cap, rest, g1, g2, g3, g4, g5⟩ => ⟨BA, cap, rest, g1, g2, g3, by simpa using g4.mod hput (by have := hge' BA (by rw [g1]; rfl); simp; omega), g5⟩⟩, ?_, by simpa using k2.trans hput, hlob, hgs.nob⟩
      exact k3.mod hput (fun b hb hc => by simp only [List.mem_singleton] at hb; have := hgs.nob; omega) fun _ _ h => h
    · simp [s33]; show u.length - (j + 1) < u.length - j; omega
  · rw [wpC_cond_f (by simp; omega)]
    have hje : j = u.length := by omega
    subst hje
    rw [List.take_length] at hgs
    simp only [wpC, inBlockC, thenC, if_true]
    exact hQ _ w1 uv ucs (by simp [s2]) (by simp [s3]) hgs htl
end
end Go.Msk

namespace Go.Msk
open Go.RowKit
set_option maxRecDepth 100000
mutual
/-- Lists within what Go can hold. -/
def TR.small : TR → Prop
  | .mk _ s _ l u => s.length ≤ 2147483647 ∧ l.length ≤ 2147483647 ∧ u.length ≤ 2147483647 ∧ (∀ x ∈ u, x.2.length ≤ 2147483647) ∧ TR.smallL l
def TR.smallL : List TR → Prop
  | [] => True
  | t :: l => t.small ∧ TR.smallL l
end
theorem TR.smallL_mem : ∀ {l : List TR}, TR.smallL l → ∀ t ∈ l, t.small
  | [], _, t, h => by simp at h
  | a :: l, hs, t, h => by
    simp only [TR.smallL] at hs
    rcases List.mem_cons.1 h with rfl | h
    · exact hs.1
    · exact TR.smallL_mem hs.2 t h
section
variable {P : Program} {F : Nat → Nat}
theorem LRaw.slc {w : World} {n0 : Nat} {lv : Value} {css : List (List Value)} (h : LRaw w n0 lv css) {ok : Nat → Prop} (hok : ∀ b, n0 ≤ b → ok b) : SlC ok w lv css.length css.flatten := by
  rcases h.sl with ⟨rfl, rfl⟩ | ⟨BA, cap, rest, rfl, q2, q3, q4, q5⟩
  · exact SlC.nil
  · refine ⟨some ⟨BA, 0, none⟩, cap, rfl, q2, fun h => by simp at h, fun a ha _ => ?_⟩
    simp only [Option.some.injEq] at ha; subst ha
    refine ⟨hok _ q3, q4.lt, ?_⟩
    have := q4.cells.take css.flatten.length
    rwa [List.take_left] at this
theorem LRaw2.slc {w : World} {n0 : Nat} {lv : Value} {css : List (List Value)} (h : LRaw2 w n0 lv css) {ok : Nat → Prop} (hok : ∀ b, n0 ≤ b → ok b) : SlC ok w lv css.length css.flatten := by
  rcases h.sl with ⟨rfl, rfl⟩ | ⟨BA, cap, rest, rfl, q2, q3, q4, q5⟩
  · exact SlC.nil
  · refine ⟨some ⟨BA, 0, none⟩, cap, rfl, q2, fun h => by simp at h, fun a ha _ => ?_⟩
    simp only [Option.some.injEq] at ha; subst ha
    refine ⟨hok _ q3, q4.lt, ?_⟩
    have := q4.cells.take css.flatten.length
    rwa [List.take_left] at this
theorem got_one (hm : P.follows .mixedOrders = true) (h : liftF P (F lGot) = some (ir_lGot F)) {n : Int} {s : List UInt8} {null : Bool} {l : List TR} {u : List (Nat × List UInt8)} (hf : ∀ t ∈ l, GotAt P (F lGot) t)
    (hl : l.length ≤ 2147483647) (hul : u.length ≤ 2147483647) : GotAt P (F lGot) (.mk n s null l u) := by
  intro N w cs hN hrep
  obtain ⟨sv, lv0, uv0, css, uss, rfl, h1, h2, h3, h4, h5⟩ : ∃ sv lv0 uv0 css uss, cs = [.int .i64 n, sv, .bool null, lv0, uv0] ∧ SlC (fun b => b < N) w sv s.length (u8s s) ∧ SlC (fun b => b < N) w lv0 l.length css.flatten ∧ RepTL (fun b => b < N) w l css ∧
      SlC (fun b => b < N) w uv0 u.length uss.flatten ∧ RepU (fun b => b < N) w u uss := by
    cases hrep with | mk h1 h2 h3 h4 h5 => exact ⟨_, _, _, _, _, rfl, h1, h2, h3, h4, h5⟩
  refine call_of h hm (by simp) ?_
  have a0 : args0 [.agg [.int .i64 n, sv, .bool null, lv0, uv0].toArray] 0 = .agg [.int .i64 n, sv, .bool null, lv0, uv0].toArray := rfl
  generalize args0 [.agg [.int .i64 n, sv, .bool null, lv0, uv0].toArray] = σ0 at a0 ⊢
  rw [wpC_seq, wpC_blk]
  refine wpR_run ?_
  have ec : (Value.agg [.int .i64 n, sv, .bool null, lv0, uv0].toArray).cells.toList = [.int .i64 n, sv, .bool null, lv0, uv0] := rfl
  simp only [RK.run, ev, a0, ec]
  intro T1
  have b1 := Blk.new w [.int .i64 n, sv, .bool null, lv0, uv0] T1
  have m1 : Mod [] w (w.alloc (.cells [.int .i64 n, sv, .bool null, lv0, uv0].toArray T1)) := Mod.alloc _ _ _
  have z1 : (w.alloc (.cells [.int .i64 n, sv, .bool null, lv0, uv0].toArray T1)).heap.size = w.heap.size + 1 := by simp
  generalize w.alloc (.cells [.int .i64 n, sv, .bool null, lv0, uv0].toArray T1) = w1 at b1 m1 z1 ⊢
  refine wpR_run ?_
  have hz : ([Value.int .i64 0, .slice none 0 0, .bool false, .slice none 0 0, .slice none 0 0] : List Value) = tzero := rfl
  rw [hz]
  simp only [RK.run]
  intro T2
  have b2 := Blk.new w1 tzero T2
  have m2 : Mod [] w1 (w1.alloc (.cells tzero.toArray T2)) := Mod.alloc _ _ _
  have z2 : (w1.alloc (.cells tzero.toArray T2)).heap.size = w1.heap.size + 1 := by simp
  generalize w1.alloc (.cells tzero.toArray T2) = w2 at b2 m2 z2 ⊢
  simp only [wpR, thenC]
  rw [wpC_seq, wpC_blk]
  have b12 := b1.mod m2 (by simp)
  have s1 : ∀ x y, updo (updo σ0 (some 1) x) (some 2) y 1 = x := fun x y => by simp [updo, upd]
  have c0 := b12.cell 0
  have c1 := b12.cell 1
  have c2 := b12.cell 2
  simp only [List.getElem?_cons_zero, List.getElem?_cons_succ] at c0 c1 c2
  obtain ⟨svb, svc, esv⟩ := h1.shape
  refine wpR_step (v := .pointer (some ⟨w.heap.size, 0, none⟩)) (by simp [RK.val?, ev, updo, upd, Addr.add_mk]) ?_
  refine wpR_step (v := .int .i64 n) (by simp only [RK.val?, ev, updo, upd_same, c0]) ?_
  refine wpR_step (v := .pointer (some ⟨w.heap.size, 1, none⟩)) (by simp [RK.val?, ev, updo, upd, Addr.add_mk]) ?_
  refine wpR_step (v := sv) (by simp only [RK.val?, ev, updo, upd_same, c1]) ?_
  refine wpR_step (v := .pointer (some ⟨w.heap.size, 2, none⟩)) (by simp [RK.val?, ev, updo, upd, Addr.add_mk]) ?_
  refine wpR_step (v := .bool null) (by simp only [RK.val?, ev, updo, upd_same, c2]) ?_
  refine wpR_step (v := .agg [.int .i64 n, sv, .bool null, .slice none 0 0, .slice none 0 0].toArray) (by simp [RK.val?, ev, updo, upd, tzero, fillL, splice, Value.cells, esv]) ?_
  refine wpR_run ?_
  simp only [RK.run]
  intro T3
  obtain ⟨q1, q2, q3⟩ := new_put w2 tzero [.int .i64 n, sv, .bool null, .slice none 0 0, .slice none 0 0] T3 rfl (by rw [esv]; simp [Value.oneCell'])
  refine wpR_run ?_
  have ec2 : (Value.agg [.int .i64 n, sv, .bool null, .slice none 0 0, .slice none 0 0].toArray).cells.toList = [.int .i64 n, sv, .bool null, .slice none 0 0, .slice none 0 0] := rfl
  simp only [RK.run, ev, updo, upd]
  simp only [if_true, show (14 : Nat) ≠ 3 by decide, if_false, ec2]
  refine ⟨rfl, q1, ?_⟩
  have hsz3 : (putCells (w2.alloc (.cells tzero.toArray T3)) ⟨w2.heap.size, 0, none⟩ 0 [.int .i64 n, sv, .bool null, .slice none 0 0, .slice none 0 0]).heap.size = w2.heap.size + 1 := by rw [size_putCells]; simp
  generalize putCells (w2.alloc (.cells tzero.toArray T3)) ⟨w2.heap.size, 0, none⟩ 0 [.int .i64 n, sv, .bool null, .slice none 0 0, .slice none 0 0] = w3 at q2 q3 hsz3
  have m03 : Mod [] w w3 := (m1.trans m2).trans q3
  simp only [wpR, thenC]
  rw [wpC_seq]
  refine got_loop1 (Pb := w.heap.size) (b2 := w1.heap.size) (Ob := w2.heap.size) (n := n) (sv := sv) (null := null) hf m03 hN h2 h3 hl q2 (by omega) (by simp [upd]) (by simp [upd]) (by simp [upd]) ((b12.mod q3 (by simp)).cell 3) fun σ4 w4 lv tcs t1 t2 t3 hgs hln => ?_
  simp only [thenC]
  rw [wpC_seq]
  have m04 : Mod [w2.heap.size] w w4 := m03.nil.trans hgs.mod
  have nO : ∀ b ∈ [w2.heap.size], ¬ b < N := fun b hb => by simp only [List.mem_singleton] at hb; omega
  refine got_loop2 (Pb := w.heap.size) (b2 := w1.heap.size) (Ob := w2.heap.size) (n := n) (sv := sv) (null := null) (.inr m04) hN h4 h5 hul hgs.ob (by omega) t1 t2 t3 (((b12.mod q3 (by simp)).mod hgs.mod (by simp; omega)).cell 4) fun σ5 w5 uv ucs r2 r3 hgu hun => ?_
  simp only [thenC]
  rw [wpC_seq, wpC_blk]
  refine wpR_step (v := .agg [.int .i64 n, sv, .bool null, lv, uv].toArray) (by simp only [RK.val?, ev, r3, cellsAt_of' hgu.ob.cells (n := 5) rfl, Option.map_some]) ?_
  have m05 : Mod [w2.heap.size] w w5 := m04.trans hgu.mod
  have m45 := hgu.mod
  have own_ne : ∀ b, own lv = some b → w3.heap.size ≤ b := fun b hb => (hgs.raw.own hb).1
  have hraw5 : LRaw w5 w3.heap.size lv tcs := hgs.raw.mod m45 (fun b hb => by have := own_ne b hb; simp; omega)
  have hrep5 : RepTL (fun b => b < N ∨ (w3.heap.size ≤ b ∧ own lv ≠ some b)) w5 l tcs := hgs.rep.mod m45 (fun b hb hc => by
    simp only [List.mem_singleton] at hb
    rcases hc with hc | hc <;> omega) fun _ _ h => h
  have hb25 : Blk w5 w1.heap.size tzero := ((b2.mod q3 (by simp)).mod hgs.mod (by simp; omega)).mod m45 (by simp; omega)
  have hs5 := h1.mod (ok' := fun b => b < N) m05 nO fun _ _ h => h
  have hfin : RepT (fun b => (b < N ∨ w.heap.size ≤ b) ∧ b ≠ w1.heap.size) w5 (.mk n s null l u) [.int .i64 n, sv, .bool null, lv, uv] := by
    refine .mk (css := tcs) (uss := ucs) (hs5.mod (Mod.refl [] _) (by simp) fun b _ hb => ⟨.inl hb, by omega⟩) ?_ (hrep5.mod (Mod.refl [] _) (by simp) fun b _ hb => ?_) ?_ (hgu.rep.mod (Mod.refl [] _) (by simp) fun b _ hb => ⟨.inl hb, by omega⟩)
    · rw [← hln]; exact hraw5.slc fun b hb => ⟨.inr (by omega), by omega⟩
    · rcases hb with hb | hb
      · exact ⟨.inl hb, by omega⟩
      · exact ⟨.inr (by omega), by omega⟩
    · rw [← hun]; exact hgu.raw.slc fun b hb => ⟨.inr (by have := hgs.mod.size; omega), by have := hgs.mod.size; omega⟩
  have hput : Mod [w1.heap.size] w5 (putCells w5 ⟨w1.heap.size, 0, none⟩ 0 [.int .i64 n, sv, .bool null, lv, uv]) := Mod.put (by simp)
  have hp := hb25.put (o := 0) (vs := [.int .i64 n, sv, .bool null, lv, uv]) (by simp [tzero])
  rw [splice_all (by rfl)] at hp
  refine wpR_run ?_
  have ec3 : (Value.agg [.int .i64 n, sv, .bool null, lv, uv].toArray).cells.toList = [.int .i64 n, sv, .bool null, lv, uv] := rfl
  simp only [RK.run, ev, updo, upd]
  simp only [show (2 : Nat) ≠ 48 by decide, if_false, if_true, r2, ec3]
  refine ⟨rfl, stOk_many hb25 (by simp [tzero]) hfin.oneCell, ?_⟩
  simp only [wpR, wpC, thenC, postC, rvals, List.mapM_cons, List.mapM_nil, RV.val, upd, show (2 : Nat) ≠ 48 by decide, if_false, r2, cellsAt_of' hp.cells (n := 5) rfl, Option.bind_eq_bind, Option.map_some, Option.bind_some, Option.pure_def, tup_one]
  refine ⟨_, rfl, hfin.mod hput (fun b hb hc => by simp only [List.mem_singleton] at hb; exact hc.2 hb) (fun b _ hb => hb.1), ?_⟩
  refine Mod.drop (b := w1.heap.size) (S := []) ?_ (by omega)
  refine Mod.drop (b := w2.heap.size) (S := [w1.heap.size]) ?_ (by omega)
  exact (m05.mono (by simp)).trans (hput.mono (by simp))
theorem got_call (hm : P.follows .mixedOrders = true) (h : liftF P (F lGot) = some (ir_lGot F)) : ∀ t : TR, t.small → GotAt P (F lGot) t := by
  intro t
  refine TR.rec (motive_1 := fun t => t.small → GotAt P (F lGot) t) (motive_2 := fun l => ∀ t ∈ l, t.small → GotAt P (F lGot) t) ?_ ?_ ?_ t
  · intro n s null l u ih hs
    simp only [TR.small] at hs
    exact got_one hm h (fun t ht => ih t ht (TR.smallL_mem hs.2.2.2.2 t ht)) hs.2.1 hs.2.2.1
  · intro t ht; simp at ht
  · intro a l ih1 ih2 t ht
    rcases List.mem_cons.1 ht with rfl | ht
    · exact ih1
    · exact ih2 t ht
end
end Go.Msk

namespace Go.Msk
open Go.RowKit
set_option maxRecDepth 100000
theorem TR.smallL_of {l : List TR} (h : ∀ t ∈ l, t.small) : TR.smallL l := by
  induction l with
  | nil => trivial
  | cons t l ih => exact ⟨h t List.mem_cons_self, ih fun x hx => h x (List.mem_cons_of_mem _ hx)⟩
def GV.sm (g : GV) : Prop := g.told.small ∧ ∀ m, g = .tag m → m.length ≤ 2147483647 ∧ ∀ p ∈ m, p.2.length ≤ 2147483647
def Df.smallB : Df → Bool
  | .str l => decide (l.length ≤ 1000)
  | _ => true
theorem Df.small {d : Df} (h : d.smallB = true) : d.gv.sm := by
  refine ⟨?_, fun m e => by cases d <;> simp [Df.gv] at e⟩
  cases d with
  | str l =>
    simp only [Df.smallB, decide_eq_true_eq] at h
    simp only [Df.gv, Msk.str, GV.told, TR.small, TR.smallL]
    simp; omega
  | _ => simp [Df.gv, GV.told, TR.small, TR.smallL]
def Sc.len : Sc → Nat
  | .nil => 0
  | .prm _ _ _ _ _ rest => rest.len + 1
  | .enm _ _ _ _ _ rest => rest.len + 1
  | .lsp _ _ _ _ _ _ _ rest => rest.len + 1
  | .lss _ _ _ _ _ _ rest => rest.len + 1
  | .sub _ _ _ rest => rest.len + 1
  | .tags _ => 1
  | .uid _ _ rest => rest.len + 1
def Sc.smallB : Sc → Bool
  | .nil => true
  | .prm _ _ _ _ d rest => d.smallB && rest.smallB
  | .enm _ _ _ _ d rest => d.smallB && rest.smallB
  | .lsp _ _ _ _ _ _ _ rest => rest.smallB
  | .lss _ _ _ _ _ body rest => decide (body.len ≤ 1000) && body.smallB && rest.smallB
  | .sub _ _ body rest => decide (body.len ≤ 1000) && body.smallB && rest.smallB
  | .tags _ => true
  | .uid _ _ rest => rest.smallB
theorem Sc.dgv_len : ∀ sc : Sc, sc.dgv.length = sc.len := by
  intro sc
  induction sc with
  | nil => rfl
  | _ => simp [Sc.dgv, Sc.len, *]
theorem arr_sm {l : List UInt8} (h : l.length ≤ 2147483647) : (GV.arr l).sm := by
  refine ⟨?_, fun m e => by simp at e⟩
  simp only [GV.told, TR.small, TR.smallL]
  simpa using h
theorem toldF_len (gs : List GV) : (GV.toldF gs).length ≤ gs.length := by
  induction gs with
  | nil => simp [GV.toldF]
  | cons g gs ih => cases g <;> simp only [GV.toldF, List.length_cons] <;> omega
theorem toldF_small {gs : List GV} (h : ∀ g ∈ gs, g.sm) : TR.smallL (GV.toldF gs) := by
  induction gs with
  | nil => simp [GV.toldF, TR.smallL]
  | cons g gs ih =>
    have h1 := (h g List.mem_cons_self).1
    have h2 := ih fun x hx => h x (List.mem_cons_of_mem _ hx)
    cases g with
    | tag m => simpa only [GV.toldF] using h2
    | _ => simp only [GV.toldF]; exact ⟨h1, h2⟩
theorem tagsF_small {gs : List GV} (h : ∀ g ∈ gs, g.sm) : (GV.tagsF gs).length ≤ 2147483647 ∧ ∀ p ∈ GV.tagsF gs, p.2.length ≤ 2147483647 := by
  induction gs with
  | nil => simp [GV.tagsF]
  | cons g gs ih =>
    have h2 := ih fun x hx => h x (List.mem_cons_of_mem _ hx)
    cases g with
    | tag m =>
      obtain ⟨k1, k2⟩ := (h _ List.mem_cons_self).2 m rfl
      have hp := sortT_perm m
      exact ⟨by rw [GV.tagsF, hp.length_eq]; exact k1, fun p hx => k2 p (hp.mem_iff.1 hx)⟩
    | _ => exact h2
theorem rcd_small {gs : List GV} (h1 : gs.length ≤ 1000) (h2 : ∀ g ∈ gs, g.sm) : (GV.rcd gs).sm := by
  refine ⟨?_, fun m e => by simp at e⟩
  simp only [GV.told, TR.small]
  have := toldF_len gs
  have k := tagsF_small h2
  exact ⟨by simp, by omega, k.1, k.2, toldF_small h2⟩
theorem Sc.dgv_small : ∀ sc : Sc, sc.smallB = true → ∀ g ∈ sc.dgv, g.sm := by
  intro sc
  have l0 : (GV.lst true 0 []).sm := ⟨by simp [GV.told, GV.toldL, TR.small, TR.smallL], fun m e => by simp at e⟩
  induction sc with
  | nil => intro _ g hg; simp [Sc.dgv] at hg
  | prm vc i r p d rest ih =>
    intro h g hg
    simp only [Sc.smallB, Bool.and_eq_true] at h
    rcases List.mem_cons.1 hg with rfl | hg
    · exact Df.small h.1
    · exact ih h.2 g hg
  | enm vc i r p d rest ih =>
    intro h g hg
    simp only [Sc.smallB, Bool.and_eq_true] at h
    rcases List.mem_cons.1 hg with rfl | hg
    · exact Df.small h.1
    · exact ih h.2 g hg
  | lsp vc l b d i r p rest ih =>
    intro h g hg
    rcases List.mem_cons.1 hg with rfl | hg
    · exact l0
    · exact ih h g hg
  | lss vc l b z d body rest ihb ih =>
    intro h g hg
    simp only [Sc.smallB, Bool.and_eq_true] at h
    rcases List.mem_cons.1 hg with rfl | hg
    · exact l0
    · exact ih h.2 g hg
  | sub vc d body rest ihb ih =>
    intro h g hg
    simp only [Sc.smallB, Bool.and_eq_true, decide_eq_true_eq] at h
    rcases List.mem_cons.1 hg with rfl | hg
    · exact rcd_small (by rw [Sc.dgv_len]; exact h.1.1) (ihb h.1.2)
    · exact ih h.2 g hg
  | uid vc f rest ih =>
    intro h g hg
    rcases List.mem_cons.1 hg with rfl | hg
    · exact arr_sm (by simp)
    · exact ih h g hg
  | tags f =>
    intro h g hg
    simp only [Sc.dgv, List.mem_singleton] at hg
    subst hg
    exact ⟨by simp [GV.told, TR.small, TR.smallL, TR.zero], fun m e => by simp only [GV.tag.injEq] at e; subst e; simp⟩
theorem lst_small {b : Bool} {z : Nat} {l : List GV} (h1 : l.length ≤ 2147483647) (h2 : ∀ g ∈ l, g.sm) : (GV.lst b z l).sm := by
  refine ⟨?_, fun m e => by simp at e⟩
  simp only [GV.told, TR.small]
  refine ⟨by simp, by rw [GV.toldL_map]; simp; omega, by simp, by simp, TR.smallL_of fun t ht => ?_⟩
  rw [GV.toldL_map] at ht
  obtain ⟨g, hg, rfl⟩ := List.mem_map.1 ht
  exact (h2 g hg).1
theorem num_sm {v : Value} (h : ∀ s, v ≠ .string s) : (GV.num v).sm := by
  refine ⟨?_, fun m e => by simp at e⟩
  cases v <;> first | exact absurd rfl (h _) | simp [GV.told, TR.small, TR.smallL, TR.zero]
theorem str_sm {l : List UInt8} (h : l.length ≤ 2147483647) : (GV.num (Msk.str l)).sm := by
  refine ⟨?_, fun m e => by simp at e⟩
  simp only [Msk.str, GV.told, TR.small, TR.smallL]
  simpa using h
theorem i64_wrap_wrap (n : Int) : IntKind.i64.wrap (IntKind.i64.wrap n) = IntKind.i64.wrap n := by
  simp only [IntKind.wrap, IntKind.bits, IntKind.signed]
  simp
  omega
end Go.Msk

namespace Go.Msk
open Go.RowKit
set_option maxRecDepth 100000
def tellCode (newp setv rf tell : FuncId) : IC × List RV × Nat :=
  (.seq (.blk [⟨some 4, .alloc tzero, none⟩, ⟨some 5, .mv (.const (.bool false)), none⟩]) (.seq (.blk [⟨some 7, .call newp [], none⟩, ⟨some 6, .mv (.tmp 7), none⟩])
    (.seq (.blk [⟨some 8, .mv (.tmp 6), none⟩, ⟨some 9, .mv (.tmp 0), none⟩, ⟨some 10, .conv .i16 (.tmp 9), none⟩, ⟨some 11, .call setv [.tmp 8, .tmp 10], none⟩])
    (.seq (.seq (.blk [⟨some 12, .mv (.tmp 6), none⟩, ⟨some 13, .mv (.tmp 1), none⟩, ⟨some 14, .append (.const (.slice none 0 0)) (.tmp 13) 1 1, none⟩, ⟨some 15, .call rf [.tmp 12, .tmp 14], none⟩, ⟨some 16, .isnil .ic true (.tmp 15), none⟩])
      (.cond (.tmp 16) (.seq (.blk [⟨some 17, .build tzero [], none⟩, ⟨none, .st (.tmp 4) 5 (.tmp 17), none⟩, ⟨some 5, .mv (.const (.bool false)), none⟩]) .ret) .skip))
    (.seq (.blk [⟨some 18, .mv (.tmp 6), none⟩, ⟨some 19, .call tell [.tmp 18], none⟩, ⟨none, .st (.tmp 4) 5 (.tmp 19), none⟩, ⟨some 5, .mv (.const (.bool true)), none⟩]) .ret)))),
   [.cells 4 5, .tmp 5], 20)
section
variable {P : Program} {D : Dec}
end
end Go.Msk

namespace Go.Msk
open Go.RowKit
set_option maxRecDepth 100000
structure LibI (P : Program) (F : Nat → Nat) (has : Nat → Bool) : Prop where
  iBoolTree : has Msk.iBoolTree = true → liftF P (F Msk.iBoolTree) = some (ir_iBoolTree F)
  iTextTree : has Msk.iTextTree = true → liftF P (F Msk.iTextTree) = some (ir_iTextTree F)
  iOctetsTree : has Msk.iOctetsTree = true → liftF P (F Msk.iOctetsTree) = some (ir_iOctetsTree F)
  tEach : has Msk.tEach = true → liftF P (F Msk.tEach) = some (ir_tEach F)
  iSorted : has Msk.iSorted = true → liftF P (F Msk.iSorted) = some (ir_iSorted F)
  sort : has Msk.tEach = true → SortC P (F sortSlice) (F tEach1) (F tyU32s)
section
variable {P : Program} {F : Nat → Nat}
theorem boolTree_ok (hm : P.follows .mixedOrders = true) (h : liftF P (F iBoolTree) = some (ir_iBoolTree F)) : (TK.boo (F iBoolTree)).Ok P := by
  intro O w g v hg hr
  obtain ⟨b, rfl⟩ := hg
  have hv : v = .bool b := by cases hr; rfl
  subst hv
  refine call_of h hm (by simp) ?_
  rw [wpC_seq, wpC_blk]
  refine wpR_run ?_
  intro T
  have hb2 : Blk (w.alloc (.cells tzero.toArray T)) w.heap.size tzero := Blk.new w tzero T
  have hm1 : Mod [] w (w.alloc (.cells tzero.toArray T)) := Mod.alloc _ _ _
  have hz : ([Value.int .i64 0, .slice none 0 0, .bool false, .slice none 0 0, .slice none 0 0] : List Value) = tzero := rfl
  rw [hz]
  have hsz : (w.alloc (.cells tzero.toArray T)).heap.size = w.heap.size + 1 := by simp
  generalize w.alloc (.cells tzero.toArray T) = w1 at hb2 hm1 hsz ⊢
  have a0 : args0 [Value.bool b] 0 = .bool b := rfl
  generalize args0 [Value.bool b] = σ0 at a0 ⊢
  show wpC P (.seq (.seq _ _) _) _ _ _
  rw [wpC_seq, wpC_seq, wpC_blk]
  refine wpR_step (v := .bool b) (by simp [RK.val?, ev, updo, upd, a0]) ?_
  refine wpR_done ?_
  cases b with
  | true =>
    rw [wpC_cond_t rfl, wpC_seq, wpC_blk]
    refine wpR_step (v := .agg [.int .i64 1, .slice none 0 0, .bool false, .slice none 0 0, .slice none 0 0].toArray) (by simp [RK.val?, ev, fillL, tzero, splice, Value.cells]) ?_
    exact treeRet (by simp [updo, upd]) hb2 (by simp [updo, upd]) (RepT.num 1 false) hm1.nil (Nat.le_refl _)
  | false =>
    rw [wpC_cond_f rfl, wpC_skip]
    simp only [thenC]
    rw [wpC_seq, wpC_blk]
    refine wpR_step (v := .agg [.int .i64 0, .slice none 0 0, .bool false, .slice none 0 0, .slice none 0 0].toArray) (by simp [RK.val?, ev, fillL, tzero]) ?_
    exact treeRet (by simp [updo, upd]) hb2 (by simp [updo, upd]) (RepT.num 0 false) hm1.nil (Nat.le_refl _)
def TK.okB (F : Nat → Nat) (has : Nat → Bool) : TK → Bool
  | .num _ => true
  | .str => true
  | .boo f => f == F iBoolTree && has iBoolTree
  | .txt f => f == F iTextTree && has iTextTree
  | .oct f => f == F iOctetsTree && has iOctetsTree
theorem TK.ok_of {has : Nat → Bool} (hm : P.follows .mixedOrders = true) (L : LibI P F has) {k : TK} (h : k.okB F has = true) : k.Ok P := by
  cases k with
  | num c => trivial
  | str => trivial
  | boo f => simp only [TK.okB, Bool.and_eq_true, beq_iff_eq] at h; rw [h.1]; exact boolTree_ok hm (L.iBoolTree h.2)
  | txt f => simp only [TK.okB, Bool.and_eq_true, beq_iff_eq] at h; rw [h.1]; exact textTree_ok hm (L.iTextTree h.2)
  | oct f => simp only [TK.okB, Bool.and_eq_true, beq_iff_eq] at h; rw [h.1]; exact octetsTree_ok hm (L.iOctetsTree h.2)
def Tl.cells : Tl → Nat
  | .nil => 0
  | .fld _ rest => 1 + rest.cells
  | .lst _ _ _ rest => 1 + rest.cells
  | .uid rest => 16 + rest.cells
  | .sub _ n _ rest => n + rest.cells
  | .tags .. => 1
def Tl.okB (F : Nat → Nat) (has : Nat → Bool) : Tl → Bool
  | .nil => true
  | .fld k rest => k.okB F has && rest.okB F has
  | .lst k _ body rest => (match k with | .tell _ => decide (0 < body.cells) && decide (body.len ≤ 1000) | _ => true) && body.okB F has && rest.okB F has
  | .uid rest => rest.okB F has
  | .sub _ n body rest => decide (0 < body.cells) && decide (body.len ≤ 1000) && decide (body.cells = n) && body.okB F has && rest.okB F has
  | .tags _ b c => b == F tEach && c == F iSorted && has tEach && has iSorted
def Tl.subs : Tl → List (FuncId × Tl)
  | .nil => []
  | .fld _ rest => rest.subs
  | .lst k _ body rest => (match k with | .tell f => [(f, body)] | _ => []) ++ (body.subs ++ rest.subs)
  | .uid rest => rest.subs
  | .sub f _ body rest => (f, body) :: (body.subs ++ rest.subs)
  | .tags .. => []
def Tl.cbs : Tl → List FuncId
  | .nil => []
  | .fld _ rest => rest.cbs
  | .lst _ _ body rest => body.cbs ++ rest.cbs
  | .uid rest => rest.cbs
  | .sub _ _ body rest => body.cbs ++ rest.cbs
  | .tags a _ _ => [a]
def SubsOk (P : Program) : List (FuncId × Tl) → Prop
  | [] => True
  | p :: l => liftF P p.1 = some (p.2.code 0) ∧ SubsOk P l
def CbsOk (P : Program) : List FuncId → Prop
  | [] => True
  | a :: l => (liftF P a = some cbCode ∧ hasBody P a = true) ∧ CbsOk P l
theorem SubsOk.append {l l' : List (FuncId × Tl)} (h : SubsOk P (l ++ l')) : SubsOk P l ∧ SubsOk P l' := by
  induction l with
  | nil => exact ⟨trivial, h⟩
  | cons p l ih => exact ⟨⟨h.1, (ih h.2).1⟩, (ih h.2).2⟩
theorem CbsOk.append {l l' : List FuncId} (h : CbsOk P (l ++ l')) : CbsOk P l ∧ CbsOk P l' := by
  induction l with
  | nil => exact ⟨trivial, h⟩
  | cons p l ih => exact ⟨⟨h.1, (ih h.2).1⟩, (ih h.2).2⟩
theorem Tl.cells_len {has : Nat → Bool} : ∀ (tl : Tl) (O : List Nat) (w : World) (gs : List GV) (css : List (List Value)), tl.okB F has = true → tl.ty gs → RepL O w gs css → css.flatten.length = tl.cells := by
  intro tl
  induction tl with
  | nil => intro O w gs css _ hT hr; simp only [Tl.ty] at hT; subst hT; cases hr; rfl
  | fld k rest ih =>
    intro O w gs css h hT hr
    simp only [Tl.okB, Bool.and_eq_true] at h
    obtain ⟨g, l, rfl, hg, hT⟩ := hT
    cases hr with
    | cons h1 h2 => simp only [List.flatten_cons, List.length_append, Tl.cells, TK.one hg h1, ih _ _ _ _ h.2 hT h2]
  | lst k esz body rest _ ih =>
    intro O w gs css h hT hr
    simp only [Tl.okB, Bool.and_eq_true] at h
    obtain ⟨isnil, sz, x, l, rfl, -, -, -, hT⟩ := hT
    cases hr with
    | @cons _ _ cs css h1 h2 =>
      have : cs.length = 1 := by cases h1 <;> rfl
      simp only [List.flatten_cons, List.length_append, Tl.cells, this, ih _ _ _ _ h.2 hT h2]
  | uid rest ih =>
    intro O w gs css h hT hr
    obtain ⟨x, l, rfl, hx, hT⟩ := hT
    cases hr with
    | @cons _ _ cs css h1 h2 =>
      have : cs.length = 16 := by cases h1; rw [u8s_length, hx]
      simp only [List.flatten_cons, List.length_append, Tl.cells, this, ih _ _ _ _ h hT h2]
  | sub f n body rest ihb ih =>
    intro O w gs css h hT hr
    simp only [Tl.okB, Bool.and_eq_true, decide_eq_true_eq] at h
    obtain ⟨x, l, rfl, hx, hT, -⟩ := hT
    cases hr with
    | @cons _ _ cs css h1 h2 =>
      have : cs.length = n := by cases h1 with | rcd h1 => rw [← h.1.1.2]; exact ihb _ _ _ _ h.1.2 hx h1
      simp only [List.flatten_cons, List.length_append, Tl.cells, this, ih _ _ _ _ h.2 hT h2]
  | tags a b c =>
    intro O w gs css h hT hr
    obtain ⟨m, rfl, -⟩ := hT
    cases hr with
    | @cons _ _ cs css h1 h2 =>
      cases h2
      have : cs.length = 1 := by cases h1 <;> rfl
      simp [this, Tl.cells]
theorem Tl.tellS {has : Nat → Bool} (hm : P.follows .mixedOrders = true) {tl : Tl} {f : FuncId} (hb : tl.okB F has = true) (hO : tl.Ok P) (hpos : 0 < tl.cells) (hlen : tl.len ≤ 1000) (h : liftF P f = some (tl.code 0)) : TellS P f tl.ty := by
  intro O w B base gs css hT hr hc
  have hl := Tl.cells_len tl O w gs css hb hT hr
  have hcell : ∃ v, css.flatten[0]? = some v := ⟨css.flatten[0], List.getElem?_eq_getElem (by omega)⟩
  obtain ⟨v, hv⟩ := hcell
  have := hc.2 0 v hv
  have hlt := World.block_lt_of_cell? w _ this
  exact Tl.call hm h hO hlen O w B base gs css hT hr hlt hc
theorem Tl.ok_of {has : Nat → Bool} (hm : P.follows .mixedOrders = true) (L : LibI P F has) : ∀ tl : Tl, tl.okB F has = true → SubsOk P tl.subs → CbsOk P tl.cbs → tl.Ok P := by
  intro tl
  induction tl with
  | nil => intro _ _ _; trivial
  | fld k rest ih =>
    intro h hs hc
    simp only [Tl.okB, Bool.and_eq_true] at h
    exact ⟨TK.ok_of hm L h.1, ih h.2 hs hc⟩
  | lst k esz body rest ihb ih =>
    intro h hs hc
    simp only [Tl.okB, Bool.and_eq_true] at h
    obtain ⟨s1, s2⟩ := SubsOk.append hs
    obtain ⟨s3, s4⟩ := SubsOk.append s2
    obtain ⟨c1, c2⟩ := CbsOk.append hc
    refine ⟨?_, ih h.2 s4 c2⟩
    cases k with
    | num c => trivial
    | str => trivial
    | tell f =>
      simp only [Bool.and_eq_true, decide_eq_true_eq] at h
      exact Tl.tellS hm h.1.2 (ihb h.1.2 s3 c1) h.1.1.1 h.1.1.2 s1.1
  | uid rest ih => intro h hs hc; exact ih h hs hc
  | sub f n body rest ihb ih =>
    intro h hs hc
    simp only [Tl.okB, Bool.and_eq_true, decide_eq_true_eq] at h
    obtain ⟨s3, s4⟩ := SubsOk.append hs.2
    obtain ⟨c1, c2⟩ := CbsOk.append hc
    exact ⟨Tl.tellS hm h.1.2 (ihb h.1.2 s3 c1) h.1.1.1.1 h.1.1.1.2 hs.1, ih h.2 s4 c2, fun O w gs css hT hr => by rw [← h.1.1.2]; exact Tl.cells_len body O w gs css h.1.2 hT hr⟩
  | tags a b c =>
    intro h _ hc
    simp only [Tl.okB, Bool.and_eq_true, beq_iff_eq] at h
    obtain ⟨⟨⟨rfl, rfl⟩, h3⟩, h4⟩ := h
    exact ⟨hm, hc.1.1, hc.1.2, fun hcb hb _ _ _ hce hM h1 h2 h5 h6 h7 h8 h9 => tEach_call hm (L.tEach h3) (L.sort h3) hcb hb hce hM h1 h2 h5 h6 h7 h8 h9, fun hp hs hl => iSorted_call hm (L.iSorted h4) hp hs hl⟩
end
end Go.Msk

namespace Go.Msk
open Go.RowKit
set_option maxRecDepth 100000
section
variable {P : Program}
attribute [local simp] gOk updo upd ev RK.val? isShift intBin Addr.add_mk args0 Value.cells undef
theorem retT {σ : Sl} {w : World} {b : Nat} {cs : List Value} {r : Bool} {R : Ending → World → Prop} (h4 : σ 4 = .pointer (some ⟨b, 0, none⟩)) (h5 : σ 5 = .bool r) (hb : Blk w b cs) (hl : cs.length = 5) (h : R (.returned (.tuple #[.agg cs.toArray, .bool r])) w) :
    wpC P .ret (postC [.cells 4 5, .tmp 5] R) σ w := by
  simp only [wpC, postC, rvals, List.mapM_cons, List.mapM_nil, RV.val, h4, h5, cellsAt_of' hb.cells hl, Option.bind_eq_bind, Option.map_some, Option.bind_some, Option.pure_def, tup]
  exact h
def DoorR (w : World) (t : TR) : Ending → World → Prop := fun e w' => ∃ cs, e = .returned (.tuple #[.agg cs.toArray, .bool true]) ∧ RepT (fun b => w.heap.size ≤ b) w' t cs ∧ Mod [] w w'
def DoorOf (P : Program) (door : FuncId) (m : MD) (most : Int) (g : Nat) (Te : TypeId) (ve : Value) (R : Int → TR → TR) : Prop :=
  ∀ (w : World) (ver : Int) (t : TR) (sv : Value), t.kok → (writeP m ver t).length + 1000 ≤ lim → 0 ≤ ver → ver ≤ most → SlC anyB w sv (writeP m ver t).length (u8s (writeP m ver t)) → GErr g w Te ve →
    Calls P door [.int .i64 ver, sv].toArray w (DoorR w (R ver t))
end
end Go.Msk

namespace Go.Msk
open Go.RowKit
set_option maxRecDepth 100000
section
variable {P : Program}
attribute [local simp] gOk updo upd ev RK.val? isShift intBin Addr.add_mk args0 Value.cells undef
theorem tellW_call {T : Top} {D : Dec} {g : Nat} (hm : P.follows .mixedOrders = true) {f newp setv rf rd tell : FuncId} {z : List Value} {tl : Tl} (h : liftF P f = some (tellCode newp setv rf tell)) (hn : liftF P newp = some (newCode z T.dfl))
    (hz : DfC P T.dfl z (.int .i16 0 :: T.sc.dcs.flatten)) (hs : liftF P setv = some setCode) (hr : liftF P rf = some (rfCode rd false)) (hrd : liftF P rd = some T.gen) (hT : T.Ok P D g false) (htl : TellAt P tell 1 tl.ty)
    {w : World} {ver : Int} {sv : Value} {src : List UInt8} {ok : Nat → Prop} {Te : TypeId} {ve : Value} {gs : List GV} {s' : RS} (hdec : T.dec D ver (⟨src, false, false⟩) = some ((ver, gs), s')) (hbad : s'.bad = false)
    (hty : tl.ty gs)
    (hsv : SlC ok w sv src.length (u8s src)) (hpos : 0 < src.length) (hl : src.length ≤ lim) (hver : IntKind.i16.wrap ver = ver) (hg : GErr g w Te ve) :
    Calls P f [.int .i64 ver, sv].toArray w (DoorR w (GV.rcd gs).told) := by
  unfold tellCode at h
  refine call_of h hm (by simp) ?_
  clear h
  have hgl : g < w.heap.size := World.block_lt_of_cell? w ⟨g, 0, none⟩ hg
  rw [wpC_seq, wpC_blk]
  refine goAlloc fun w1 hb1 hm1 => ?_
  refine go1 (v := .bool false) rfl (by simp) (goEnd ?_)
  simp only [thenC]
  rw [wpC_seq, wpC_blk]
  refine goCall rfl (vs := []) rfl (new_call hm hn hz) ?_
  rintro e w2 ⟨rfl, hb2, hm2⟩
  have hs1 := hb1.lt
  have hne : w.heap.size ≠ w1.heap.size := by omega
  have hm02 : Mod [] w w2 := hm1.trans hm2
  refine ⟨_, rfl, go1 (v := .pointer (some ⟨w1.heap.size, 0, none⟩)) rfl (by simp) (goEnd ?_)⟩
  simp only [thenC]
  rw [wpC_seq, wpC_blk]
  refine go1 (v := .pointer (some ⟨w1.heap.size, 0, none⟩)) rfl (by simp) ?_
  refine go1 (v := .int .i64 ver) rfl (by simp) ?_
  refine go1 (v := .int .i16 ver) rfl (by simp [hver]) ?_
  refine goCall rfl (vs := [.pointer (some ⟨w1.heap.size, 0, none⟩), .int .i16 ver]) (by simp) (set_call hm hs hb2) ?_
  rintro e w3 ⟨rfl, hb3, hm3⟩
  refine ⟨_, rfl, goEnd ?_⟩
  simp only [thenC]
  have hm13 : Mod [] w1 w3 := Mod.drop (b := w1.heap.size) (S := []) (hm2.nil.trans hm3) (Nat.le_refl _)
  have hm03 : Mod [] w w3 := hm1.trans hm13
  rw [wpC_seq, wpC_seq, wpC_blk]
  refine go1 (v := .pointer (some ⟨w1.heap.size, 0, none⟩)) rfl (by simp) ?_
  refine go1 (v := sv) rfl (by simp) ?_
  refine goCopy (v := sv) (l := src) (ok := ok) (by simp) (hsv.mod hm03 (by simp) fun _ _ h => h) hl fun v4 w4 hd4 hm4 => ?_
  obtain ⟨Bs, cap, rest, rfl, hcap, hlow, hblk, hrest⟩ : ∃ B cap rest, v4 = .slice (some ⟨B, 0, none⟩) src.length cap ∧ src.length ≤ cap ∧ w3.heap.size ≤ B ∧ Blk w4 B (u8s src ++ rest) ∧ rest.length = cap - src.length := by
    rcases hd4.sl with ⟨-, h⟩ | h
    · rw [h] at hpos; simp at hpos
    · exact h
  have hby : IsBytes w4 (some ⟨Bs, 0, none⟩) src.length cap src := by
    refine ⟨rfl, hcap, by simp, fun a ha => ?_⟩
    simp only [Option.some.injEq] at ha; subst ha
    have := hblk.cells.take (u8s src).length
    rwa [List.take_left] at this
  have hbl := hb3.lt
  have hm04 : Mod [] w w4 := hm03.trans hm4
  refine goCall rfl (vs := [.pointer (some ⟨w1.heap.size, 0, none⟩), .slice (some ⟨Bs, 0, none⟩) src.length cap]) (by simp) (rf_call hm hr (R := fun e w' => ∃ css, e = .returned .nilIface ∧ RepL [w1.heap.size] w' gs css ∧ css.flatten.length = T.sc.dcs.flatten.length ∧ Blk w' w1.heap.size (.int .i16 ver :: css.flatten) ∧ Mod [w1.heap.size] w4 w') (fun e w' ⟨_, he, _⟩ => ⟨_, he⟩) ?_) ?_
  · refine (Top.read_call hm hrd hT (hb3.mod hm4 (by simp)) hby (fun a ha => ?_) (by unfold lim at hl; omega) (cell_mod hg hm04 (by simp)) (by omega)).mono ?_
    · simp only [Option.some.injEq] at ha; subst ha
      exact ⟨by show Bs ≠ _; omega, hblk.lt⟩
    · rintro e w' ⟨q1, q2⟩
      simp only [Option.isNone_some, hdec] at q2
      obtain ⟨rfl, css, q3, q4, q5⟩ := q2
      exact ⟨css, by rw [hbad]; rfl, q3, q4, q5, q1⟩
  rintro e w5 ⟨css, rfl, hrep, hcl, hb5, hm5⟩
  refine ⟨_, rfl, ?_⟩
  refine go1 (v := .bool false) rfl (by simp) (goEnd ?_)
  simp only [thenC]
  rw [wpC_cond_f (by simp), wpC_skip]
  simp only [thenC]
  rw [wpC_seq, wpC_blk]
  refine go1 (v := .pointer (some ⟨w1.heap.size, 0, none⟩)) rfl (by simp) ?_
  have hcells : Cells w5 ⟨w1.heap.size, 0 + 1, none⟩ css.flatten := by
    have := hb5.cells.sub 1
    simpa using this
  refine goCall rfl (vs := [.pointer (some ⟨w1.heap.size, 0, none⟩)]) (by simp) (htl [w1.heap.size] w5 w1.heap.size 0 gs css hty hrep hb5.lt hcells) ?_
  rintro e w7 ⟨cs, rfl, hrt, hm7⟩
  refine ⟨_, rfl, ?_⟩
  have hm15 : Mod [] w1 w5 := Mod.drop (b := w1.heap.size) (S := []) ((hm13.trans hm4).nil.trans hm5) (Nat.le_refl _)
  have hm17 : Mod [] w1 w7 := hm15.trans hm7
  have hb17 : Blk w7 w.heap.size tzero := hb1.mod hm17 (by simp)
  refine goSt (b := w.heap.size) (v := .agg cs.toArray) (by simp) (by simp) hb17 (by simpa using hrt.five) rfl (by simpa using hrt.oneCell) fun w8 hb8 hm8 => ?_
  refine go1 (v := .bool true) rfl (by simp) (goEnd ?_)
  simp only [thenC]
  have hb8 : Blk w8 w.heap.size cs := by simpa using hb8
  have hs16 := hm15.size
  refine retT (b := w.heap.size) (cs := cs) (by simp) (by simp) hb8 hrt.five ⟨cs, rfl, ?_, ?_⟩
  · exact hrt.mod hm8 (by simp only [List.mem_singleton]; rintro b rfl; omega) fun b _ hb => by omega
  · exact Mod.drop (b := w.heap.size) (S := []) (hm1.nil.trans (hm17.nil.trans hm8)) (Nat.le_refl _)
end
end Go.Msk

namespace Go.Msk
open Go.RowKit
set_option maxRecDepth 100000
def numCode : IC × List RV × Nat :=
  (.seq (.blk [⟨some 4, .mv (.const (.int .i64 0)), none⟩])
  (.seq (.seq (.blk [⟨some 5, .mv (.tmp 0), none⟩])
    (.block 0 (.seq (.blk [⟨some 7, .bin .eql (.tmp 5) (.const (.int .i64 0)), none⟩, ⟨some 6, .mv (.tmp 7), none⟩])
      (.cond (.tmp 6) (.seq (.blk [⟨some 8, .mv (.tmp 1), none⟩, ⟨some 9, .bin .and (.tmp 8) (.const (.int .i64 1)), none⟩, ⟨some 4, .mv (.tmp 9), none⟩]) .ret)
        (.seq (.blk [⟨some 11, .bin .eql (.tmp 5) (.const (.int .i64 1)), none⟩, ⟨some 10, .mv (.tmp 11), none⟩])
        (.cond (.tmp 10) (.seq (.blk [⟨some 12, .mv (.tmp 1), none⟩, ⟨some 13, .conv .i8 (.tmp 12), none⟩, ⟨some 14, .conv .i64 (.tmp 13), none⟩, ⟨some 4, .mv (.tmp 14), none⟩]) .ret)
          (.seq (.blk [⟨some 16, .bin .eql (.tmp 5) (.const (.int .i64 2)), none⟩, ⟨some 15, .mv (.tmp 16), none⟩])
          (.cond (.tmp 15) (.seq (.blk [⟨some 17, .mv (.tmp 1), none⟩, ⟨some 18, .conv .i16 (.tmp 17), none⟩, ⟨some 19, .conv .i64 (.tmp 18), none⟩, ⟨some 4, .mv (.tmp 19), none⟩]) .ret)
            (.seq (.blk [⟨some 21, .bin .eql (.tmp 5) (.const (.int .i64 3)), none⟩, ⟨some 20, .mv (.tmp 21), none⟩])
            (.cond (.tmp 20) (.seq (.blk [⟨some 22, .mv (.tmp 1), none⟩, ⟨some 23, .conv .i32 (.tmp 22), none⟩, ⟨some 24, .conv .i64 (.tmp 23), none⟩, ⟨some 4, .mv (.tmp 24), none⟩]) .ret)
              (.seq (.blk [⟨some 26, .bin .eql (.tmp 5) (.const (.int .i64 5)), none⟩, ⟨some 25, .mv (.tmp 26), none⟩])
              (.cond (.tmp 25) (.seq (.blk [⟨some 27, .mv (.tmp 1), none⟩, ⟨some 28, .conv .u16 (.tmp 27), none⟩, ⟨some 29, .conv .i64 (.tmp 28), none⟩, ⟨some 4, .mv (.tmp 29), none⟩]) .ret)
                .skip))))))))))))
  (.seq (.blk [⟨some 30, .mv (.tmp 1), none⟩, ⟨some 4, .mv (.tmp 30), none⟩]) .ret)), [.tmp 4], 31)
def numberP (k n : Int) : Int :=
  if k = 0 then n % 2 else if k = 1 then IntKind.i8.wrap n else if k = 2 then IntKind.i16.wrap n else if k = 3 then IntKind.i32.wrap n else if k = 5 then n % 65536 else n
section
variable {P : Program} {F : Nat → Nat}
attribute [local simp] gOk updo upd ev RK.val? isShift intBin Addr.add_mk args0 Value.cells undef
theorem wrap64_i8 (n : Int) : IntKind.i64.wrap (IntKind.i8.wrap n) = IntKind.i8.wrap n := by
  simp only [IntKind.wrap, IntKind.bits, IntKind.signed]; simp; repeat' split
  all_goals omega
theorem wrap64_i16 (n : Int) : IntKind.i64.wrap (IntKind.i16.wrap n) = IntKind.i16.wrap n := by
  simp only [IntKind.wrap, IntKind.bits, IntKind.signed]; simp; repeat' split
  all_goals omega
theorem wrap64_i32 (n : Int) : IntKind.i64.wrap (IntKind.i32.wrap n) = IntKind.i32.wrap n := by
  simp only [IntKind.wrap, IntKind.bits, IntKind.signed]; simp; repeat' split
  all_goals omega
theorem wrap64_u16 (n : Int) : IntKind.i64.wrap (IntKind.u16.wrap n) = n % 65536 := by
  simp only [IntKind.wrap, IntKind.bits, IntKind.signed]; simp; repeat' split
  all_goals omega
theorem number_call (hm : P.follows .mixedOrders = true) {f : FuncId} (h : liftF P f = some numCode) {w : World} {k n : Int} : Calls P f [.int .i64 k, .int .i64 n].toArray w fun e w' => e = .returned (.int .i64 (numberP k n)) ∧ w' = w := by
  unfold numCode at h
  refine call_of h hm (by simp) ?_
  clear h
  rw [wpC_seq, wpC_blk]
  refine go1 (v := .int .i64 0) rfl (by simp) (goEnd ?_)
  simp only [thenC]
  rw [wpC_seq, wpC_seq, wpC_blk]
  refine go1 (v := .int .i64 k) rfl (by simp) (goEnd ?_)
  simp only [thenC]
  rw [wpC_block, wpC_seq, wpC_blk]
  refine go1 (v := .bool (k == 0)) rfl (by simp) ?_
  refine go1 (v := .bool (k == 0)) rfl (by simp) (goEnd ?_)
  simp only [thenC]
  by_cases h0 : k = 0
  · rw [wpC_cond_t (by simp [h0]), wpC_seq, wpC_blk]
    refine go1 (v := .int .i64 n) rfl (by simp) ?_
    refine go1 (v := .int .i64 (n % 2)) rfl (by simp only [RK.val?, ev, updo, upd, if_true, isShift, decide_true, Bool.or_true, and1_i64]) ?_
    refine go1 (v := .int .i64 (n % 2)) rfl (by simp) (goEnd ?_)
    simp only [thenC]
    repeat first | refine retThen ?_ | refine retBlk ?_
    exact ret1 (v := .int .i64 (n % 2)) (by simp) ⟨by simp [numberP, h0], rfl⟩
  rw [wpC_cond_f (by simp [h0]), wpC_seq, wpC_blk]
  refine go1 (v := .bool (k == 1)) rfl (by simp) ?_
  refine go1 (v := .bool (k == 1)) rfl (by simp) (goEnd ?_)
  simp only [thenC]
  by_cases h1 : k = 1
  · rw [wpC_cond_t (by simp [h1]), wpC_seq, wpC_blk]
    refine go1 (v := .int .i64 n) rfl (by simp) ?_
    refine go1 (v := .int .i8 (IntKind.i8.wrap n)) rfl (by simp) ?_
    refine go1 (v := .int .i64 (IntKind.i8.wrap n)) rfl (by simp [wrap64_i8]) ?_
    refine go1 (v := .int .i64 (IntKind.i8.wrap n)) rfl (by simp) (goEnd ?_)
    simp only [thenC]
    repeat first | refine retThen ?_ | refine retBlk ?_
    exact ret1 (v := .int .i64 (IntKind.i8.wrap n)) (by simp) ⟨by simp [numberP, h1], rfl⟩
  rw [wpC_cond_f (by simp [h1]), wpC_seq, wpC_blk]
  refine go1 (v := .bool (k == 2)) rfl (by simp) ?_
  refine go1 (v := .bool (k == 2)) rfl (by simp) (goEnd ?_)
  simp only [thenC]
  by_cases h2 : k = 2
  · rw [wpC_cond_t (by simp [h2]), wpC_seq, wpC_blk]
    refine go1 (v := .int .i64 n) rfl (by simp) ?_
    refine go1 (v := .int .i16 (IntKind.i16.wrap n)) rfl (by simp) ?_
    refine go1 (v := .int .i64 (IntKind.i16.wrap n)) rfl (by simp [wrap64_i16]) ?_
    refine go1 (v := .int .i64 (IntKind.i16.wrap n)) rfl (by simp) (goEnd ?_)
    simp only [thenC]
    repeat first | refine retThen ?_ | refine retBlk ?_
    exact ret1 (v := .int .i64 (IntKind.i16.wrap n)) (by simp) ⟨by simp [numberP, h2], rfl⟩
  rw [wpC_cond_f (by simp [h2]), wpC_seq, wpC_blk]
  refine go1 (v := .bool (k == 3)) rfl (by simp) ?_
  refine go1 (v := .bool (k == 3)) rfl (by simp) (goEnd ?_)
  simp only [thenC]
  by_cases h3 : k = 3
  · rw [wpC_cond_t (by simp [h3]), wpC_seq, wpC_blk]
    refine go1 (v := .int .i64 n) rfl (by simp) ?_
    refine go1 (v := .int .i32 (IntKind.i32.wrap n)) rfl (by simp) ?_
    refine go1 (v := .int .i64 (IntKind.i32.wrap n)) rfl (by simp [wrap64_i32]) ?_
    refine go1 (v := .int .i64 (IntKind.i32.wrap n)) rfl (by simp) (goEnd ?_)
    simp only [thenC]
    repeat first | refine retThen ?_ | refine retBlk ?_
    exact ret1 (v := .int .i64 (IntKind.i32.wrap n)) (by simp) ⟨by simp [numberP, h3], rfl⟩
  rw [wpC_cond_f (by simp [h3]), wpC_seq, wpC_blk]
  refine go1 (v := .bool (k == 5)) rfl (by simp) ?_
  refine go1 (v := .bool (k == 5)) rfl (by simp) (goEnd ?_)
  simp only [thenC]
  by_cases h5 : k = 5
  · rw [wpC_cond_t (by simp [h5]), wpC_seq, wpC_blk]
    refine go1 (v := .int .i64 n) rfl (by simp) ?_
    refine go1 (v := .int .u16 (IntKind.u16.wrap n)) rfl (by simp) ?_
    refine go1 (v := .int .i64 (n % 65536)) rfl (by simp [wrap64_u16]) ?_
    refine go1 (v := .int .i64 (n % 65536)) rfl (by simp) (goEnd ?_)
    simp only [thenC]
    repeat first | refine retThen ?_ | refine retBlk ?_
    exact ret1 (v := .int .i64 (n % 65536)) (by simp) ⟨by simp [numberP, h5], rfl⟩
  rw [wpC_cond_f (by simp [h5]), wpC_skip]
  simp only [thenC, inBlockC]
  rw [wpC_seq, wpC_blk]
  refine go1 (v := .int .i64 n) rfl (by simp) ?_
  refine go1 (v := .int .i64 n) rfl (by simp) (goEnd ?_)
  simp only [thenC]
  exact ret1 (v := .int .i64 n) (by simp) ⟨by simp [numberP, h0, h1, h2, h3, h5], rfl⟩
end
end Go.Msk
