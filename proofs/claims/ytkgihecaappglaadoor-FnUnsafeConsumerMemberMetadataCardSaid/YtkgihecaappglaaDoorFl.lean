/- A small language of resolved operations, and what the generic and the generated functions do in it (part 12). -/
import Derived.Test.YtkgihecaappglaaDoorFk

namespace Go.Msk
open Go.RowKit
set_option maxRecDepth 100000
inductive Tl where
  | nil
  | fld (k : TK) (rest : Tl)
  | lst (k : EK) (esz : Nat) (body : Tl) (rest : Tl)
  | uid (rest : Tl)
  | sub (f : FuncId) (size : Nat) (body : Tl) (rest : Tl)
  | tags (f1 each srt : FuncId)
  deriving Inhabited
def Tl.ty : Tl → List GV → Prop
  | .nil, gs => gs = []
  | .fld k rest, gs => ∃ g l, gs = g :: l ∧ k.ty g ∧ rest.ty l
  | .lst k esz body rest, gs => ∃ isnil sz x l, gs = .lst isnil sz x :: l ∧ (∀ g ∈ x, k.ty body.ty g) ∧ x.length ≤ 2147483647 ∧ (x = [] ∨ sz = esz) ∧ rest.ty l
  | .uid rest, gs => ∃ x l, gs = .arr x :: l ∧ x.length = 16 ∧ rest.ty l
  | .sub _ size body rest, gs => ∃ x l, gs = .rcd x :: l ∧ body.ty x ∧ rest.ty l ∧ size = size
  | .tags .., gs => ∃ m, gs = [.tag m] ∧ m.length ≤ 2147483647 ∧ ∀ p ∈ m, p.2.length ≤ 2147483647
def Tl.tg : Tl → Option (FuncId × FuncId × FuncId)
  | .nil => none
  | .fld _ rest => rest.tg
  | .lst _ _ _ rest => rest.tg
  | .uid rest => rest.tg
  | .sub _ _ _ rest => rest.tg
  | .tags a b c => some (a, b, c)
def Tl.size : Tl → Nat
  | .nil => 0
  | .fld _ rest => 1 + rest.size
  | .lst _ _ _ rest => 1 + rest.size
  | .uid rest => 16 + rest.size
  | .sub _ n _ rest => n + rest.size
  | .tags .. => 0
def Tl.Ok (P : Program) : Tl → Prop
  | .nil => True
  | .fld k rest => k.Ok P ∧ rest.Ok P
  | .lst k _ body rest => k.Ok P body.ty ∧ rest.Ok P
  | .uid rest => rest.Ok P
  | .sub f n body rest => TellS P f body.ty ∧ rest.Ok P ∧ ∀ O w gs css, body.ty gs → RepL O w gs css → css.flatten.length = n
  | .tags a b c => TagFs P a b c
def Tl.len : Tl → Nat
  | .nil => 0
  | .fld _ rest => 1 + rest.len
  | .lst _ _ _ rest => 1 + rest.len
  | .uid rest => 1 + rest.len
  | .sub _ _ _ rest => 1 + rest.len
  | .tags .. => 0
def Tl.nl : Tl → Nat
  | .nil => 0
  | .fld _ rest => rest.nl
  | .lst _ _ _ rest => 1 + rest.nl
  | .uid rest => rest.nl
  | .sub _ _ _ rest => rest.nl
  | .tags .. => 0
def Tl.nt : Tl → Nat
  | .nil => 0
  | .fld k rest => k.nt + rest.nt
  | .lst k _ _ rest => 54 + 2 * k.n + rest.nt
  | .uid rest => 9 + rest.nt
  | .sub _ _ _ rest => 7 + rest.nt
  | .tags .. => 0
def Tl.gen : Tl → (i t off iv nb : Nat) → List IC
  | .nil, _, _, _, _, _ => []
  | .fld k rest, i, t, off, iv, nb => k.gen i t off :: rest.gen (i + 1) (t + k.nt) (off + 1) iv nb
  | .lst k esz _ rest, i, t, off, iv, nb => nullF i t off :: loopT k i (t + 9) off iv nb esz :: rest.gen (i + 1) (t + (54 + 2 * k.n)) (off + 1) (iv + 1) (nb + 2)
  | .uid rest, i, t, off, iv, nb => uidF i t off :: rest.gen (i + 1) (t + 9) (off + 16) iv nb
  | .sub f n _ rest, i, t, off, iv, nb => subF f i t off :: rest.gen (i + 1) (t + 7) (off + n) iv nb
  | .tags .., _, _, _, _, _ => []
def Tl.t0 (tl : Tl) : Nat := 4 + tl.nl
def Tl.tail (tl : Tl) (t off : Nat) : List IC := match tl.tg with
  | none => []
  | some (a, b, c) => tagBlks a b c t off
def Tl.tn (tl : Tl) : Nat := match tl.tg with
  | none => 0
  | some _ => 8
def Tl.code (tl : Tl) (off : Nat) : IC × List RV × Nat :=
  (seqs ([.blk [⟨some 2, .alloc tzero, none⟩], .blk [⟨some tl.t0, .mkslice (.const (.int .i64 tl.len)) (.const (.int .i64 tl.len)) 88 tzero, none⟩, ⟨some (tl.t0 + 1), .build tzero [(3, 1, .tmp tl.t0)], none⟩, ⟨some 3, .alloc tzero, none⟩, ⟨none, .st (.tmp 3) 5 (.tmp (tl.t0 + 1)), none⟩]] ++
    (tl.gen 0 (tl.t0 + 2) off 4 0 ++ (tl.tail (tl.t0 + 2 + tl.nt) (off + tl.size) ++ [.blk [⟨some (tl.t0 + 2 + tl.nt + tl.tn), .ldn (.tmp 3) 5, none⟩, ⟨none, .st (.tmp 2) 5 (.tmp (tl.t0 + 2 + tl.nt + tl.tn)), none⟩], .ret]))),
   [.cells 2 5], tl.t0 + 3 + tl.nt + tl.tn)
section
variable {P : Program}
theorem Tl.sound {Tb Lb n B base : Nat} {O : List Nat} (hB : B ≠ Lb) (hLO : Lb ∈ O) : ∀ (tl : Tl) (i t off iv nb : Nat) (gs : List GV) (gcs : List (List Value)) (pre : List Value) (σ : Sl) (w : World) (Q : Exit → Sl → World → Prop), tl.Ok P → tl.ty gs →
    RepL O w gs gcs → B < w.heap.size → Cells w ⟨B, base + off, none⟩ gcs.flatten → σ 0 = .pointer (some ⟨B, base, none⟩) → σ 3 = .pointer (some ⟨Tb, 0, none⟩) → TW w Tb Lb n (pre ++ zrep tl.len tzero) → pre.length = i * 5 → i + tl.len ≤ n → 4 ≤ iv → iv + tl.nl ≤ t → 4 ≤ t →
    (∀ σ' w' tcs, Ag 4 σ σ' → Mod [Lb] w w' → RepTL (fun b => w.heap.size ≤ b) w' (GV.toldF gs) tcs → TW w' Tb Lb n (pre ++ tcs.flatten) → tcs.length = tl.len → Q .normal σ' w') → wpL P (tl.gen i t off iv nb) Q σ w := by
  intro tl
  induction tl with
  | nil =>
    intro i t off iv nb gs gcs pre σ w Q hO hT hr hBl hc h0 h3 hw hpre hi hiv hivt ht hQ
    simp only [Tl.ty] at hT
    subst hT
    exact hQ σ w [] (Ag.refl _ _) (Mod.refl _ _) (by simpa [GV.toldF] using .nil) (by simpa [Tl.len, zrep] using hw) rfl
  | fld k rest ih =>
    intro i t off iv nb gs gcs pre σ w Q hO hT hr hBl hc h0 h3 hw hpre hi hiv hivt ht hQ
    obtain ⟨g, l, rfl, hg, hT⟩ := hT
    obtain ⟨hk, hO⟩ := hO
    cases hr with
    | @cons _ _ cs css h1 h2 =>
      obtain ⟨v, rfl⟩ : ∃ v, cs = [v] := by
        cases k with
        | num c =>
          cases c with
          | true => obtain ⟨k, m, rfl⟩ := hg; cases h1; exact ⟨_, rfl⟩
          | false => obtain ⟨m, rfl, -⟩ := hg; cases h1; exact ⟨_, rfl⟩
        | str => obtain ⟨m, rfl⟩ := hg; cases h1; exact ⟨_, rfl⟩
        | boo f => obtain ⟨m, rfl⟩ := hg; cases h1; exact ⟨_, rfl⟩
        | txt f => obtain ⟨m, rfl⟩ := hg; cases h1 <;> exact ⟨_, rfl⟩
        | oct f => obtain ⟨m, rfl, -⟩ := hg; cases h1; exact ⟨_, rfl⟩
      simp only [Tl.gen, wpL, Tl.len] at hi ⊢
      have hz : zrep (1 + rest.len) tzero = tzero ++ zrep rest.len tzero := by rw [Nat.add_comm, zrep_succ]
      simp only [Tl.len, hz] at hw
      simp only [Tl.nl] at hivt
      simp only [List.flatten_cons] at hc
      refine TK.wp hk ht h0 h3 hw hpre (by omega) hg h1 (by simpa using hc.head) fun σ' w' cs' a' hm' hrep' htw' => ?_
      simp only [thenC]
      have h5 := hrep'.five
      have hsub := hc.sub 1
      refine ih (i + 1) (t + k.nt) (off + 1) iv nb l css (pre ++ cs') σ' w' Q hO hT (h2.mod hm' (by simpa using hLO)) (Nat.lt_of_lt_of_le hBl hm'.size) ?_ (by rw [a' 0 (by omega)]; exact h0) (by rw [a' 3 (by omega)]; exact h3) (by simpa only [List.append_assoc] using htw')
        (by simp only [List.length_append]; omega) (by omega) hiv (by omega) (by omega) fun σ2 w2 tcs a2 hm2 hrep2 htw2 hl2 => ?_
      · have : Cells w ⟨B, base + off + 1, none⟩ css.flatten := by simpa using hsub
        exact this.mod hm' (.inr (by simpa using hB))
      · refine hQ σ2 w2 (cs' :: tcs) (fun q hq => by rw [a2 q hq]; exact a' q (by omega)) (hm'.trans hm2) ?_ (by simpa only [List.flatten_cons, List.append_assoc] using htw2) (by simp [hl2, Tl.len]; omega)
        rw [GV.toldF_cons (by rintro m rfl; exact TK.ty_tag hg)]
        exact .cons (hrep'.mod hm2 (fun b hb hx => by simp only [List.mem_singleton] at hb; subst hb; have := hw.lb.lt; omega) fun _ _ h => h) (hrep2.mod (Mod.refl [] _) (by simp) fun b _ hb => Nat.le_trans hm'.size hb)
  | lst k esz body rest _ ih =>
    intro i t off iv nb gs gcs pre σ w Q hO hT hr hBl hc h0 h3 hw hpre hi hiv hivt ht hQ
    obtain ⟨isnil, sz, xs, l, rfl, hg, hlen, hsz, hT⟩ := hT
    obtain ⟨hk, hO⟩ := hO
    cases hr with
    | @cons _ _ cs css h1 h2 =>
      simp only [Tl.gen, wpL, Tl.len] at hi ⊢
      have hz : zrep (1 + rest.len) tzero = tzero ++ zrep rest.len tzero := by rw [Nat.add_comm, zrep_succ]
      simp only [Tl.len, hz] at hw
      simp only [Tl.nl] at hivt
      simp only [List.flatten_cons] at hc
      -- the slice that the field holds
      obtain ⟨sb, cap, xcs, rfl, hisn, hrx, hsbx, hsn, hszx⟩ : ∃ sb cap xcs, cs = [.slice sb xs.length cap] ∧ isnil = sb.isNone ∧ RepL O w xs xcs ∧ (∀ a, sb = some a → a.block ∉ O ∧ a.block < w.heap.size ∧ Cells w a xcs.flatten) ∧ (sb = none → xs = []) ∧ (∀ c ∈ xcs, c.length = esz) := by
        cases h1 with
        | lst0 => exact ⟨none, 0, [], rfl, rfl, .nil, fun a h => by simp at h, fun _ => rfl, by simp⟩
        | @lst1 a nn c _ _ xcs ha hlt hn hc' hs hl hcells =>
          refine ⟨some a, c, xcs, by rw [hn], rfl, hl, fun a' e => ?_, fun h => by simp at h, fun d hd => ?_⟩
          · simp only [Option.some.injEq] at e; subst e; exact ⟨ha, hlt, hcells⟩
          · rcases hsz with rfl | rfl
            · have := hl.length; cases xcs with | nil => simp at hd | cons a b => simp at this
            · exact hs d hd
      have hcell : w.cell? ⟨B, base + off, none⟩ = some (.slice sb xs.length cap) := by simpa using hc.head
      refine nullF_wp ht h0 h3 hw hpre (by omega) hcell fun σ1 w1 a1 hm1 hsz1 htw1 => ?_
      simp only [thenC]
      have hLn : ∀ x ∈ [Lb], x ∈ O := by simpa using hLO
      refine loopT_wp hk (by omega) (by omega) hiv (by rw [a1 0 (by omega)]; exact h0) (by rw [a1 3 (by omega)]; exact h3) (by omega) htw1 hpre (cell_mod hcell hm1 (by simpa using hB)) hB hLO (hrx.mod hm1 hLn)
        (fun a ha => ⟨(hsbx a ha).1, Nat.lt_of_lt_of_le (hsbx a ha).2.1 hm1.size, (hsbx a ha).2.2.mod hm1 (.inr (by simp only [List.mem_singleton]; exact fun e => (hsbx a ha).1 (e ▸ hLO)))⟩) hsn hszx hg hlen fun σ2 w2 cs' a2 hm2 hrep2 htw2 => ?_
      simp only [thenC]
      have h5 := hrep2.five
      have hsub := hc.sub 1
      have hm12 := hm1.trans hm2
      have a12 : Ag 4 σ σ2 := fun q hq => by rw [a2 q (by omega) (by omega)]; exact a1 q (by omega)
      refine ih (i + 1) (t + (54 + 2 * k.n)) (off + 1) (iv + 1) (nb + 2) l css (pre ++ cs') σ2 w2 Q hO hT (h2.mod hm12 hLn) (Nat.lt_of_lt_of_le hBl hm12.size) ?_ (by rw [a12 0 (by omega)]; exact h0) (by rw [a12 3 (by omega)]; exact h3) (by simpa only [List.append_assoc] using htw2)
        (by simp only [List.length_append]; omega) (by omega) (by omega) (by omega) (by omega) fun σ3 w3 tcs a3 hm3 hrep3 htw3 hl3 => ?_
      · have : Cells w ⟨B, base + off + 1, none⟩ css.flatten := by simpa using hsub
        exact this.mod hm12 (.inr (by simpa using hB))
      · refine hQ σ3 w3 (cs' :: tcs) (a12.trans a3) (hm12.trans hm3) ?_ (by simpa only [List.flatten_cons, List.append_assoc] using htw3) (by simp [hl3, Tl.len]; omega)
        rw [GV.toldF_cons (by rintro m h; simp at h)]
        simp only [GV.told, hisn]
        refine .cons (hrep2.mod hm3 (fun b hb hx => by simp only [List.mem_singleton] at hb; subst hb; have := hw.lb.lt; omega) fun b _ hb => by omega) (hrep3.mod (Mod.refl [] _) (by simp) fun b _ hb => Nat.le_trans hm12.size hb)

  | uid rest ih =>
    intro i t off iv nb gs gcs pre σ w Q hO hT hr hBl hc h0 h3 hw hpre hi hiv hivt ht hQ
    obtain ⟨x, l, rfl, hx, hT⟩ := hT
    cases hr with
    | @cons _ _ cs css h1 h2 =>
      have : cs = u8s x := by cases h1; rfl
      subst this
      simp only [Tl.gen, wpL, Tl.len] at hi ⊢
      have hz : zrep (1 + rest.len) tzero = tzero ++ zrep rest.len tzero := by rw [Nat.add_comm, zrep_succ]
      simp only [Tl.len, hz] at hw
      simp only [Tl.nl] at hivt
      simp only [List.flatten_cons] at hc
      have hcx : Cells w ⟨B, base + off, none⟩ (u8s x) := by have := hc.take (u8s x).length; simpa using this
      refine uidF_wp ht h0 h3 hw hpre (by omega) hx hcx hBl fun σ' w' cs' a' hm' hrep' htw' => ?_
      simp only [thenC]
      have h5 := hrep'.five
      have hsub := hc.sub 16
      refine ih (i + 1) (t + 9) (off + 16) iv nb l css (pre ++ cs') σ' w' Q hO hT (h2.mod hm' (by simpa using hLO)) (Nat.lt_of_lt_of_le hBl hm'.size) ?_ (by rw [a' 0 (by omega)]; exact h0) (by rw [a' 3 (by omega)]; exact h3) (by simpa only [List.append_assoc] using htw')
        (by simp only [List.length_append]; omega) (by omega) hiv (by omega) (by omega) fun σ2 w2 tcs a2 hm2 hrep2 htw2 hl2 => ?_
      · have : Cells w ⟨B, base + off + 16, none⟩ css.flatten := by
          have hlen : (u8s x).length = 16 := by rw [u8s_length, hx]
          rw [← hlen, List.drop_left] at hsub
          rw [hlen] at hsub
          exact hsub
        exact this.mod hm' (.inr (by simpa using hB))
      · refine hQ σ2 w2 (cs' :: tcs) (fun q hq => by rw [a2 q hq]; exact a' q (by omega)) (hm'.trans hm2) ?_ (by simpa only [List.flatten_cons, List.append_assoc] using htw2) (by simp [hl2, Tl.len]; omega)
        rw [GV.toldF_cons (by rintro m h; simp at h)]
        exact .cons (hrep'.mod hm2 (fun b hb hx => by simp only [List.mem_singleton] at hb; subst hb; have := hw.lb.lt; omega) fun _ _ h => h) (hrep2.mod (Mod.refl [] _) (by simp) fun b _ hb => Nat.le_trans hm'.size hb)
  | sub f sz body rest _ ih =>
    intro i t off iv nb gs gcs pre σ w Q hO hT hr hBl hc h0 h3 hw hpre hi hiv hivt ht hQ
    obtain ⟨x, l, rfl, hx, hT, -⟩ := hT
    obtain ⟨hk, hO, hsz⟩ := hO
    cases hr with
    | @cons _ _ cs css h1 h2 =>
      obtain ⟨xcs, rfl, hrx⟩ : ∃ xcs, cs = xcs.flatten ∧ RepL O w x xcs := by
        cases h1 with
        | rcd h => exact ⟨_, rfl, h⟩
      have hxl := hsz O w x xcs hx hrx
      simp only [Tl.gen, wpL, Tl.len] at hi ⊢
      have hz : zrep (1 + rest.len) tzero = tzero ++ zrep rest.len tzero := by rw [Nat.add_comm, zrep_succ]
      simp only [Tl.len, hz] at hw
      simp only [Tl.nl] at hivt
      rw [List.flatten_cons] at hc
      have hcx : Cells w ⟨B, base + off, none⟩ xcs.flatten := by have := hc.take xcs.flatten.length; simpa using this
      refine subF_wp hk ht h0 h3 hw hpre (by omega) hx hrx hcx fun σ' w' cs' a' hm' hrep' htw' => ?_
      simp only [thenC]
      have h5 := hrep'.five
      have hsub := hc.sub sz
      refine ih (i + 1) (t + 7) (off + sz) iv nb l css (pre ++ cs') σ' w' Q hO hT (h2.mod hm' (by simpa using hLO)) (Nat.lt_of_lt_of_le hBl hm'.size) ?_ (by rw [a' 0 (by omega)]; exact h0) (by rw [a' 3 (by omega)]; exact h3) (by simpa only [List.append_assoc] using htw')
        (by simp only [List.length_append]; omega) (by omega) hiv (by omega) (by omega) fun σ2 w2 tcs a2 hm2 hrep2 htw2 hl2 => ?_
      · have : Cells w ⟨B, base + (off + sz), none⟩ css.flatten := by
          rw [← hxl, List.drop_left] at hsub
          rw [hxl] at hsub
          rwa [← Nat.add_assoc]
        exact this.mod hm' (.inr (by simpa using hB))
      · refine hQ σ2 w2 (cs' :: tcs) (fun q hq => by rw [a2 q hq]; exact a' q (by omega)) (hm'.trans hm2) ?_ (by simpa only [List.flatten_cons, List.append_assoc] using htw2) (by simp [hl2, Tl.len]; omega)
        rw [GV.toldF_cons (by rintro m h; simp at h)]
        exact .cons (hrep'.mod hm2 (fun b hb hx => by simp only [List.mem_singleton] at hb; subst hb; have := hw.lb.lt; omega) fun _ _ h => h) (hrep2.mod (Mod.refl [] _) (by simp) fun b _ hb => Nat.le_trans hm'.size hb)
  | tags a b c =>
    intro i t off iv nb gs gcs pre σ w Q hO hT hr hBl hc h0 h3 hw hpre hi hiv hivt ht hQ
    obtain ⟨m, rfl, -⟩ := hT
    exact hQ σ w [] (Ag.refl _ _) (Mod.refl _ _) (by simpa [GV.toldF] using .nil) (by simpa [Tl.len, zrep] using hw) rfl
theorem Tl.no_tags : ∀ (tl : Tl) (gs : List GV), tl.tg = none → tl.ty gs → GV.tagsF gs = [] := by
  intro tl
  induction tl with
  | nil => intro gs _ h; simp only [Tl.ty] at h; subst h; rfl
  | fld k rest ih =>
    rintro gs h ⟨g, l, rfl, hg, hT⟩
    have := ih l h hT
    cases g <;> first | exact this | exact (TK.ty_tag hg).elim
  | lst k esz body rest _ ih => rintro gs h ⟨_, _, _, l, rfl, -, -, -, hT⟩; exact ih l h hT
  | uid rest ih => rintro gs h ⟨_, l, rfl, -, hT⟩; exact ih l h hT
  | sub f sz body rest _ ih => rintro gs h ⟨_, l, rfl, -, hT, -⟩; exact ih l h hT
  | tags a b c => intro gs h; simp [Tl.tg] at h
theorem Tl.tag_cell {O : List Nat} {w : World} : ∀ (tl : Tl) (gs : List GV) (gcs : List (List Value)) (a b c : FuncId), tl.tg = some (a, b, c) → tl.Ok P → tl.ty gs → RepL O w gs gcs →
    ∃ m v, gcs.flatten[tl.size]? = some v ∧ Rep O w (.tag m) [v] ∧ GV.tagsF gs = sortT m ∧ m.length ≤ 2147483647 ∧ (∀ p ∈ m, p.2.length ≤ 2147483647) ∧ TagFs P a b c := by
  intro tl
  have step : ∀ {n k : Nat} {g : GV} {l : List GV} {cs : List Value} {css : List (List Value)} {m : List (Nat × List UInt8)} {v : Value}, cs.length = n → (∀ m, g ≠ .tag m) → css.flatten[k]? = some v → GV.tagsF l = sortT m →
      (cs :: css).flatten[n + k]? = some v ∧ GV.tagsF (g :: l) = sortT m := by
    intro n k g l cs css m v hn hg hk ht
    refine ⟨?_, ?_⟩
    · rw [List.flatten_cons, List.getElem?_append_right (by omega), show n + k - cs.length = k by omega]; exact hk
    · cases g <;> first | exact ht | exact absurd rfl (hg _)
  induction tl with
  | nil => intro gs gcs a b c h; simp [Tl.tg] at h
  | fld k rest ih =>
    intro gs gcs a b c h hO hT hr
    obtain ⟨g, l, rfl, hg, hT⟩ := hT
    cases hr with
    | @cons _ _ cs css h1 h2 =>
      obtain ⟨m, v, e1, e2, e3, e4⟩ := ih l css a b c h hO.2 hT h2
      obtain ⟨q1, q2⟩ := step (n := 1) (g := g) (TK.one hg h1) (by rintro m rfl; exact TK.ty_tag hg) e1 e3
      exact ⟨m, v, q1, e2, q2, e4⟩
  | lst k esz body rest _ ih =>
    intro gs gcs a b c h hO hT hr
    obtain ⟨isnil, sz, x, l, rfl, -, -, -, hT⟩ := hT
    cases hr with
    | @cons _ _ cs css h1 h2 =>
      obtain ⟨m, v, e1, e2, e3, e4⟩ := ih l css a b c h hO.2 hT h2
      have hl : cs.length = 1 := by cases h1 <;> rfl
      obtain ⟨q1, q2⟩ := step (n := 1) (g := .lst isnil sz x) hl (by rintro m h; simp at h) e1 e3
      exact ⟨m, v, q1, e2, q2, e4⟩
  | uid rest ih =>
    intro gs gcs a b c h hO hT hr
    obtain ⟨x, l, rfl, hx, hT⟩ := hT
    cases hr with
    | @cons _ _ cs css h1 h2 =>
      obtain ⟨m, v, e1, e2, e3, e4⟩ := ih l css a b c h hO hT h2
      have hl : cs.length = 16 := by cases h1; rw [u8s_length, hx]
      obtain ⟨q1, q2⟩ := step (n := 16) (g := .arr x) hl (by rintro m h; simp at h) e1 e3
      exact ⟨m, v, q1, e2, q2, e4⟩
  | sub f sz body rest _ ih =>
    intro gs gcs a b c h hO hT hr
    obtain ⟨x, l, rfl, hx, hT, -⟩ := hT
    cases hr with
    | @cons _ _ cs css h1 h2 =>
      obtain ⟨m, v, e1, e2, e3, e4⟩ := ih l css a b c h hO.2.1 hT h2
      have hl : cs.length = sz := by cases h1 with | rcd h1 => exact hO.2.2 _ _ _ _ hx h1
      obtain ⟨q1, q2⟩ := step (n := sz) (g := .rcd x) hl (by rintro m h; simp at h) e1 e3
      exact ⟨m, v, q1, e2, q2, e4⟩
  | tags a' b' c' =>
    intro gs gcs a b c h hO hT hr
    simp only [Tl.tg, Option.some.injEq, Prod.mk.injEq] at h
    obtain ⟨rfl, rfl, rfl⟩ := h
    obtain ⟨m, rfl, h1, h2⟩ := hT
    cases hr with
    | @cons _ _ cs css q1 q2 =>
      cases q2
      obtain ⟨v, rfl⟩ : ∃ v, cs = [v] := by cases q1 <;> exact ⟨_, rfl⟩
      exact ⟨m, v, rfl, q1, rfl, h1, h2, hO⟩
def TellAt (P : Program) (f : FuncId) (off : Nat) (T : List GV → Prop) : Prop :=
  ∀ (O : List Nat) (w : World) (B base : Nat) (gs : List GV) (css : List (List Value)), T gs → RepL O w gs css → B < w.heap.size → Cells w ⟨B, base + off, none⟩ css.flatten →
    TellC P f [.pointer (some ⟨B, base, none⟩)] w (GV.rcd gs).told
theorem Tl.call {tl : Tl} {f off : Nat} (hm : P.follows .mixedOrders = true) (h : liftF P f = some (tl.code off)) (hO : tl.Ok P) (hlen : tl.len ≤ 1000) : TellAt P f off tl.ty := by
  intro O w B base gs css hT hr hBlt hc
  unfold Tl.code at h
  refine call_of h hm (by simp; omega) ?_
  rw [wpC_seqs]
  have s0 : args0 [.pointer (some ⟨B, base, none⟩)] 0 = .pointer (some ⟨B, base, none⟩) := rfl
  generalize args0 [.pointer (some ⟨B, base, none⟩)] = σ0 at s0
  have ht0 : tl.t0 = 4 + tl.nl := rfl
  simp only [List.cons_append, List.nil_append, wpL]
  simp only [wpC_blk, wpR, RI.wp, gOk, if_true, RK.run, ev, updo]
  intro T1
  simp only [thenC]
  have hmul : ((tl.len : Int) * (88 : Nat)) ≤ 70368744177664 := by omega
  refine ⟨by omega, by omega, hmul, by omega, ?_⟩
  intro T2
  simp only [Int.toNat_natCast, upd_same, List.map_cons, List.map_nil]
  have hf : ∀ v : Value, v.cells = #[v] → fillL tzero [(3, 1, v)] = some [.int .i64 0, .slice none 0 0, .bool false, v, .slice none 0 0] := by
    intro v hv
    simp only [fillL, hv]
    simp [tzero, splice]
  rw [hf _ rfl]
  simp only
  intro T3
  have ec : ∀ cs, (Value.agg cs).cells = cs := fun _ => rfl
  simp only [upd, if_true, show tl.t0 + 1 ≠ 3 by omega, if_false, ec]
  -- the three new blocks
  have b2 := Blk.new w tzero T1
  generalize hw1 : w.alloc (.cells tzero.toArray T1) = w1 at b2 ⊢
  have z1 : w1.heap.size = w.heap.size + 1 := by rw [← hw1]; simp
  have m1 : Mod [] w w1 := by rw [← hw1]; exact Mod.alloc _ _ _
  have bL := Blk.new w1 (zrep tl.len tzero) T2
  generalize hw2 : w1.alloc (.cells (zrep tl.len tzero).toArray T2) = w2 at bL ⊢
  have z2 : w2.heap.size = w1.heap.size + 1 := by rw [← hw2]; simp
  have m2 : Mod [] w1 w2 := by rw [← hw2]; exact Mod.alloc _ _ _
  obtain ⟨k1, k2, k3⟩ := new_put w2 tzero [.int .i64 0, .slice none 0 0, .bool false, .slice (some ⟨w1.heap.size, 0, none⟩) tl.len tl.len, .slice none 0 0] T3 rfl (by simp [Value.oneCell'])
  generalize hw3 : w2.alloc (.cells tzero.toArray T3) = w3 at k1 k2 k3 ⊢
  have z3 : w3.heap.size = w2.heap.size + 1 := by rw [← hw3]; simp
  refine ⟨by rfl, by simpa using k1, ?_⟩
  rw [wpL_append]
  have hput : (putCells w3 ⟨w2.heap.size, 0, none⟩ 0 [.int .i64 0, .slice none 0 0, .bool false, .slice (some ⟨w1.heap.size, 0, none⟩) tl.len tl.len, .slice none 0 0]).heap.size = w3.heap.size := size_putCells ..
  generalize hw4 : putCells w3 ⟨w2.heap.size, 0, none⟩ 0 [.int .i64 0, .slice none 0 0, .bool false, .slice (some ⟨w1.heap.size, 0, none⟩) tl.len tl.len, .slice none 0 0] = w4 at k2 k3 hput
  have m14 : Mod [] w w4 := (m1.trans m2).trans k3
  have htw : TW w4 w2.heap.size w1.heap.size tl.len (zrep tl.len tzero) := ⟨k2, bL.mod k3 (by simp), by omega⟩
  refine Tl.sound (Tb := w2.heap.size) (Lb := w1.heap.size) (n := tl.len) (B := B) (base := base) (O := w2.heap.size :: w1.heap.size :: O) (by omega) (by simp) tl 0 (tl.t0 + 2) off 4 0 gs css [] _ w4 _ hO hT
    (hr.fresh m14 (by simp) (fun x hx => by
      rcases List.mem_cons.1 hx with rfl | hx
      · exact .inr (by omega)
      · rcases List.mem_cons.1 hx with rfl | hx
        · exact .inr (by omega)
        · exact .inl hx)) (by omega) (hc.mod m14 (.inr (by simp))) ?_ ?_ htw rfl (by omega) (by omega) (by omega) (by omega) fun σ' w' tcs a' hm' hrep htw' hln => ?_
  · simp only [upd, show (0 : Nat) ≠ 3 by omega, show (0 : Nat) ≠ tl.t0 + 1 by omega, show (0 : Nat) ≠ tl.t0 by omega, show (0 : Nat) ≠ 2 by omega, if_false, s0]
  · simp only [upd, if_true]
  · have s2' : σ' 2 = .pointer (some ⟨w.heap.size, 0, none⟩) := by
      rw [a' 2 (by omega)]
      simp only [upd, show (2 : Nat) ≠ 3 by omega, show (2 : Nat) ≠ tl.t0 + 1 by omega, show (2 : Nat) ≠ tl.t0 by omega, if_false, if_true]
    have s3' : σ' 3 = .pointer (some ⟨w2.heap.size, 0, none⟩) := by
      rw [a' 3 (by omega)]
      simp only [upd, if_true]
    have s0' : σ' 0 = .pointer (some ⟨B, base, none⟩) := by
      rw [a' 0 (by omega)]
      simp only [upd, show (0 : Nat) ≠ 3 by omega, show (0 : Nat) ≠ tl.t0 + 1 by omega, show (0 : Nat) ≠ tl.t0 by omega, show (0 : Nat) ≠ 2 by omega, if_false, s0]
    have hb2 : Blk w' w.heap.size tzero := ((b2.mod (m2.trans k3) (by simp))).mod hm' (by simp; omega)
    -- behind the fields
    have fin : ∀ (σ5 : Sl) (w5 : World) (t : Nat) (uv : Value) (ucs : List (List Value)), 4 ≤ t → σ5 2 = .pointer (some ⟨w.heap.size, 0, none⟩) → σ5 3 = .pointer (some ⟨w2.heap.size, 0, none⟩) → Mod [w2.heap.size] w' w5 →
        Blk w5 w2.heap.size [.int .i64 0, .slice none 0 0, .bool false, .slice (some ⟨w1.heap.size, 0, none⟩) tl.len tl.len, uv] → SlC (fun b => w.heap.size ≤ b ∧ b ≠ w.heap.size) w5 uv (GV.tagsF gs).length ucs.flatten →
        RepU (fun b => w.heap.size ≤ b ∧ b ≠ w.heap.size) w5 (GV.tagsF gs) ucs → wpL P [.blk [⟨some t, .ldn (.tmp 3) 5, none⟩, ⟨none, .st (.tmp 2) 5 (.tmp t), none⟩], .ret] (postC [.cells 2 5] fun e w6 => ∃ cs, e = .returned (.agg cs.toArray) ∧ RepT (fun b => w.heap.size ≤ b) w6 (GV.rcd gs).told cs ∧ Mod [] w w6) σ5 w5 := by
      intro σ5 w5 t uv ucs ht5 q2 q3 hm5 hb5 hus hru
      have uone : uv.oneCell' = true := hus.one
      have hld : cellsAt w5 ⟨w2.heap.size, 0, none⟩ 0 5 = some [.int .i64 0, .slice none 0 0, .bool false, .slice (some ⟨w1.heap.size, 0, none⟩) tl.len tl.len, uv] := cellsAt_of' hb5.cells rfl
      have hb2' : Blk w5 w.heap.size tzero := hb2.mod hm5 (by simp; omega)
      have hput2 : Mod [w.heap.size] w5 (putCells w5 ⟨w.heap.size, 0, none⟩ 0 [.int .i64 0, .slice none 0 0, .bool false, .slice (some ⟨w1.heap.size, 0, none⟩) tl.len tl.len, uv]) := Mod.put (by simp)
      have hb3 := hb2'.put (o := 0) (vs := [.int .i64 0, .slice none 0 0, .bool false, .slice (some ⟨w1.heap.size, 0, none⟩) tl.len tl.len, uv]) (by simp [tzero])
      rw [splice_all (by rfl)] at hb3
      simp only [wpL]
      rw [wpC_blk]
      refine wpR_step (v := .agg [.int .i64 0, .slice none 0 0, .bool false, .slice (some ⟨w1.heap.size, 0, none⟩) tl.len tl.len, uv].toArray) (by simp only [RK.val?, ev, q3, hld, Option.map_some]) ?_
      refine wpR_run ?_
      simp only [RK.run, ev, updo, upd, show (2 : Nat) ≠ t by omega, if_false, if_true, q2, ec]
      refine ⟨rfl, stOk_many hb2' (by simp [tzero]) (fun x hx => by
        simp only [List.mem_cons, List.not_mem_nil, or_false] at hx
        rcases hx with rfl | rfl | rfl | rfl | rfl <;> first | rfl | exact uone), ?_⟩
      refine wpR_done ?_
      simp only [wpC, thenC, postC, rvals, List.mapM_cons, List.mapM_nil, RV.val, upd, show (2 : Nat) ≠ t by omega, if_false, q2, cellsAt_of' hb3.cells (n := 5) rfl, Option.bind_eq_bind, Option.map_some, Option.bind_some, Option.pure_def, tup_one]
      have m56 : Mod [w2.heap.size, w.heap.size] w' (putCells w5 ⟨w.heap.size, 0, none⟩ 0 [.int .i64 0, .slice none 0 0, .bool false, .slice (some ⟨w1.heap.size, 0, none⟩) tl.len tl.len, uv]) := (hm5.mono (by simp)).trans (hput2.mono (by simp))
      refine ⟨_, rfl, ?_, ?_⟩
      · have hlt : (GV.toldF gs).length = tl.len := hrep.length.trans hln
        simp only [GV.told]
        refine .mk (css := tcs) (uss := ucs) SlC.nil ⟨some ⟨w1.heap.size, 0, none⟩, tl.len, by rw [hlt], by rw [hlt]; exact Nat.le_refl _, fun h => by simp at h, fun a ha _ => ?_⟩ ?_
          (hus.mod hput2 (fun b hb hx => by simp only [List.mem_singleton] at hb; exact hx.2 hb) fun b _ hb => hb.1) (hru.mod hput2 (fun b hb hx => by simp only [List.mem_singleton] at hb; exact hx.2 hb) fun b _ hb => hb.1)
        · simp only [Option.some.injEq] at ha; subst ha
          refine ⟨show w.heap.size ≤ w1.heap.size by omega, ?_, ?_⟩
          · exact Nat.lt_of_lt_of_le htw'.lb.lt m56.size
          · have := (htw'.lb.mod m56 (by simp; omega)).cells
            simpa using this
        · exact (hrep.mod m56 (fun b hb hx => by simp only [List.mem_cons, List.not_mem_nil, or_false] at hb; omega) fun b _ hb => by omega)
      · refine Mod.drop (b := w.heap.size) (S := []) ?_ (Nat.le_refl _)
        refine Mod.drop (b := w1.heap.size) (S := [w.heap.size]) ?_ (by omega)
        refine Mod.drop (b := w2.heap.size) (S := [w1.heap.size, w.heap.size]) ?_ (by omega)
        exact (m14.nil.trans (hm'.mono (by simp))).trans (m56.mono (by simp))
    simp only [thenC]
    rw [wpL_append]
    cases htg : tl.tg with
    | none =>
      have e1 : tl.tail (tl.t0 + 2 + tl.nt) (off + tl.size) = [] := by unfold Tl.tail; rw [htg]
      rw [e1]
      have hnt : GV.tagsF gs = [] := Tl.no_tags tl gs htg hT
      have := fin σ' w' (tl.t0 + 2 + tl.nt + tl.tn) (.slice none 0 0) [] (by omega) s2' s3' (Mod.refl _ _) htw'.tb (by rw [hnt]; exact SlC.nil) (by rw [hnt]; exact .nil)
      simpa only [wpL, thenC] using this
    | some q =>
      obtain ⟨a, b, c⟩ := q
      have e1 : tl.tail (tl.t0 + 2 + tl.nt) (off + tl.size) = tagBlks a b c (tl.t0 + 2 + tl.nt) (off + tl.size) := by unfold Tl.tail; rw [htg]
      rw [e1]
      obtain ⟨m, v, u1, u2, u3, u4, u5, u6⟩ := Tl.tag_cell tl gs css a b c htg hO hT hr
      have hcv : w.cell? ⟨B, base + (off + tl.size), none⟩ = some v := by
        have := hc.2 tl.size v u1
        simpa [Nat.add_assoc] using this
      have hrv : Rep (w2.heap.size :: w1.heap.size :: O) w4 (.tag m) [v] := u2.fresh m14 (by simp) (fun x hx => by
        rcases List.mem_cons.1 hx with rfl | hx
        · exact .inr (by omega)
        · rcases List.mem_cons.1 hx with rfl | hx
          · exact .inr (by omega)
          · exact .inl hx)
      have hrv' := hrv.mod hm' (by simp)
      have hTM : TagM (fun b => b ∉ w2.heap.size :: w1.heap.size :: O) w' v m ∧ ∀ r, v = .map (some r) → r ≠ w2.heap.size := by
        cases hrv' with
        | tag0 => exact ⟨.inl ⟨rfl, rfl⟩, fun r h => by simp at h⟩
        | @tag1 r _ h1 h2 => exact ⟨.inr ⟨r, rfl, h2⟩, fun r' h => by simp only [Value.map.injEq, Option.some.injEq] at h; subst h; exact fun e => h1 (by simp [e])⟩
      refine tagBlks_wp u6 (okv := fun b => b ∉ w2.heap.size :: w1.heap.size :: O) (by omega) s0' s3' htw'.tb (cell_mod (cell_mod hcv m14 (by simp)) hm' (by simp; omega)) hTM.1 (fun b hb e => hb (by simp [e])) (by omega) hTM.2 u4 u5 fun σ6 w6 uv ucs a6 hm6 hb6 hs6 hr6 => ?_
      simp only [thenC]
      refine fin σ6 w6 (tl.t0 + 2 + tl.nt + tl.tn) uv ucs (by omega) (by rw [a6 2 (by omega)]; exact s2') (by rw [a6 3 (by omega)]; exact s3') hm6 hb6 ?_ ?_
      · rw [u3]; exact hs6.mod (Mod.refl [] _) (by simp) fun b _ hb => by have := hm'.size; omega
      · rw [u3]; exact hr6.mod (Mod.refl [] _) (by simp) fun b _ hb => by have := hm'.size; omega
end
end Go.Msk

namespace Go.Msk
open Go.RowKit
set_option maxRecDepth 100000
def PK.ty : PK → GV → Prop
  | .bool, g => ∃ b, g = .num (.bool b)
  | .i64, g => ∃ n, g = .num (.int .i64 n) ∧ IntKind.i64.wrap n = n
  | .str, g => ∃ l, g = .num (Msk.str l)
  | .nstr, g => ∃ o, g = .nstr o
  | .byt, g | .nbyt, g => ∃ o, g = .byt o ∧ ∀ l, o = some l → l.length ≤ 2147483647
  | .uuid, g => ∃ l, g = .arr l ∧ l.length = 16
  | _, g => ∃ k n, g = .num (.int k n)
def fitF : PK → TK → Bool
  | .bool, .boo _ => true
  | .i64, .num false => true
  | .str, .str => true
  | .nstr, .txt _ => true
  | .byt, .oct _ | .nbyt, .oct _ => true
  | .i8, .num true | .i16, .num true | .u16, .num true | .i32, .num true | .u32, .num true => true
  | _, _ => false
def fitE : PK → EK → Bool
  | .i64, .num false => true
  | .str, .str => true
  | .i8, .num true | .i16, .num true | .u16, .num true | .i32, .num true | .u32, .num true => true
  | _, _ => false
theorem fitF_ty {p : PK} {k : TK} {g : GV} (h : fitF p k = true) (hg : p.ty g) : k.ty g := by
  cases p <;> cases k <;> simp only [fitF, Bool.false_eq_true] at h <;> first | exact hg | (rename_i c; cases c <;> simp only [Bool.false_eq_true] at h <;> exact hg)
theorem fitE_ty {p : PK} {k : EK} {T : List GV → Prop} {g : GV} (h : fitE p k = true) (hg : p.ty g) : k.ty T g := by
  cases p <;> cases k <;> simp only [fitE, Bool.false_eq_true] at h <;> first | exact hg | (rename_i c; cases c <;> simp only [Bool.false_eq_true] at h <;> exact hg)
def fitD : PK → Df → Bool
  | .bool, .bool _ => true
  | .i64, .int .i64 n => decide (IntKind.i64.wrap n = n)
  | .str, .str _ => true
  | .nstr, .nstr => true
  | .byt, .byt | .nbyt, .byt => true
  | .uuid, .uuid => true
  | .i8, .int .. | .i16, .int .. | .u16, .int .. | .i32, .int .. | .u32, .int .. => true
  | _, _ => false
theorem fitD_ty {p : PK} {d : Df} (h : fitD p d = true) : p.ty d.gv := by
  cases p <;> cases d <;> simp only [fitD, Bool.false_eq_true] at h <;> first | exact ⟨_, _, rfl⟩ | exact ⟨_, rfl⟩ | exact ⟨none, rfl, by simp⟩ | exact ⟨_, rfl, by simp⟩ | skip
  rename_i k n
  cases k <;> simp only [Bool.false_eq_true, decide_eq_true_eq] at h
  exact ⟨n, rfl, h⟩
def fit : Sc → Tl → Bool
  | .nil, .nil => true
  | .prm _ _ _ p d rest, .fld k r => fitF p k && fitD p d && fit rest r
  | .prm _ _ _ p d rest, .uid r => decide (p = .uuid) && fitD p d && fit rest r
  | .enm _ _ _ p d rest, .fld k r => fitF p k && fitD p d && fit rest r
  | .lsp _ _ _ d _ _ p rest, .lst k esz _ r => fitE p k && decide (d.size = esz) && fit rest r
  | .lss _ _ _ _ _ body rest, .lst (.tell _) esz b r => fit body b && decide (body.size = esz) && fit rest r
  | .sub _ _ body rest, .sub _ n b r => fit body b && decide (body.size = n) && fit rest r
  | .tags _, .tags .. => true
  | .uid _ _ rest, .uid r => fit rest r
  | _, _ => false
structure Dec.Ok (D : Dec) : Prop where
  short : D.Short
  lenle : ∀ (x : Bool) (s : RS), (D.len x s).2.src.length ≤ s.src.length
  prle : ∀ (p : PK) (x : Bool) (s : RS), (D.prim p x s).2.src.length ≤ s.src.length
  ty : ∀ (p : PK) (x : Bool) (s : RS), s.src.length ≤ 2147483647 → p.ty (D.prim p x s).1
  tagle : ∀ s : RS, (D.tags s).2.src.length ≤ s.src.length
  tagty : ∀ s : RS, s.src.length ≤ 2147483647 → (D.tags s).1.length ≤ 2147483647 ∧ ∀ p ∈ (D.tags s).1, p.2.length ≤ 2147483647
theorem decList_ty {el : RS → Option (GV × RS)} {T : GV → Prop} (hel : ∀ s g s', s.src.length ≤ 2147483647 → el s = some (g, s') → T g ∧ s'.src.length ≤ s.src.length) : ∀ (n : Nat) (s : RS) (l : List GV) (s' : RS), s.src.length ≤ 2147483647 →
    decList el n s = some (l, s') → (∀ g ∈ l, T g) ∧ l.length = n ∧ s'.src.length ≤ s.src.length
  | 0, s, l, s', hs, h => by simp only [decList, Option.some.injEq, Prod.mk.injEq] at h; obtain ⟨rfl, rfl⟩ := h; simp
  | n + 1, s, l, s', hs, h => by
    simp only [decList] at h
    cases he : el s with
    | none => simp [he] at h
    | some p =>
      obtain ⟨g, s1⟩ := p
      obtain ⟨h1, h2⟩ := hel s g s1 hs he
      simp only [he] at h
      cases hd : decList el n s1 with
      | none => simp [hd] at h
      | some q =>
        obtain ⟨l2, s2⟩ := q
        simp only [hd, Option.some.injEq, Prod.mk.injEq] at h
        obtain ⟨rfl, rfl⟩ := h
        obtain ⟨k1, k2, k3⟩ := decList_ty hel n s1 l2 s2 (by omega) hd
        refine ⟨fun x hx => ?_, by simp [k2], by omega⟩
        rcases List.mem_cons.1 hx with rfl | hx
        · exact h1
        · exact k1 x hx
theorem decLst_ty {D : Dec} (hD : D.Ok) {x : Bool} {lb : LB} {ver : Int} {sz : Nat} {el : RS → Option (GV × RS)} {T : GV → Prop} (hel : ∀ s g s', s.src.length ≤ 2147483647 → el s = some (g, s') → T g ∧ s'.src.length ≤ s.src.length) {s s' : RS} {g : GV} (hs : s.src.length ≤ 2147483647)
    (h : decLst D x lb ver sz el s = some (g, s')) : (∃ isnil z l, g = .lst isnil z l ∧ (∀ y ∈ l, T y) ∧ l.length ≤ 2147483647 ∧ (l = [] ∨ z = sz)) ∧ s'.src.length ≤ s.src.length := by
  unfold decLst at h
  split at h
  · simp at h
  · have h1 := hD.lenle x s
    have h2 := (hD.short x s).1
    cases hd : decList el (D.len x s).1.toNat (D.len x s).2 with
    | none => rw [hd] at h; simp at h
    | some q =>
      obtain ⟨l, s2⟩ := q
      rw [hd] at h
      simp only [Option.some.injEq, Prod.mk.injEq] at h
      obtain ⟨rfl, rfl⟩ := h
      obtain ⟨k1, k2, k3⟩ := decList_ty hel _ _ _ _ (by omega) hd
      refine ⟨⟨_, _, l, rfl, k1, by omega, ?_⟩, by omega⟩
      by_cases hz : (D.len x s).1 ≤ 0
      · left
        have : l.length = 0 := by omega
        exact List.length_eq_zero_iff.1 this
      · right; rw [if_neg (by simp [LB.nil, hz])]
theorem consD_some {f : Option (GV × RS)} {rest : RS → Option (List GV × RS)} {gs : List GV} {s' : RS} (h : consD f rest = some (gs, s')) : ∃ g s1 l, f = some (g, s1) ∧ rest s1 = some (l, s') ∧ gs = g :: l := by
  unfold consD at h
  cases f with
  | none => simp at h
  | some p =>
    obtain ⟨g, s1⟩ := p
    simp only at h
    cases hr : rest s1 with
    | none => simp [hr] at h
    | some q =>
      obtain ⟨l, s2⟩ := q
      simp only [hr, Option.some.injEq, Prod.mk.injEq] at h
      obtain ⟨rfl, rfl⟩ := h
      exact ⟨g, s1, l, rfl, hr, rfl⟩
theorem fit_dgv : ∀ (sc : Sc) (tl : Tl), fit sc tl = true → tl.ty sc.dgv := by
  intro sc
  induction sc with
  | nil => intro tl hf; cases tl <;> simp only [fit, Bool.false_eq_true] at hf; rfl
  | prm vc i r p d rest ih =>
    intro tl hf
    cases tl <;> simp only [fit, Bool.false_eq_true, Bool.and_eq_true] at hf
    · exact ⟨_, _, rfl, fitF_ty hf.1.1 (fitD_ty hf.1.2), ih _ hf.2⟩
    · have e : p = .uuid := by simpa using hf.1.1
      subst e
      obtain ⟨l, h1, h2⟩ := fitD_ty hf.1.2
      exact ⟨l, _, by rw [Sc.dgv, h1], h2, ih _ hf.2⟩
  | enm vc i r p d rest ih =>
    intro tl hf
    cases tl <;> simp only [fit, Bool.false_eq_true, Bool.and_eq_true] at hf
    exact ⟨_, _, rfl, fitF_ty hf.1.1 (fitD_ty hf.1.2), ih _ hf.2⟩
  | lsp vc len by' d i r p rest ih =>
    intro tl hf
    cases tl <;> simp only [fit, Bool.false_eq_true, Bool.and_eq_true] at hf
    exact ⟨_, _, _, _, rfl, by simp, by simp, .inl rfl, ih _ hf.2⟩
  | lss vc len by' z dfl body rest ihb ih =>
    intro tl hf
    cases tl with
    | lst k esz b r' =>
      cases k <;> simp only [fit, Bool.false_eq_true, Bool.and_eq_true] at hf
      exact ⟨_, _, _, _, rfl, by simp, by simp, .inl rfl, ih _ hf.2⟩
    | _ => simp [fit] at hf
  | sub vc dfl body rest ihb ih =>
    intro tl hf
    cases tl <;> simp only [fit, Bool.false_eq_true, Bool.and_eq_true] at hf
    exact ⟨_, _, rfl, ihb _ hf.1.1, ih _ hf.2, rfl⟩
  | vst _ _ _ _ rest ih =>
    intro tl hf
    cases tl <;> simp only [fit, Bool.false_eq_true] at hf
  | uid vc f rest ih =>
    intro tl hf
    cases tl <;> simp only [fit, Bool.false_eq_true] at hf
    exact ⟨_, _, rfl, by simp, ih _ hf⟩
  | tags f =>
    intro tl hf
    cases tl <;> simp only [fit, Bool.false_eq_true] at hf
    exact ⟨[], rfl, by simp, by simp⟩
theorem fit_ty {D : Dec} (hD : D.Ok) {ver : Int} {x : Bool} : ∀ (sc : Sc) (tl : Tl) (s s' : RS) (gs : List GV), fit sc tl = true → s.src.length ≤ 2147483647 → sc.dec D ver x s = some (gs, s') → tl.ty gs ∧ s'.src.length ≤ s.src.length := by
  intro sc
  have prim : ∀ (vc : VC) (p : PK) (d : Df) (k : TK) (s s1 : RS) (g : GV), fitF p k = true → fitD p d = true → s.src.length ≤ 2147483647 → (if vc.holds ver then some (D.prim p x s) else some (d.gv, s)) = some (g, s1) → k.ty g ∧ s1.src.length ≤ s.src.length := by
    intro vc p d k s s1 g h1 h2 hs h
    split at h
    · simp only [Option.some.injEq] at h
      have e1 := hD.ty p x s hs
      have e2 := hD.prle p x s
      rw [h] at e1 e2
      exact ⟨fitF_ty h1 e1, e2⟩
    · simp only [Option.some.injEq, Prod.mk.injEq] at h
      obtain ⟨rfl, rfl⟩ := h
      exact ⟨fitF_ty h1 (fitD_ty h2), Nat.le_refl _⟩
  induction sc with
  | nil =>
    intro tl s s' gs hf hs h
    cases tl <;> simp only [fit, Bool.false_eq_true] at hf
    simp only [Sc.dec, Option.some.injEq, Prod.mk.injEq] at h
    obtain ⟨rfl, rfl⟩ := h
    exact ⟨rfl, Nat.le_refl _⟩
  | prm vc i r p d rest ih =>
    intro tl s s' gs hf hs h
    cases tl <;> simp only [fit, Bool.false_eq_true, Bool.and_eq_true] at hf
    · obtain ⟨g, s1, l, h1, h2, rfl⟩ := consD_some h
      obtain ⟨k1, k2⟩ := prim vc p d _ s s1 g hf.1.1 hf.1.2 hs h1
      obtain ⟨k3, k4⟩ := ih _ s1 s' l hf.2 (by omega) h2
      exact ⟨⟨g, l, rfl, k1, k3⟩, by omega⟩
    · have e : p = .uuid := by simpa using hf.1.1
      subst e
      obtain ⟨g, s1, l, h1, h2, rfl⟩ := consD_some h
      have : (∃ x, g = .arr x ∧ x.length = 16) ∧ s1.src.length ≤ s.src.length := by
        split at h1
        · simp only [Option.some.injEq] at h1
          have e1 := hD.ty .uuid x s hs
          have e2 := hD.prle .uuid x s
          rw [h1] at e1 e2
          exact ⟨e1, e2⟩
        · simp only [Option.some.injEq, Prod.mk.injEq] at h1
          obtain ⟨rfl, rfl⟩ := h1
          exact ⟨fitD_ty hf.1.2, Nat.le_refl _⟩
      obtain ⟨⟨y, rfl, hy⟩, k2⟩ := this
      obtain ⟨k3, k4⟩ := ih _ s1 s' l hf.2 (by omega) h2
      exact ⟨⟨y, l, rfl, hy, k3⟩, by omega⟩
  | enm vc i r p d rest ih =>
    intro tl s s' gs hf hs h
    cases tl <;> simp only [fit, Bool.false_eq_true, Bool.and_eq_true] at hf
    obtain ⟨g, s1, l, h1, h2, rfl⟩ := consD_some h
    obtain ⟨k1, k2⟩ := prim vc p d _ s s1 g hf.1.1 hf.1.2 hs h1
    obtain ⟨k3, k4⟩ := ih _ s1 s' l hf.2 (by omega) h2
    exact ⟨⟨g, l, rfl, k1, k3⟩, by omega⟩
  | lsp vc len by' d i r p rest ih =>
    intro tl s s' gs hf hs h
    cases tl with
    | lst k esz body r' =>
      simp only [fit, Bool.and_eq_true, decide_eq_true_eq] at hf
      obtain ⟨g, s1, l, h1, h2, rfl⟩ := consD_some h
      have : (∃ isnil z y, g = .lst isnil z y ∧ (∀ e ∈ y, k.ty body.ty e) ∧ y.length ≤ 2147483647 ∧ (y = [] ∨ z = esz)) ∧ s1.src.length ≤ s.src.length := by
        split at h1
        · rw [← hf.1.2]
          exact decLst_ty hD (fun s g s' hs h => by
            simp only [Option.some.injEq] at h
            have e1 := hD.ty p x s hs
            have e2 := hD.prle p x s
            rw [h] at e1 e2
            exact ⟨fitE_ty hf.1.1 e1, e2⟩) hs h1
        · simp only [Option.some.injEq, Prod.mk.injEq] at h1
          obtain ⟨rfl, rfl⟩ := h1
          exact ⟨⟨_, _, [], rfl, by simp, by simp, .inl rfl⟩, Nat.le_refl _⟩
      obtain ⟨⟨isnil, z, y, rfl, k1, k2, k3⟩, k4⟩ := this
      obtain ⟨k5, k6⟩ := ih _ s1 s' l hf.2 (by omega) h2
      exact ⟨⟨isnil, z, y, l, rfl, k1, k2, k3, k5⟩, by omega⟩
    | _ => simp [fit] at hf
  | lss vc len by' z dfl body rest ihb ih =>
    intro tl s s' gs hf hs h
    cases tl with
    | lst k esz b r' =>
      cases k with
      | tell f =>
        simp only [fit, Bool.and_eq_true, decide_eq_true_eq] at hf
        obtain ⟨g, s1, l, h1, h2, rfl⟩ := consD_some h
        have : (∃ isnil z y, g = .lst isnil z y ∧ (∀ e ∈ y, (EK.tell f).ty b.ty e) ∧ y.length ≤ 2147483647 ∧ (y = [] ∨ z = esz)) ∧ s1.src.length ≤ s.src.length := by
          split at h1
          · rw [← hf.1.2]
            refine decLst_ty hD (fun s g s' hs h => ?_) hs h1
            unfold rcdD at h
            cases hd : body.dec D ver x s with
            | none => rw [hd] at h; simp at h
            | some q =>
              obtain ⟨gl, s2⟩ := q
              rw [hd] at h
              simp only [Option.some.injEq, Prod.mk.injEq] at h
              obtain ⟨rfl, rfl⟩ := h
              obtain ⟨k1, k2⟩ := ihb b s s2 gl hf.1.1 hs hd
              exact ⟨⟨gl, rfl, k1⟩, k2⟩
          · simp only [Option.some.injEq, Prod.mk.injEq] at h1
            obtain ⟨rfl, rfl⟩ := h1
            exact ⟨⟨_, _, [], rfl, by simp, by simp, .inl rfl⟩, Nat.le_refl _⟩
        obtain ⟨⟨isnil, z, y, rfl, k1, k2, k3⟩, k4⟩ := this
        obtain ⟨k5, k6⟩ := ih _ s1 s' l hf.2 (by omega) h2
        exact ⟨⟨isnil, z, y, l, rfl, k1, k2, k3, k5⟩, by omega⟩
      | num c => simp [fit] at hf
      | str => simp [fit] at hf
    | _ => simp [fit] at hf
  | sub vc dfl body rest ihb ih =>
    intro tl s s' gs hf hs h
    cases tl <;> simp only [fit, Bool.false_eq_true, Bool.and_eq_true] at hf
    obtain ⟨g, s1, l, h1, h2, rfl⟩ := consD_some h
    rename_i f n b r'
    have : (∃ x, g = .rcd x ∧ b.ty x) ∧ s1.src.length ≤ s.src.length := by
      split at h1
      · unfold rcdD at h1
        cases hd : body.dec D ver x s with
        | none => rw [hd] at h1; simp at h1
        | some q =>
          obtain ⟨gl, s2⟩ := q
          rw [hd] at h1
          simp only [Option.some.injEq, Prod.mk.injEq] at h1
          obtain ⟨rfl, rfl⟩ := h1
          obtain ⟨k1, k2⟩ := ihb b s s2 gl hf.1.1 hs hd
          exact ⟨⟨gl, rfl, k1⟩, k2⟩
      · simp only [Option.some.injEq, Prod.mk.injEq] at h1
        obtain ⟨rfl, rfl⟩ := h1
        exact ⟨⟨_, rfl, fit_dgv body b hf.1.1⟩, Nat.le_refl _⟩
    obtain ⟨⟨y, rfl, hy⟩, k2⟩ := this
    obtain ⟨k3, k4⟩ := ih _ s1 s' l hf.2 (by omega) h2
    exact ⟨⟨y, l, rfl, hy, k3, rfl⟩, by omega⟩
  | vst _ _ _ _ rest ih =>
    intro tl s s' gs hf hs h
    cases tl <;> simp only [fit, Bool.false_eq_true] at hf
  | uid vc f rest ih =>
    intro tl s s' gs hf hs h
    cases tl <;> simp only [fit, Bool.false_eq_true] at hf
    obtain ⟨g, s1, l, h1, h2, rfl⟩ := consD_some h
    have : (∃ x, g = .arr x ∧ x.length = 16) ∧ s1.src.length ≤ s.src.length := by
      split at h1
      · simp only [Option.some.injEq] at h1
        have e1 := hD.ty .uuid x s hs
        have e2 := hD.prle .uuid x s
        rw [h1] at e1 e2
        exact ⟨e1, e2⟩
      · simp only [Option.some.injEq, Prod.mk.injEq] at h1
        obtain ⟨rfl, rfl⟩ := h1
        exact ⟨⟨_, rfl, by simp⟩, Nat.le_refl _⟩
    obtain ⟨⟨y, rfl, hy⟩, k2⟩ := this
    obtain ⟨k3, k4⟩ := ih _ s1 s' l hf (by omega) h2
    exact ⟨⟨y, l, rfl, hy, k3⟩, by omega⟩
  | tags f =>
    intro tl s s' gs hf hs h
    cases tl <;> simp only [fit, Bool.false_eq_true] at hf
    simp only [Sc.dec] at h
    split at h
    · simp only [Option.some.injEq, Prod.mk.injEq] at h
      obtain ⟨rfl, rfl⟩ := h
      obtain ⟨k1, k2⟩ := hD.tagty s hs
      exact ⟨⟨_, rfl, k1, k2⟩, hD.tagle s⟩
    · simp only [Option.some.injEq, Prod.mk.injEq] at h
      obtain ⟨rfl, rfl⟩ := h
      exact ⟨⟨[], rfl, by simp, by simp⟩, Nat.le_refl _⟩
end Go.Msk

namespace Go.Msk
open Go.RowKit
set_option maxRecDepth 100000
def newvCode (z : List Value) (dfl : FuncId) : IC × List RV × Nat :=
  (.seq (.blk [⟨some 0, .alloc z, none⟩]) (.seq (.blk [⟨some 1, .alloc z, none⟩]) (.seq (.blk [⟨some 2, .call dfl [.tmp 1], none⟩]) (.seq (.blk [⟨some 3, .ldn (.tmp 1) z.length, none⟩, ⟨none, .st (.tmp 0) z.length (.tmp 3), none⟩]) .ret))), [.cells 0 z.length], 4)
def keptCode (newv rf tell : FuncId) (z : List Value) : IC × List RV × Nat :=
  (.seq (.blk [⟨some 2, .alloc tzero, none⟩, ⟨some 3, .mv (.const (.bool false)), none⟩])
   (.seq (.blk [⟨some 6, .call newv [], none⟩, ⟨some 4, .alloc z, none⟩, ⟨none, .st (.tmp 4) z.length (.tmp 6), none⟩])
   (.seq (.seq (.blk [⟨some 7, .mv (.tmp 0), none⟩, ⟨some 8, .append (.const (.slice none 0 0)) (.tmp 7) 1 1, none⟩, ⟨some 9, .call rf [.tmp 4, .tmp 8], none⟩, ⟨some 10, .isnil .ic true (.tmp 9), none⟩])
     (.cond (.tmp 10) (.seq (.blk [⟨some 11, .build tzero [], none⟩, ⟨none, .st (.tmp 2) 5 (.tmp 11), none⟩, ⟨some 3, .mv (.const (.bool false)), none⟩]) .ret) .skip))
   (.seq (.blk [⟨some 12, .call tell [.tmp 4], none⟩, ⟨some 5, .alloc tzero, none⟩, ⟨none, .st (.tmp 5) 5 (.tmp 12), none⟩])
   (.seq (.blk [⟨some 13, .fad (.tmp 4) 0, none⟩, ⟨some 14, .ld (.tmp 13), none⟩, ⟨some 15, .conv .i64 (.tmp 14), none⟩, ⟨some 16, .fad (.tmp 5) 0, none⟩, ⟨none, .st (.tmp 16) 1 (.tmp 15), none⟩])
   (.seq (.blk [⟨some 17, .ldn (.tmp 5) 5, none⟩, ⟨none, .st (.tmp 2) 5 (.tmp 17), none⟩, ⟨some 3, .mv (.const (.bool true)), none⟩]) .ret))))), [.cells 2 5, .tmp 3], 18)
def TR.setN (n : Int) : TR → TR
  | .mk _ s b l u => .mk n s b l u
def Top.tellsK (T : Top) (D : Dec) (src : List UInt8) : Option TR :=
  match T.dec D 0 ⟨src, false, src.isEmpty⟩ with
  | none => none
  | some ((v, gs), s) => if s.bad then none else some ((GV.rcd gs).told.setN v)
section
variable {P : Program} {D : Dec}
attribute [local simp] gOk updo upd ev RK.val? isShift intBin Addr.add_mk Value.cells undef
theorem newv_call (hm : P.follows .mixedOrders = true) {f dfl : FuncId} {z d : List Value} (h : liftF P f = some (newvCode z dfl)) (hd : DfC P dfl z d) (hl : d.length = z.length) (h1 : ∀ v ∈ d, v.oneCell' = true) {w : World} :
    Calls P f #[] w fun e w' => e = .returned (.agg d.toArray) ∧ Mod [] w w' := by
  unfold newvCode at h
  refine call_of (args := []) h hm (by simp) ?_
  clear h
  generalize args0 [] = σ0
  rw [wpC_seq, wpC_blk]
  refine wpR_run ?_
  intro T0
  have b0 := Blk.new w z T0
  have m0 : Mod [] w (w.alloc (.cells z.toArray T0)) := Mod.alloc _ _ _
  generalize w.alloc (.cells z.toArray T0) = w0 at b0 m0 ⊢
  refine wpR_done ?_
  rw [wpC_seq, wpC_blk]
  refine wpR_run ?_
  intro T1
  have b1 := Blk.new w0 z T1
  have m1 : Mod [] w0 (w0.alloc (.cells z.toArray T1)) := Mod.alloc _ _ _
  have hlt : w.heap.size < w0.heap.size := b0.lt
  generalize w0.alloc (.cells z.toArray T1) = w1 at b1 m1 ⊢
  refine wpR_done ?_
  rw [wpC_seq, wpC_blk]
  have hc := hd w1 w0.heap.size [] [] (by simpa using b1)
  refine wpR_call (vs := [.pointer (some ⟨w0.heap.size, 0, none⟩)]) rfl hc ?_
  rintro e w2 ⟨rfl, b2, m2⟩
  have b2 : Blk w2 w0.heap.size d := by simpa using b2
  refine ⟨_, rfl, ?_⟩
  refine wpR_done ?_
  rw [wpC_seq, wpC_blk]
  refine wpR_step (v := .agg d.toArray) (by
    simp only [RK.val?, ev, updo, upd, show (1 : Nat) ≠ 2 by omega, if_false, if_true, cellsAt_of' b2.cells hl, Option.map_some]) ?_
  have b02 : Blk w2 w.heap.size z := (b0.mod m1 (by simp)).mod m2 (by simp; omega)
  refine wpR_run ?_
  have ec : (Value.agg d.toArray).cells = d.toArray := rfl
  simp only [RK.run, ev, updo, upd, show (0 : Nat) ≠ 1 by omega, show (0 : Nat) ≠ 2 by omega, show (0 : Nat) ≠ 3 by omega, if_false, if_true, ec]
  have hput : Mod [w.heap.size] w2 (putCells w2 ⟨w.heap.size, 0, none⟩ 0 d) := Mod.put (by simp)
  have hp := b02.put (o := 0) (vs := d) (by simp [hl])
  rw [splice_all hl] at hp
  refine ⟨by simp [hl], stOk_many b02 (by simp [hl]) (by simpa using h1), ?_⟩
  refine wpR_done ?_
  simp only [wpC, postC, rvals, List.mapM_cons, List.mapM_nil, RV.val, updo, upd, show (0 : Nat) ≠ 1 by omega, show (0 : Nat) ≠ 2 by omega, show (0 : Nat) ≠ 3 by omega, if_false, if_true, cellsAt_of' hp.cells hl, Option.bind_eq_bind, Option.map_some, Option.bind_some, Option.pure_def, tup_one]
  refine ⟨trivial, ?_⟩
  have m02 : Mod [] w w2 := Mod.drop (b := w0.heap.size) (S := []) (((m0.trans m1).nil).trans m2) (by omega)
  exact Mod.drop (b := w.heap.size) (S := []) (m02.nil.trans hput) (Nat.le_refl _)
theorem RepT.setN {ok : Nat → Prop} {w : World} {t : TR} {cs : List Value} (h : RepT ok w t cs) (n : Int) : RepT ok w (t.setN n) (.int .i64 n :: cs.drop 1) := by
  cases h with
  | mk h1 h2 h3 h4 h5 => exact .mk h1 h2 h3 h4 h5
theorem RepT.head {ok : Nat → Prop} {w : World} {t : TR} {cs : List Value} (h : RepT ok w t cs) : ∃ n c, cs = .int .i64 n :: c ∧ c.length = 4 := by
  cases h with
  | mk h1 h2 h3 h4 h5 => exact ⟨_, _, rfl, rfl⟩
end
end Go.Msk

namespace Go.Msk
open Go.RowKit
set_option maxRecDepth 100000
section
variable {P : Program} {D : Dec}
attribute [local simp] gOk updo upd ev RK.val? isShift intBin Addr.add_mk Value.cells undef
theorem tellsK_none {T : Top} {src : List UInt8} (h : match T.dec D 0 ⟨src, false, src.isEmpty⟩ with | none => True | some (_, s) => s.bad = true) : T.tellsK D src = none := by
  unfold Top.tellsK
  revert h
  cases T.dec D 0 ⟨src, false, src.isEmpty⟩ with
  | none => intro _; rfl
  | some q => obtain ⟨⟨vr, gs⟩, s⟩ := q; intro h; simp only at h; simp only [h, if_true]
theorem keptRet {σ : Sl} {w w0 : World} {t b4 : Nat} {cs : List Value} {tr : TR} {b : Bool} (h4 : σ 2 = .pointer (some ⟨b4, 0, none⟩)) (hb : Blk w b4 tzero) (ht : σ t = .agg cs.toArray) (hrep : RepT (fun b => w0.heap.size ≤ b ∧ b ≠ b4) w tr cs)
    (hm : Mod [b4] w0 w) (hw0 : w0.heap.size ≤ b4) : wpR P [⟨none, .st (.tmp 2) 5 (.tmp t), none⟩, ⟨some 3, .mv (.const (.bool b)), none⟩] σ w
      (thenC (wpC P .ret (postC [.cells 2 5, .tmp 3] (fun e w' => Mod [] w0 w' ∧ ∃ cs, RepT (fun b => w0.heap.size ≤ b) w' tr cs ∧ e = .returned (.tuple #[.agg cs.toArray, .bool b]))))
        (postC [.cells 2 5, .tmp 3] (fun e w' => Mod [] w0 w' ∧ ∃ cs, RepT (fun b => w0.heap.size ≤ b) w' tr cs ∧ e = .returned (.tuple #[.agg cs.toArray, .bool b]))) .normal) := by
  have h5 := hrep.five
  have hput : Mod [b4] w (putCells w ⟨b4, 0, none⟩ 0 cs) := Mod.put (by simp)
  have hp := hb.put (o := 0) (vs := cs) (by simp [h5, tzero])
  rw [splice_all (by rw [h5]; rfl)] at hp
  have ec : (Value.agg cs.toArray).cells = cs.toArray := rfl
  refine wpR_run ?_
  simp only [RK.run, ev, h4, ht, ec]
  refine ⟨by simp [h5], stOk_many hb (by simp [h5, tzero]) (by simpa using hrep.oneCell), ?_⟩
  refine wpR_step (v := .bool b) rfl ?_
  refine wpR_done ?_
  simp only [wpC, postC, rvals, List.mapM_cons, List.mapM_nil, RV.val, updo, upd, show (2 : Nat) ≠ 3 by omega, if_false, if_true, h4, cellsAt_of' hp.cells h5, Option.bind_eq_bind, Option.map_some, Option.bind_some, Option.pure_def, tup]
  exact ⟨Mod.drop (b := b4) (S := []) (hm.trans hput) hw0, cs, hrep.mod hput (fun b hb hx => by simp only [List.mem_singleton] at hb; exact hx.2 hb) (fun b _ hb => hb.1), rfl⟩
theorem kept_call {T : Top} {g : Nat} {u : Bool} (hm : P.follows .mixedOrders = true) {f newv rf rd tell : FuncId} {z : List Value} {tl : Tl} (h : liftF P f = some (keptCode newv rf tell z)) (hn : liftF P newv = some (newvCode z T.dfl))
    (hz : DfC P T.dfl z (.int .i16 0 :: T.sc.dcs.flatten)) (hzl : T.sc.dcs.flatten.length + 1 = z.length) (hr : liftF P rf = some (rfCode rd u)) (hrd : liftF P rd = some T.gen) (hT : T.Ok P D g u) (htl : TellAt P tell 1 tl.ty)
    {w : World} {v : Value} {src : List UInt8} {ok : Nat → Prop} {Te : TypeId} {ve : Value} (hty : ∀ vr gs s, T.dec D 0 ⟨src, false, src.isEmpty⟩ = some ((vr, gs), s) → tl.ty gs)
    (hsrc : SlC ok w v src.length (u8s src)) (hl : src.length ≤ 70368744177664) (hg : GErr g w Te ve) (hi16 : ∀ vr gs s, T.dec D 0 ⟨src, false, src.isEmpty⟩ = some ((vr, gs), s) → IntKind.i64.wrap vr = vr) :
    Calls P f [v].toArray w fun e w' => Mod [] w w' ∧ ∃ cs, RepT (fun b => w.heap.size ≤ b) w' ((T.tellsK D src).getD .zero) cs ∧ e = .returned (.tuple #[.agg cs.toArray, .bool (T.tellsK D src).isSome]) := by
  unfold keptCode at h
  refine call_of h hm (by simp) ?_
  clear h
  have a0 : args0 [v] 0 = v := rfl
  generalize args0 [v] = σ0 at a0 ⊢
  have hone : ∀ y ∈ (Value.int .i16 0 :: T.sc.dcs.flatten), y.oneCell' = true := by
    have h := (Rep.rcd (Sc.drep [] w T.sc)).oneCell
    intro y hy
    rcases List.mem_cons.1 hy with rfl | hy
    · rfl
    · exact h y hy
  have hgl : g < w.heap.size := World.block_lt_of_cell? w ⟨g, 0, none⟩ hg
  rw [wpC_seq, wpC_blk]
  refine wpR_run ?_
  intro T1
  have bR := Blk.new w tzero T1
  have m1 : Mod [] w (w.alloc (.cells tzero.toArray T1)) := Mod.alloc _ _ _
  have z1 : (w.alloc (.cells tzero.toArray T1)).heap.size = w.heap.size + 1 := by simp
  generalize w.alloc (.cells tzero.toArray T1) = w1 at bR m1 z1 ⊢
  refine wpR_step (v := .bool false) rfl ?_
  refine wpR_done ?_
  -- the message
  rw [wpC_seq, wpC_blk]
  refine wpR_call (vs := []) rfl (newv_call hm hn hz (by simpa using hzl) hone) ?_
  rintro e w2 ⟨rfl, m12⟩
  refine ⟨_, rfl, ?_⟩
  refine wpR_run ?_
  intro T2
  obtain ⟨k1, k2, k3⟩ := new_put w2 z (.int .i16 0 :: T.sc.dcs.flatten) T2 (by simpa using hzl) hone
  generalize hw3 : w2.alloc (.cells z.toArray T2) = w3 at k1 k2 k3 ⊢
  refine wpR_run ?_
  have ec : (Value.agg (Value.int .i16 0 :: T.sc.dcs.flatten).toArray).cells = (Value.int .i16 0 :: T.sc.dcs.flatten).toArray := rfl
  simp only [RK.run, ev, updo, upd, if_true, show (6 : Nat) ≠ 4 by omega, if_false, ec]
  refine ⟨by simpa using hzl, k1, ?_⟩
  generalize putCells w3 ⟨w2.heap.size, 0, none⟩ 0 (Value.int .i16 0 :: T.sc.dcs.flatten) = w4 at k2 k3 ⊢
  refine wpR_done ?_
  have m14 : Mod [] w1 w4 := m12.trans k3
  have hs12 := m12.size
  have bR4 := bR.mod m14 (by simp)
  have m04 : Mod [] w w4 := m1.trans m14
  -- the octets
  rw [wpC_seq]
  rw [wpC_seq, wpC_blk]
  refine wpR_step (v := v) (by simp only [RK.val?, ev, upd, show (0 : Nat) ≠ 4 by omega, show (0 : Nat) ≠ 6 by omega, show (0 : Nat) ≠ 3 by omega, show (0 : Nat) ≠ 2 by omega, if_false, a0]) ?_
  refine wpR_run ?_
  refine appendNil_big (v := v) (by simp only [ev, updo, upd_same]) (hsrc.mod (ok' := ok) m04 (by simp) fun _ _ h => h) hl fun base cap w5 hby hnil hblk m45 => ?_
  have hb5 := k2.mod m45 (by simp)
  have hg5 : GErr g w5 Te ve := cell_mod (cell_mod hg m04 (by simp)) m45 (by simp)
  have hlt4 := k2.lt
  have hread := Top.read_call hm hrd hT hb5 hby (fun a ha => ⟨by have := (hblk a ha).1; omega, (hblk a ha).2⟩) (by omega) hg5 (by omega)
  rw [hnil] at hread
  refine wpR_call (vs := [.pointer (some ⟨w2.heap.size, 0, none⟩), .slice base src.length cap]) (by simp) (rf_call hm hr (R := fun e w' => Mod [w2.heap.size] w5 w' ∧
      match T.dec D 0 ⟨src, false, src.isEmpty⟩ with
      | none => e = .returned (.iface Te ve)
      | some ((v, gs), s) => e = .returned (errVal s.bad Te ve) ∧ ∃ css, RepL [w2.heap.size] w' gs css ∧ css.flatten.length = T.sc.dcs.flatten.length ∧ Blk w' w2.heap.size (.int .i16 v :: css.flatten)) (fun e w' he => ?_) hread) ?_
  · obtain ⟨-, he⟩ := he
    split at he
    · exact ⟨_, he⟩
    · exact ⟨_, he.1⟩
  rintro e w6 ⟨hm6, he⟩
  have m06 : Mod [] w w6 := Mod.drop (b := w2.heap.size) (S := []) ((m04.trans m45).nil.trans hm6) (by omega)
  have bR6 : Blk w6 w.heap.size tzero := (bR4.mod m45 (by simp)).mod hm6 (by simp; omega)
  have hs46 : w4.heap.size ≤ w6.heap.size := by have := m45.size; have := hm6.size; omega
  -- in vain
  have hbad : ∀ σ : Sl, σ 2 = .pointer (some ⟨w.heap.size, 0, none⟩) → (match T.dec D 0 ⟨src, false, src.isEmpty⟩ with | none => True | some (_, s) => s.bad = true) → ∀ N : Sl → World → Prop,
      wpC P (.seq (.blk [⟨some 11, .build tzero [], none⟩, ⟨none, .st (.tmp 2) 5 (.tmp 11), none⟩, ⟨some 3, .mv (.const (.bool false)), none⟩]) .ret)
        (thenC N (postC [.cells 2 5, .tmp 3] fun e w' => Mod [] w w' ∧ ∃ cs, RepT (fun b => w.heap.size ≤ b) w' ((T.tellsK D src).getD .zero) cs ∧ e = .returned (.tuple #[.agg cs.toArray, .bool (T.tellsK D src).isSome]))) σ w6 := by
    intro σ h2 hb N
    rw [tellsK_none hb]
    rw [wpC_seq, wpC_blk]
    refine wpR_step (v := .agg tzero.toArray) rfl ?_
    exact keptRet (tr := .zero) (by simp [h2]) bR6 (by simp) RepT.zero m06.nil (Nat.le_refl _)
  cases hd : T.dec D 0 ⟨src, false, src.isEmpty⟩ with
  | none =>
    rw [hd] at he hbad
    simp only at he
    refine ⟨_, he, ?_⟩
    refine wpR_step (v := .bool true) rfl ?_
    refine wpR_done ?_
    rw [wpC_cond_t rfl]
    exact hbad _ (by simp) trivial _
  | some q =>
    obtain ⟨⟨vr, gs⟩, s⟩ := q
    rw [hd] at he
    obtain ⟨he, css, hrep, hlen, hblk2⟩ := he
    refine ⟨_, he, ?_⟩
    cases hbd : s.bad with
    | true =>
      refine wpR_step (v := .bool true) rfl ?_
      refine wpR_done ?_
      rw [wpC_cond_t rfl]
      refine hbad _ (by simp) ?_ _
      rw [hd]; exact hbd
    | false =>
      clear hbad
      have htells : T.tellsK D src = some ((GV.rcd gs).told.setN vr) := by
        unfold Top.tellsK; rw [hd]; simp only [hbd, Bool.false_eq_true, if_false]
      rw [htells]
      refine wpR_step (v := .bool false) rfl ?_
      refine wpR_done ?_
      rw [wpC_cond_f rfl, wpC_skip]
      simp only [thenC]
      have hc : Cells w6 ⟨w2.heap.size, 0 + 1, none⟩ css.flatten := by simpa using hblk2.cells.sub 1
      generalize hσ : updo _ (some 10) _ = σ1
      have s4 : σ1 4 = .pointer (some ⟨w2.heap.size, 0, none⟩) := by rw [← hσ]; simp
      have s2 : σ1 2 = .pointer (some ⟨w.heap.size, 0, none⟩) := by rw [← hσ]; simp
      clear hσ
      rw [wpC_seq, wpC_blk]
      refine wpR_call (vs := [.pointer (some ⟨w2.heap.size, 0, none⟩)]) (by simp [s4]) (htl [w2.heap.size] w6 w2.heap.size 0 gs css (hty _ _ _ hd) hrep hblk2.lt hc) ?_
      rintro e w7 ⟨cs, rfl, hrt, m67⟩
      refine ⟨_, rfl, ?_⟩
      refine wpR_run ?_
      intro T3
      obtain ⟨q1, q2, q3⟩ := new_put w7 tzero cs T3 (by rw [hrt.five]; rfl) hrt.oneCell
      generalize hw8 : w7.alloc (.cells tzero.toArray T3) = w8 at q1 q2 q3 ⊢
      refine wpR_run ?_
      have ec : (Value.agg cs.toArray).cells = cs.toArray := rfl
      simp only [RK.run, ev, updo, upd, if_true, show (12 : Nat) ≠ 5 by omega, if_false, ec]
      refine ⟨by simp [hrt.five], q1, ?_⟩
      generalize putCells w8 ⟨w7.heap.size, 0, none⟩ 0 cs = w9 at q2 q3 ⊢
      refine wpR_done ?_
      have m69 : Mod [] w6 w9 := m67.trans q3
      have hblk9 := hblk2.mod m69 (by simp)
      have bR9 := bR6.mod m69 (by simp)
      have hs67 := m67.size
      obtain ⟨n0, c4, rfl, hc4⟩ := hrt.head
      rw [wpC_seq, wpC_blk]
      refine wpR_step (v := .pointer (some ⟨w2.heap.size, 0, none⟩)) (by simp [s4]) ?_
      refine wpR_step (v := .int .i16 vr) (by simp [hblk9.cell 0]) ?_
      refine wpR_step (v := .int .i64 vr) (by simp [hi16 _ _ _ hd]) ?_
      refine wpR_step (v := .pointer (some ⟨w7.heap.size, 0, none⟩)) (by simp) ?_
      refine wpR_run ?_
      have e1 : (Value.int .i64 vr).cells = #[.int .i64 vr] := rfl
      simp only [RK.run, ev, updo, upd, if_true, show (15 : Nat) ≠ 16 by omega, if_false, e1]
      have hput : Mod [w7.heap.size] w9 (putCells w9 ⟨w7.heap.size, 0, none⟩ 0 [.int .i64 vr]) := Mod.put (by simp)
      have hp := q2.put (o := 0) (vs := [.int .i64 vr]) (by simp)
      have e2 : splice (Value.int .i64 n0 :: c4) 0 [.int .i64 vr] = .int .i64 vr :: c4 := by simp [splice]
      rw [e2] at hp
      refine ⟨rfl, stOk_many q2 (by simp) (by simp [Value.oneCell']), ?_⟩
      generalize putCells w9 ⟨w7.heap.size, 0, none⟩ 0 [.int .i64 vr] = w10 at hp hput ⊢
      refine wpR_done ?_
      have m710 : Mod [] w7 w10 := Mod.drop (b := w7.heap.size) (S := []) (q3.nil.trans hput) (Nat.le_refl _)
      rw [wpC_seq, wpC_blk]
      refine wpR_step (v := .agg (Value.int .i64 vr :: c4).toArray) (by
        simp only [RK.val?, ev, updo, upd, show (5 : Nat) ≠ 16 by omega, show (5 : Nat) ≠ 15 by omega, show (5 : Nat) ≠ 14 by omega, show (5 : Nat) ≠ 13 by omega, show (5 : Nat) ≠ 12 by omega, if_false, if_true, cellsAt_of' hp.cells (show _ = 5 by simp [hc4]), Option.map_some]) ?_
      have hrt10 : RepT (fun b => w6.heap.size ≤ b) w10 ((GV.rcd gs).told.setN vr) (.int .i64 vr :: c4) := (hrt.mod m710 (by simp) fun _ _ h => h).setN vr
      refine keptRet (by simp [s2]) (bR6.mod (m67.trans m710) (by simp)) (by simp) (hrt10.mod (Mod.refl [] _) (by simp) fun b _ hb => ?_) ((m06.trans (m67.trans m710)).nil) (Nat.le_refl _)
      have := bR6.lt; omega
end
end Go.Msk

namespace Go.Msk
open Go.RowKit
set_option maxRecDepth 100000
def lim : Nat := 70368744177664
def ownB : Value → Option Nat
  | .slice (some a) _ _ => some a.block
  | _ => none
structure DRaw (w : World) (n0 : Nat) (v : Value) (l : List UInt8) : Prop where
  sl : (v = .slice none 0 0 ∧ l = []) ∨ ∃ B cap rest, v = .slice (some ⟨B, 0, none⟩) l.length cap ∧ l.length ≤ cap ∧ n0 ≤ B ∧ Blk w B (u8s l ++ rest) ∧ rest.length = cap - l.length
theorem DRaw.mod {w w' : World} {n0 : Nat} {v : Value} {l : List UInt8} {S : List Nat} (h : DRaw w n0 v l) (hm : Mod S w w') (hS : ∀ b, ownB v = some b → b ∉ S) : DRaw w' n0 v l :=
  ⟨h.sl.imp id fun ⟨B, cap, rest, h1, h2, h3, h4, h5⟩ => ⟨B, cap, rest, h1, h2, h3, h4.mod hm (hS _ (by rw [h1]; rfl)), h5⟩⟩
theorem DRaw.own {w : World} {n0 : Nat} {v : Value} {l : List UInt8} (h : DRaw w n0 v l) {b : Nat} (hb : ownB v = some b) : n0 ≤ b ∧ b < w.heap.size := by
  rcases h.sl with ⟨rfl, -⟩ | ⟨B, cap, rest, rfl, -, h3, h4, -⟩
  · simp [ownB] at hb
  · simp only [ownB, Option.some.injEq] at hb; subst hb; exact ⟨h3, h4.lt⟩
theorem DRaw.slc {w : World} {n0 : Nat} {v : Value} {l : List UInt8} (h : DRaw w n0 v l) : SlC (fun b => n0 ≤ b) w v l.length (u8s l) := by
  rcases h.sl with ⟨rfl, rfl⟩ | ⟨B, cap, rest, rfl, h2, h3, h4, -⟩
  · exact SlC.nil
  · refine ⟨_, cap, rfl, h2, fun h => by simp at h, fun a ha _ => ?_⟩
    simp only [Option.some.injEq] at ha; subst ha
    refine ⟨h3, h4.lt, ?_⟩
    have := h4.cells.take (u8s l).length
    simpa using this
structure AppD (n0 : Nat) (w : World) (v : Value) (w' : World) (v' : Value) (l : List UInt8) : Prop where
  raw : DRaw w' n0 v' l
  mod : Mod (ownB v).toList w w'
  own : ∀ b, ownB v' = some b → ownB v = some b ∨ w.heap.size ≤ b
theorem AppD.refl {n0 : Nat} {w : World} {v : Value} {l : List UInt8} (h : DRaw w n0 v l) : AppD n0 w v w v l := ⟨h, Mod.refl _ _, fun _ h => .inl h⟩
theorem AppD.trans {n0 : Nat} {w w1 w2 : World} {v v1 v2 : Value} {l1 l2 : List UInt8} (h : AppD n0 w v w1 v1 l1) (k : AppD n0 w1 v1 w2 v2 l2) : AppD n0 w v w2 v2 l2 := by
  refine ⟨k.raw, ?_, fun b hb => ?_⟩
  · cases ho : ownB v1 with
    | none => have := k.mod; rw [ho] at this; exact h.mod.trans this.nil
    | some b =>
      have km := k.mod
      rw [ho] at km
      rcases h.own b ho with h1 | h1
      · have hm := h.mod
        rw [h1] at hm ⊢
        exact hm.trans km
      · refine Mod.drop (b := b) (S := (ownB v).toList) ?_ h1
        exact (h.mod.mono (by intro x hx; exact List.mem_cons_of_mem _ hx)).trans (km.mono (by simp))
  · rcases k.own b hb with h1 | h1
    · exact h.own b h1
    · exact .inr (Nat.le_trans h.mod.size h1)
theorem AppD.pre {n0 : Nat} {w w1 w2 : World} {v v1 : Value} {l : List UInt8} (hm : Mod [] w w1) (h : AppD n0 w1 v w2 v1 l) : AppD n0 w v w2 v1 l :=
  ⟨h.raw, hm.nil.trans h.mod, fun b hb => (h.own b hb).imp id fun h => Nat.le_trans hm.size h⟩
section
variable {P : Program}
theorem append_run {σ : Sl} {w : World} {x y : Operand} {v : Value} {l k : List UInt8} {n0 : Nat} {K : Value → World → Prop} (hx : ev σ x = v) (hv : DRaw w n0 v l) (hn0 : n0 ≤ w.heap.size) (hy : srcCells w 1 (ev σ y) = some (k.length, u8s k))
    (hl : l.length + k.length ≤ lim) (hK : ∀ v' w', AppD n0 w v w' v' (l ++ k) → K v' w') : (RK.append x y 1 1).run P σ w K := by
  unfold lim at hl
  simp only [RK.run, hx]
  rcases hv.sl with ⟨rfl, rfl⟩ | ⟨B, cap, rest, rfl, h2, h3, h4, hr⟩
  · simp only [hy, appendRun]
    by_cases hk : k.length = 0
    · have : k = [] := List.length_eq_zero_iff.1 hk
      subst this
      simp only [List.length_nil, Nat.add_zero, Nat.le_refl, if_true]
      exact hK _ _ (AppD.refl ⟨.inl ⟨rfl, rfl⟩⟩)
    · rw [if_neg (by omega)]
      refine ⟨by omega, by omega, ?_⟩
      intro T cap rest hc hr
      have hb := Blk.new w.drew (u8s k ++ rest) T
      refine hK _ _ ⟨⟨.inr ⟨w.heap.size, cap, rest, by simp, by simpa using hc, hn0, by simpa using hb, by simpa using hr⟩⟩, (Mod.drew _ _).trans (Mod.alloc _ _ _), fun b hb => ?_⟩
      simp only [ownB, Option.some.injEq] at hb; subst hb; exact .inr (Nat.le_refl _)
  · simp only [hy, appendRun]
    by_cases hc : l.length + k.length ≤ cap
    · rw [if_pos hc]
      simp only [Addr.add_mk, Nat.zero_add, Nat.mul_one]
      have hone : ∀ v ∈ u8s k, v.oneCell' = true := fun v hv => by simp only [u8s, List.mem_map] at hv; obtain ⟨b, -, rfl⟩ := hv; rfl
      refine ⟨stOk_many h4 (by simp only [List.length_append, u8s_length]; omega) hone, hK _ _ ⟨⟨.inr ⟨B, cap, rest.drop k.length, by simp, by simpa using hc, h3, ?_, by simp; omega⟩⟩, by simpa [ownB] using Mod.put (by simp), fun b hb => .inl (by simpa [ownB] using hb)⟩⟩
      have hput := h4.put (o := l.length) (vs := u8s k) (by simp only [List.length_append, u8s_length]; omega)
      have e : splice (u8s l ++ rest) l.length (u8s k) = u8s (l ++ k) ++ rest.drop k.length := by
        rw [splice_end (u8s_length l), u8s_length, show u8s (l ++ k) = u8s l ++ u8s k by simp [u8s], List.append_assoc]
      rwa [e] at hput
    · rw [if_neg hc]
      refine ⟨by omega, by omega, ?_⟩
      have hco : cellsAt w ⟨B, 0, none⟩ 0 (l.length * 1) = some (u8s l) := by
        have := h4.cells.take (u8s l).length
        rw [List.take_left] at this
        exact cellsAt_of' this (by rw [u8s_length, Nat.mul_one])
      simp only [hco]
      intro T cap' rest' hc' hr'
      have hb := Blk.new w.drew (u8s l ++ (u8s k ++ rest')) T
      refine hK _ _ ⟨⟨.inr ⟨w.heap.size, cap', rest', by simp, by simpa using hc', hn0, ?_, by simp; omega⟩⟩, ((Mod.drew [] _).trans (Mod.alloc _ _ _)).nil, fun b hb => ?_⟩
      · have e : u8s (l ++ k) = u8s l ++ u8s k := by simp [u8s]
        rw [e, List.append_assoc]; exact hb
      · simp only [ownB, Option.some.injEq] at hb; subst hb; exact .inr (Nat.le_refl _)
end
end Go.Msk

namespace Go.Msk
open Go.RowKit
set_option maxRecDepth 100000
def beI : Nat → Int → List UInt8
  | 0, _ => []
  | k + 1, n => UInt8.ofNat ((n / 256 ^ k) % 256).toNat :: beI k n
theorem beI_length : ∀ (k : Nat) (n : Int), (beI k n).length = k
  | 0, _ => rfl
  | k + 1, n => by simp [beI, beI_length k n]
theorem u8v (n : Int) (_h : 0 ≤ n) : Value.int .u8 (IntKind.u8.wrap n) = Value.int .u8 ((UInt8.ofNat (n % 256).toNat).toNat : Int) := by
  have e : IntKind.u8.wrap n = n % 256 := by
    simp only [IntKind.wrap, IntKind.bits, IntKind.signed]; simp
  have h2 : 0 ≤ n % 256 := Int.emod_nonneg _ (by omega)
  have h3 : n % 256 < 256 := Int.emod_lt_of_pos _ (by omega)
  rw [e, Value.int.injEq]
  refine ⟨rfl, ?_⟩
  have : (UInt8.ofNat (n % 256).toNat).toNat = (n % 256).toNat := by simp; omega
  rw [this]; omega
theorem u8vz (n : Int) : Value.int .u8 (IntKind.u8.wrap n) = Value.int .u8 ((UInt8.ofNat (n % 256).toNat).toNat : Int) := by
  have e : IntKind.u8.wrap n = n % 256 := by
    simp only [IntKind.wrap, IntKind.bits, IntKind.signed]; simp
  have h2 : 0 ≤ n % 256 := Int.emod_nonneg _ (by omega)
  have h3 : n % 256 < 256 := Int.emod_lt_of_pos _ (by omega)
  rw [e, Value.int.injEq]
  refine ⟨rfl, ?_⟩
  have : (UInt8.ofNat (n % 256).toNat).toNat = (n % 256).toNat := by simp; omega
  rw [this]; omega
section
variable {P : Program} {F : Nat → Nat}
theorem bsliceB_run {σ : Sl} {w : World} {n : Nat} {l : List (Nat × Nat × Operand)} {bs : List UInt8} {K : Value → World → Prop} (hf : fillL (zrep n [.int .u8 0]) (l.map fun (o, k, x) => (o, k, ev σ x)) = some (u8s bs)) (hn : bs.length = n)
    (hK : ∀ v w', srcCells w' 1 v = some (bs.length, u8s bs) → Mod [] w w' → K v w') : (RK.bslice n [.int .u8 0] l).run P σ w K := by
  simp only [RK.run]
  rw [hf]
  intro T
  have hb := Blk.new w (u8s bs) T
  refine hK _ _ ?_ (Mod.alloc _ _ _)
  simp only [srcCells, Nat.mul_one]
  rw [cellsAt_of' hb.cells (by rw [u8s_length, hn])]
  simp [hn]
end
end Go.Msk

namespace Go.Msk
open Go.RowKit
set_option maxRecDepth 100000
def uvE (n : Nat) : List UInt8 := if n < 128 then [UInt8.ofNat n] else UInt8.ofNat (n % 128 + 128) :: uvE (n / 128)
termination_by n
decreasing_by omega
theorem uvE_small {n : Nat} (h : n < 128) : uvE n = [UInt8.ofNat n] := by rw [uvE, if_pos h]
theorem uvE_big {n : Nat} (h : 128 ≤ n) : uvE n = UInt8.ofNat (n % 128 + 128) :: uvE (n / 128) := by rw [uvE, if_neg (by omega)]
theorem u8_conv {x : Nat} (h : x < 256) : Value.int .u8 (IntKind.u8.wrap (x : Int)) = .int .u8 ((UInt8.ofNat x).toNat : Int) := by
  rw [u8vz]
  have : ((x : Int) % 256).toNat = x := by omega
  rw [this]
section
variable {P : Program} {F : Nat → Nat}
end
end Go.Msk

namespace Go.Msk
open Go.RowKit
set_option maxRecDepth 100000
section
variable {P : Program}
theorem go1 {k : RK} {d : Option Nat} {g : Option (Nat × Bool)} {r : List RI} {σ : Sl} {w : World} {v : Value} {Q : Sl → World → Prop} (hg : gOk g σ = true) (hv : k.val? σ w = some v) (h : wpR P r (updo σ d v) w Q) : wpR P (⟨d, k, g⟩ :: r) σ w Q := by
  simp only [wpR, RI.wp, hg, if_true]
  exact run_of_val hv h
theorem go0 {k : RK} {d : Option Nat} {g : Nat × Bool} {r : List RI} {σ : Sl} {w : World} {Q : Sl → World → Prop} (hg : gOk (some g) σ = false) (h : wpR P r (updo σ d undef) w Q) : wpR P (⟨d, k, some g⟩ :: r) σ w Q := by
  simp only [wpR, RI.wp, hg]; exact h
theorem goC {k : RK} {d : Option Nat} {g : Option (Nat × Bool)} {r : List RI} {σ : Sl} {w : World} {Q : Sl → World → Prop} (hg : gOk g σ = true) (h : k.run P σ w fun v w' => wpR P r (updo σ d v) w' Q) : wpR P (⟨d, k, g⟩ :: r) σ w Q := by
  simp only [wpR, RI.wp, hg, if_true]; exact h
theorem goBox {x : Operand} {d : Option Nat} {r : List RI} {σ : Sl} {w : World} {v : Value} {Q : Sl → World → Prop} (hx : ev σ x = v)
    (h : ∀ w', Blk w' w.heap.size v.cells.toList → Mod [] w w' → wpR P r (updo σ d (.pointer (some ⟨w.heap.size, 0, none⟩))) w' Q) : wpR P (⟨d, .box x, none⟩ :: r) σ w Q := by
  subst hx
  refine wpR_run ?_
  intro T
  exact h _ (Blk.new w _ T) (Mod.alloc _ _ _)
theorem goAlloc {z : List Value} {d : Option Nat} {r : List RI} {σ : Sl} {w : World} {Q : Sl → World → Prop}
    (h : ∀ w', Blk w' w.heap.size z → Mod [] w w' → wpR P r (updo σ d (.pointer (some ⟨w.heap.size, 0, none⟩))) w' Q) : wpR P (⟨d, .alloc z, none⟩ :: r) σ w Q := by
  refine wpR_run ?_
  intro T
  exact h _ (Blk.new w _ T) (Mod.alloc _ _ _)
theorem goOne {x : Operand} {n : Nat} {z cs : List Value} {d : Option Nat} {r : List RI} {σ : Sl} {w : World} {Q : Sl → World → Prop} (hx : (ev σ x).cells.toList = cs) (hn : cs.length = n) (hz : z.length = n)
    (h : ∀ w', Blk w' w.heap.size cs → Mod [] w w' → wpR P r (updo σ d (.slice (some ⟨w.heap.size, 0, none⟩) 1 1)) w' Q) : wpR P (⟨d, .bslice 1 z [(0, n, x)], none⟩ :: r) σ w Q := by
  refine wpR_run ?_
  have hl : (ev σ x).cells.size = n := by rw [← hn, ← hx]; simp
  have e1 : fillL (zrep 1 z) [(0, n, ev σ x)] = some cs := by
    simp only [fillL, zrep, List.replicate, List.flatten_cons, List.flatten_nil, List.append_nil]
    rw [if_pos ⟨hl, by omega⟩, hx]
    simp [splice, hn, hz]
  simp only [RK.run, List.map_cons, List.map_nil, e1]
  intro T
  exact h _ (Blk.new w _ T) (Mod.alloc _ _ _)
theorem goSt {a x : Operand} {n b : Nat} {r : List RI} {σ : Sl} {w : World} {v : Value} {cs : List Value} {Q : Sl → World → Prop} (ha : ev σ a = .pointer (some ⟨b, 0, none⟩)) (hx : ev σ x = v) (hb : Blk w b cs) (hn : v.cells.size = n) (hl : cs.length = n)
    (h1 : ∀ y ∈ v.cells.toList, y.oneCell' = true) (h : ∀ w', Blk w' b v.cells.toList → Mod [b] w w' → wpR P r σ w' Q) : wpR P (⟨none, .st a n x, none⟩ :: r) σ w Q := by
  subst hx
  refine wpR_run ?_
  have hl' : (ev σ x).cells.toList.length = n := by simpa using hn
  simp only [RK.run, ha]
  refine ⟨hn, stOk_many hb (by omega) h1, h _ ?_ (Mod.put (by simp))⟩
  have := hb.put (o := 0) (vs := (ev σ x).cells.toList) (by omega)
  have e : splice cs 0 (ev σ x).cells.toList = (ev σ x).cells.toList := by simp [splice, hl, hl']
  rwa [e] at this
theorem goCall {f : FuncId} {args : List Operand} {d : Option Nat} {g : Option (Nat × Bool)} {r : List RI} {σ : Sl} {w : World} {Q : Sl → World → Prop} {R : Ending → World → Prop} {vs : List Value} (hg : gOk g σ = true) (ha : args.map (ev σ) = vs) (hc : Calls P f vs.toArray w R)
    (hk : ∀ e w', R e w' → ∃ v, e = .returned v ∧ wpR P r (updo σ d v) w' Q) : wpR P (⟨d, .call f args, g⟩ :: r) σ w Q := by
  subst ha
  refine goC hg ?_
  exact hc.mono fun e w' he => hk e w' he
theorem goEnd {Q : Sl → World → Prop} {σ : Sl} {w : World} (h : Q σ w) : wpR P [] σ w Q := h
theorem bo1 {l : List DI} {Φ : Nat → Value → World → Prop} {w0 : World} {E : Sl → Prop} {n : Nat} {k : RK} {d : Option Nat} {g : Option (Nat × Bool)} {ds : List Nat} {r : List DI} {σ : Sl} {v : Value} (hg : gOk g σ = true) (hv : k.val? σ w0 = some v)
    (h : walkB P l Φ w0 E (n + 1) r (updo σ d v)) : walkB P l Φ w0 E n (⟨⟨d, k, g⟩, false, ds⟩ :: r) σ := by
  simp only [walkB, hg, if_true, hv, Bool.false_eq_true, if_false]
  exact h
theorem bo0 {l : List DI} {Φ : Nat → Value → World → Prop} {w0 : World} {E : Sl → Prop} {n : Nat} {k : RK} {d : Option Nat} {g : Nat × Bool} {nd : Bool} {ds : List Nat} {r : List DI} {σ : Sl} (hg : gOk (some g) σ = false)
    (h : walkB P l Φ w0 E (n + 1) r (updo σ d undef)) : walkB P l Φ w0 E n (⟨⟨d, k, some g⟩, nd, ds⟩ :: r) σ := by
  simp only [walkB, hg, Bool.false_eq_true, if_false]
  exact h
theorem boN {l : List DI} {Φ : Nat → Value → World → Prop} {w0 : World} {E : Sl → Prop} {n : Nat} {k : RK} {d : Option Nat} {g : Option (Nat × Bool)} {ds : List Nat} {r : List DI} {σ : Sl} (hg : gOk g σ = true)
    (hn : ∀ w, Mod [] w0 w → known l Φ ds σ w → k.run P σ w fun v w' => Mod [] w w' ∧ Φ n v w') (h : ∀ v, (∃ w, Φ n v w) → walkB P l Φ w0 E (n + 1) r (updo σ d v)) : walkB P l Φ w0 E n (⟨⟨d, k, g⟩, true, ds⟩ :: r) σ := by
  simp only [walkB, hg, if_true]
  exact ⟨hn, h⟩
theorem boCall {l : List DI} {Φ : Nat → Value → World → Prop} {w0 : World} {E : Sl → Prop} {n : Nat} {f : FuncId} {args : List Operand} {d : Option Nat} {g : Option (Nat × Bool)} {ds : List Nat} {r : List DI} {σ : Sl} {vs : List Value} (hg : gOk g σ = true) (ha : args.map (ev σ) = vs)
    (hn : ∀ w, Mod [] w0 w → known l Φ ds σ w → Calls P f vs.toArray w fun e w' => ∃ v, e = .returned v ∧ Mod [] w w' ∧ Φ n v w') (h : ∀ v, (∃ w, Φ n v w) → walkB P l Φ w0 E (n + 1) r (updo σ d v)) :
    walkB P l Φ w0 E n (⟨⟨d, .call f args, g⟩, true, ds⟩ :: r) σ := by
  subst ha
  exact boN hg (fun w hm hk => hn w hm hk) h
theorem known_get {l : List DI} {Φ : Nat → Value → World → Prop} {js : List Nat} {σ : Sl} {w : World} {j t : Nat} {d : DI} (h : known l Φ js σ w) (hj : j ∈ js) (hd : l[j]? = some d) (hn : d.node = true) (hg : gOk d.ri.guard σ = true) (ht : d.ri.dst = some t) : Φ j (σ t) w :=
  h j hj d hd hn hg t ht
theorem ret1 {t : Nat} {R : Ending → World → Prop} {σ : Sl} {w : World} {v : Value} (hv : σ t = v) (h : R (.returned v) w) : wpC P .ret (postC [.tmp t] R) σ w := by
  subst hv
  simp only [wpC, postC, rvals, List.mapM_cons, List.mapM_nil, RV.val, Option.bind_eq_bind, Option.bind_some, Option.pure_def, tup_one]
  exact h
theorem post1 {t : Nat} {R : Ending → World → Prop} {σ : Sl} {w : World} {v : Value} (hv : σ t = v) (h : R (.returned v) w) : postC [.tmp t] R .ret σ w := by
  subst hv
  simp only [postC, rvals, List.mapM_cons, List.mapM_nil, RV.val, Option.bind_eq_bind, Option.bind_some, Option.pure_def, tup_one]
  exact h
theorem retN {t n b : Nat} {R : Ending → World → Prop} {σ : Sl} {w : World} {cs : List Value} (ht : σ t = .pointer (some ⟨b, 0, none⟩)) (hb : Blk w b cs) (hn : cs.length = n) (h : R (.returned (.agg cs.toArray)) w) : wpC P .ret (postC [.cells t n] R) σ w := by
  have hc := cellsAt_of' hb.cells hn
  simp only [wpC, postC, rvals, List.mapM_cons, List.mapM_nil, RV.val, ht, hc, Option.map_some, Option.bind_eq_bind, Option.bind_some, Option.pure_def, tup_one]
  exact h
theorem wpR_mono {Q Q' : Sl → World → Prop} (hQ : ∀ σ w, Q σ w → Q' σ w) : ∀ (l : List RI) (σ : Sl) (w : World), wpR P l σ w Q → wpR P l σ w Q'
  | [], σ, w, h => hQ σ w h
  | i :: r, σ, w, h => by
    simp only [wpR, RI.wp] at h ⊢
    split at h
    · rename_i hg; rw [if_pos hg]; exact run_mono h fun v w' hk => wpR_mono hQ r _ _ hk
    · rename_i hg; rw [if_neg hg]; exact wpR_mono hQ r _ _ h
theorem walk_mono {l : List DI} {R : World → World → Prop} {Φ : Nat → Value → World → Prop} {N : Nat → World → Prop} {w0 : World} {E E' : Sl → Prop} (hE : ∀ σ, E σ → E' σ) : ∀ (r : List DI) (k : Nat) (σ : Sl),
    walk P l R Φ N w0 E k r σ → walk P l R Φ N w0 E' k r σ
  | [], _, σ, h => hE σ h
  | d :: r, k, σ, h => by
    simp only [walk] at h ⊢
    split at h
    · rename_i hg; rw [if_pos hg]
      split at h
      · rename_i hn; rw [if_pos hn]; exact ⟨h.1, fun v hv => walk_mono hE r _ _ (h.2 v hv)⟩
      · rename_i hn; rw [if_neg hn]; obtain ⟨v, h1, h2⟩ := h; exact ⟨v, h1, walk_mono hE r _ _ h2⟩
    · rename_i hg; rw [if_neg hg]; exact walk_mono hE r _ _ h
theorem wpD_mono {l : List DI} {s : List RI} {σ : Sl} {w : World} {Q Q' : Sl → World → Prop} (hQ : ∀ σ w, Q σ w → Q' σ w) (h : wpD P l s σ w Q) : wpD P l s σ w Q' := by
  obtain ⟨R, Φ, N, h1, h2, h3, h4, h5⟩ := h
  exact ⟨R, Φ, N, h1, h2, h3, h4, walk_mono (fun σ h w hr hk => wpR_mono hQ s σ w (h w hr hk)) _ _ _ h5⟩
theorem thenC_mono {N N' : Sl → World → Prop} {Q Q' : Exit → Sl → World → Prop} (hN : ∀ σ w, N σ w → N' σ w) (hQ : ∀ e σ w, Q e σ w → Q' e σ w) : ∀ e σ w, thenC N Q e σ w → thenC N' Q' e σ w := by
  intro e σ w h
  cases e with
  | normal => exact hN σ w h
  | _ => exact hQ _ σ w h
theorem wpC_mono {Q Q' : Exit → Sl → World → Prop} (hQ : ∀ e σ w, Q e σ w → Q' e σ w) {c : IC} {σ : Sl} {w : World} (h : wpC P c Q σ w) : wpC P c Q' σ w := by
  induction c generalizing Q Q' σ w with
  | skip => exact hQ _ _ _ h
  | ret => exact hQ _ _ _ h
  | blk l => exact wpR_mono (hQ .normal) l σ w h
  | drw l s => exact wpD_mono (hQ .normal) h
  | seq a b iha ihb => exact iha (thenC_mono (fun σ w h => ihb hQ h) hQ) h
  | cond c a b iha ihb =>
    simp only [wpC] at h ⊢
    split at h
    · exact iha hQ h
    · exact ihb hQ h
    · exact h.elim
  | block id a ih =>
    refine ih (fun e σ w h => ?_) h
    cases e with
    | exit i => simp only [inBlockC] at h ⊢; split at h <;> rename_i hi <;> simp only [hi, if_true, if_false] <;> exact hQ _ _ _ h
    | _ => exact hQ _ _ _ h
  | loop a ih =>
    obtain ⟨I, μ, h0, h1⟩ := h
    exact ⟨I, μ, h0, fun σ w hi => ih (thenC_mono (fun _ _ h => h) hQ) (h1 σ w hi)⟩
  | exit id => exact hQ _ _ _ h
  | goto l => exact hQ _ _ _ h
  | scope a ih =>
    refine ih (fun e σ w h => ?_) h
    cases e with
    | goto l => exact h.elim
    | _ => exact hQ _ _ _ h
  | scopeTo a l r iha ihr =>
    refine iha (fun e σ w h => ?_) h
    cases e with
    | goto l' => exact ⟨h.1, ihr (fun e σ w h => by cases e with | goto l => exact h.elim | _ => exact hQ _ _ _ h) h.2⟩
    | _ => exact hQ _ _ _ h
  | rnd d1 d2 => exact fun c T => hQ _ _ _ (h c T)
  | bad => exact h
theorem retThen {N : Sl → World → Prop} {Q : Exit → Sl → World → Prop} {σ : Sl} {w : World} (h : wpC P .ret Q σ w) : wpC P .ret (thenC N Q) σ w := h
theorem retBlk {id : Nat} {Q : Exit → Sl → World → Prop} {σ : Sl} {w : World} (h : wpC P .ret Q σ w) : wpC P .ret (inBlockC id Q) σ w := h
def rngP (bid bid1 c nx j : Nat) (I : Nat → Sl → World → Prop) (Q : Exit → Sl → World → Prop) : Exit → Sl → World → Prop
  | .normal, σ, w => σ c = .int .i64 (j : Nat) ∧ I (j + 1) (upd (upd σ nx (.int .i64 ((j + 1 : Nat) : Int))) c (.int .i64 ((j + 1 : Nat) : Int))) w
  | .exit i, σ, w => if i = bid1 then σ c = .int .i64 (j : Nat) ∧ I (j + 1) (upd (upd σ nx (.int .i64 ((j + 1 : Nat) : Int))) c (.int .i64 ((j + 1 : Nat) : Int))) w else if i = bid then Q .normal σ w else Q (.exit i) σ w
  | e, σ, w => Q e σ w
theorem i64_nat {n : Nat} (h : n < 9223372036854775808) : IntKind.i64.wrap (n : Int) = n := by
  simp only [IntKind.wrap, IntKind.bits, IntKind.signed]
  simp
  omega
theorem rangeLoop {c nl nx b bid bid1 n : Nat} {body : IC} {Q : Exit → Sl → World → Prop} {σ : Sl} {w : World} (I : Nat → Sl → World → Prop) (hn : n < 9223372036854775807) (_hne : bid ≠ bid1)
    (hI : ∀ j σ w, I j σ w → σ c = .int .i64 (j : Nat) ∧ σ nl = .int .i64 (n : Nat)) (h0 : I 0 σ w)
    (hstep : ∀ j σ w, j < n → I j σ w → wpC P body (rngP bid bid1 c nx j I Q) (upd σ b (.bool true)) w)
    (hend : ∀ σ w, I n σ w → Q .normal (upd σ b (.bool false)) w) :
    wpC P (.block bid (.loop (.seq (.blk [⟨some b, .bin .lss (.tmp c) (.tmp nl), none⟩]) (.seq (.cond (.tmp b) .skip (.exit bid)) (.seq (.block bid1 body) (.blk [⟨some nx, .bin .add (.tmp c) (.const (.int .i64 1)), none⟩, ⟨some c, .mv (.tmp nx), none⟩])))))) Q σ w := by
  rw [wpC_block, wpC_loop]
  refine ⟨fun σ w => ∃ j, j ≤ n ∧ I j σ w, fun σ _ => n - (match σ c with | .int _ j => j.toNat | _ => 0), ⟨0, Nat.zero_le _, h0⟩, ?_⟩
  rintro σ w ⟨j, hj, hi⟩
  obtain ⟨ec, el⟩ := hI j σ w hi
  rw [wpC_seq, wpC_blk]
  refine go1 (v := .bool (decide ((j : Int) < n))) rfl (by simp [RK.val?, ev, ec, el, intBin]) ?_
  refine goEnd ?_
  simp only [thenC, updo]
  rw [wpC_seq]
  by_cases hlt : j < n
  · have e1 : decide ((j : Int) < n) = true := by simp [hlt]
    rw [e1, wpC_cond_t (by simp [ev, upd]), wpC_skip]
    simp only [thenC]
    rw [wpC_seq, wpC_block]
    refine wpC_mono ?_ (hstep j σ w hlt hi)
    have key : ∀ σ' w', (σ' c = .int .i64 (j : Nat) ∧ I (j + 1) (upd (upd σ' nx (.int .i64 ((j + 1 : Nat) : Int))) c (.int .i64 ((j + 1 : Nat) : Int))) w') →
        wpC P (.blk [⟨some nx, .bin .add (.tmp c) (.const (.int .i64 1)), none⟩, ⟨some c, .mv (.tmp nx), none⟩])
          (thenC (fun σ' w' => (∃ j, j ≤ n ∧ I j σ' w') ∧ (n - (match σ' c with | .int _ j => j.toNat | _ => 0)) < (n - (match σ c with | .int _ j => j.toNat | _ => 0))) (inBlockC bid Q)) σ' w' := by
      rintro σ' w' ⟨k1, k2⟩
      rw [wpC_blk]
      refine go1 (v := .int .i64 ((j + 1 : Nat) : Int)) rfl (by
        simp only [RK.val?, ev, k1, isShift, decide_true, Bool.or_true, if_true, intBin]
        rw [show (j : Int) + 1 = ((j + 1 : Nat) : Int) by omega, i64_nat (by omega)]) ?_
      refine go1 (v := .int .i64 ((j + 1 : Nat) : Int)) rfl (by simp [RK.val?, ev, updo, upd]) ?_
      refine goEnd ?_
      simp only [thenC, updo]
      refine ⟨⟨j + 1, by omega, k2⟩, ?_⟩
      simp only [upd_same, ec, Int.toNat_natCast]
      have : n - (j + 1) < n - j := by omega
      exact this
    intro e σ' w' he
    cases e with
    | normal => exact key σ' w' he
    | exit i =>
      simp only [rngP] at he
      simp only [inBlockC]
      split at he
      · rename_i e1; rw [if_pos e1]; exact key σ' w' he
      · rename_i e1
        rw [if_neg e1]
        simp only [thenC, inBlockC]
        exact he
    | _ => exact he
  · have e1 : decide ((j : Int) < n) = false := by simp; omega
    have : j = n := by omega
    subst this
    rw [e1, wpC_cond_f (by simp [ev, upd])]
    simp only [wpC, thenC, inBlockC, if_true]
    exact hend σ w hi
end
end Go.Msk
