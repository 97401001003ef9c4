/- A small language of resolved operations, and what the generic and the generated functions do in it (part 14). -/
import Derived.Test.YtkgihecaappglaaGreatDoorFm

namespace Go.Msk
open Go.RowKit
set_option maxRecDepth 100000
inductive Tl where
  | nil
  | fld (k : TK) (rest : Tl)
  | lst (k : EK) (esz : Nat) (body : Tl) (rest : Tl)
  | uid (rest : Tl)
  | sub (f : FuncId) (size : Nat) (body : Tl) (rest : Tl)
  | tags (f1 each srt : FuncId)
  deriving Inhabited
def Tl.ty : Tl → List GV → Prop
  | .nil, gs => gs = []
  | .fld k rest, gs => ∃ g l, gs = g :: l ∧ k.ty g ∧ rest.ty l
  | .lst k esz body rest, gs => ∃ isnil sz x l, gs = .lst isnil sz x :: l ∧ (∀ g ∈ x, k.ty body.ty g) ∧ x.length ≤ 2147483647 ∧ (x = [] ∨ sz = esz) ∧ rest.ty l
  | .uid rest, gs => ∃ x l, gs = .arr x :: l ∧ x.length = 16 ∧ rest.ty l
  | .sub _ size body rest, gs => ∃ x l, gs = .rcd x :: l ∧ body.ty x ∧ rest.ty l ∧ size = size
  | .tags .., gs => ∃ m, gs = [.tag m] ∧ m.length ≤ 2147483647 ∧ ∀ p ∈ m, p.2.length ≤ 2147483647
def Tl.tg : Tl → Option (FuncId × FuncId × FuncId)
  | .nil => none
  | .fld _ rest => rest.tg
  | .lst _ _ _ rest => rest.tg
  | .uid rest => rest.tg
  | .sub _ _ _ rest => rest.tg
  | .tags a b c => some (a, b, c)
def Tl.size : Tl → Nat
  | .nil => 0
  | .fld _ rest => 1 + rest.size
  | .lst _ _ _ rest => 1 + rest.size
  | .uid rest => 16 + rest.size
  | .sub _ n _ rest => n + rest.size
  | .tags .. => 0
def Tl.Ok (P : Program) : Tl → Prop
  | .nil => True
  | .fld k rest => k.Ok P ∧ rest.Ok P
  | .lst k _ body rest => k.Ok P body.ty ∧ rest.Ok P
  | .uid rest => rest.Ok P
  | .sub f n body rest => TellS P f body.ty ∧ rest.Ok P ∧ ∀ O w gs css, body.ty gs → RepL O w gs css → css.flatten.length = n
  | .tags a b c => TagFs P a b c
def Tl.len : Tl → Nat
  | .nil => 0
  | .fld _ rest => 1 + rest.len
  | .lst _ _ _ rest => 1 + rest.len
  | .uid rest => 1 + rest.len
  | .sub _ _ _ rest => 1 + rest.len
  | .tags .. => 0
def Tl.nl : Tl → Nat
  | .nil => 0
  | .fld _ rest => rest.nl
  | .lst _ _ _ rest => 1 + rest.nl
  | .uid rest => rest.nl
  | .sub _ _ _ rest => rest.nl
  | .tags .. => 0
def Tl.nt : Tl → Nat
  | .nil => 0
  | .fld k rest => k.nt + rest.nt
  | .lst k _ _ rest => 54 + 2 * k.n + rest.nt
  | .uid rest => 9 + rest.nt
  | .sub _ _ _ rest => 7 + rest.nt
  | .tags .. => 0
def Tl.gen : Tl → (i t off iv nb : Nat) → List IC
  | .nil, _, _, _, _, _ => []
  | .fld k rest, i, t, off, iv, nb => k.gen i t off :: rest.gen (i + 1) (t + k.nt) (off + 1) iv nb
  | .lst k esz _ rest, i, t, off, iv, nb => nullF i t off :: loopT k i (t + 9) off iv nb esz :: rest.gen (i + 1) (t + (54 + 2 * k.n)) (off + 1) (iv + 1) (nb + 2)
  | .uid rest, i, t, off, iv, nb => uidF i t off :: rest.gen (i + 1) (t + 9) (off + 16) iv nb
  | .sub f n _ rest, i, t, off, iv, nb => subF f i t off :: rest.gen (i + 1) (t + 7) (off + n) iv nb
  | .tags .., _, _, _, _, _ => []
def Tl.t0 (tl : Tl) : Nat := 4 + tl.nl
def Tl.tail (tl : Tl) (t off : Nat) : List IC := match tl.tg with
  | none => []
  | some (a, b, c) => tagBlks a b c t off
def Tl.tn (tl : Tl) : Nat := match tl.tg with
  | none => 0
  | some _ => 8
def Tl.code (tl : Tl) (off : Nat) : IC × List RV × Nat :=
  (seqs ([.blk [⟨some 2, .alloc tzero, none⟩], .blk [⟨some tl.t0, .mkslice (.const (.int .i64 tl.len)) (.const (.int .i64 tl.len)) 88 tzero, none⟩, ⟨some (tl.t0 + 1), .build tzero [(3, 1, .tmp tl.t0)], none⟩, ⟨some 3, .alloc tzero, none⟩, ⟨none, .st (.tmp 3) 5 (.tmp (tl.t0 + 1)), none⟩]] ++
    (tl.gen 0 (tl.t0 + 2) off 4 0 ++ (tl.tail (tl.t0 + 2 + tl.nt) (off + tl.size) ++ [.blk [⟨some (tl.t0 + 2 + tl.nt + tl.tn), .ldn (.tmp 3) 5, none⟩, ⟨none, .st (.tmp 2) 5 (.tmp (tl.t0 + 2 + tl.nt + tl.tn)), none⟩], .ret]))),
   [.cells 2 5], tl.t0 + 3 + tl.nt + tl.tn)
section
variable {P : Program}
theorem Tl.sound {Tb Lb n B base : Nat} {O : List Nat} (hB : B ≠ Lb) (hLO : Lb ∈ O) : ∀ (tl : Tl) (i t off iv nb : Nat) (gs : List GV) (gcs : List (List Value)) (pre : List Value) (σ : Sl) (w : World) (Q : Exit → Sl → World → Prop), tl.Ok P → tl.ty gs →
    RepL O w gs gcs → B < w.heap.size → Cells w ⟨B, base + off, none⟩ gcs.flatten → σ 0 = .pointer (some ⟨B, base, none⟩) → σ 3 = .pointer (some ⟨Tb, 0, none⟩) → TW w Tb Lb n (pre ++ zrep tl.len tzero) → pre.length = i * 5 → i + tl.len ≤ n → 4 ≤ iv → iv + tl.nl ≤ t → 4 ≤ t →
    (∀ σ' w' tcs, Ag 4 σ σ' → Mod [Lb] w w' → RepTL (fun b => w.heap.size ≤ b) w' (GV.toldF gs) tcs → TW w' Tb Lb n (pre ++ tcs.flatten) → tcs.length = tl.len → Q .normal σ' w') → wpL P (tl.gen i t off iv nb) Q σ w := by
  intro tl
  induction tl with
  | nil =>
    intro i t off iv nb gs gcs pre σ w Q hO hT hr hBl hc h0 h3 hw hpre hi hiv hivt ht hQ
    simp only [Tl.ty] at hT
    subst hT
    exact hQ σ w [] (Ag.refl _ _) (Mod.refl _ _) (by simpa [GV.toldF] using .nil) (by simpa [Tl.len, zrep] using hw) rfl
  | fld k rest ih =>
    intro i t off iv nb gs gcs pre σ w Q hO hT hr hBl hc h0 h3 hw hpre hi hiv hivt ht hQ
    obtain ⟨g, l, rfl, hg, hT⟩ := hT
    obtain ⟨hk, hO⟩ := hO
    cases hr with
    | @cons _ _ cs css h1 h2 =>
      obtain ⟨v, rfl⟩ : ∃ v, cs = [v] := by
        cases k with
        | num c =>
          cases c with
          | true => obtain ⟨k, m, rfl⟩ := hg; cases h1; exact ⟨_, rfl⟩
          | false => obtain ⟨m, rfl, -⟩ := hg; cases h1; exact ⟨_, rfl⟩
        | str => obtain ⟨m, rfl⟩ := hg; cases h1; exact ⟨_, rfl⟩
        | boo f => obtain ⟨m, rfl⟩ := hg; cases h1; exact ⟨_, rfl⟩
        | txt f => obtain ⟨m, rfl⟩ := hg; cases h1 <;> exact ⟨_, rfl⟩
        | oct f => obtain ⟨m, rfl, -⟩ := hg; cases h1; exact ⟨_, rfl⟩
      simp only [Tl.gen, wpL, Tl.len] at hi ⊢
      have hz : zrep (1 + rest.len) tzero = tzero ++ zrep rest.len tzero := by rw [Nat.add_comm, zrep_succ]
      simp only [Tl.len, hz] at hw
      simp only [Tl.nl] at hivt
      simp only [List.flatten_cons] at hc
      refine TK.wp hk ht h0 h3 hw hpre (by omega) hg h1 (by simpa using hc.head) fun σ' w' cs' a' hm' hrep' htw' => ?_
      simp only [thenC]
      have h5 := hrep'.five
      have hsub := hc.sub 1
      refine ih (i + 1) (t + k.nt) (off + 1) iv nb l css (pre ++ cs') σ' w' Q hO hT (h2.mod hm' (by simpa using hLO)) (Nat.lt_of_lt_of_le hBl hm'.size) ?_ (by rw [a' 0 (by omega)]; exact h0) (by rw [a' 3 (by omega)]; exact h3) (by simpa only [List.append_assoc] using htw')
        (by simp only [List.length_append]; omega) (by omega) hiv (by omega) (by omega) fun σ2 w2 tcs a2 hm2 hrep2 htw2 hl2 => ?_
      · have : Cells w ⟨B, base + off + 1, none⟩ css.flatten := by simpa using hsub
        exact this.mod hm' (.inr (by simpa using hB))
      · refine hQ σ2 w2 (cs' :: tcs) (fun q hq => by rw [a2 q hq]; exact a' q (by omega)) (hm'.trans hm2) ?_ (by simpa only [List.flatten_cons, List.append_assoc] using htw2) (by simp [hl2, Tl.len]; omega)
        rw [GV.toldF_cons (by rintro m rfl; exact TK.ty_tag hg)]
        exact .cons (hrep'.mod hm2 (fun b hb hx => by simp only [List.mem_singleton] at hb; subst hb; have := hw.lb.lt; omega) fun _ _ h => h) (hrep2.mod (Mod.refl [] _) (by simp) fun b _ hb => Nat.le_trans hm'.size hb)
  | lst k esz body rest _ ih =>
    intro i t off iv nb gs gcs pre σ w Q hO hT hr hBl hc h0 h3 hw hpre hi hiv hivt ht hQ
    obtain ⟨isnil, sz, xs, l, rfl, hg, hlen, hsz, hT⟩ := hT
    obtain ⟨hk, hO⟩ := hO
    cases hr with
    | @cons _ _ cs css h1 h2 =>
      simp only [Tl.gen, wpL, Tl.len] at hi ⊢
      have hz : zrep (1 + rest.len) tzero = tzero ++ zrep rest.len tzero := by rw [Nat.add_comm, zrep_succ]
      simp only [Tl.len, hz] at hw
      simp only [Tl.nl] at hivt
      simp only [List.flatten_cons] at hc
      -- the slice that the field holds
      obtain ⟨sb, cap, xcs, rfl, hisn, hrx, hsbx, hsn, hszx⟩ : ∃ sb cap xcs, cs = [.slice sb xs.length cap] ∧ isnil = sb.isNone ∧ RepL O w xs xcs ∧ (∀ a, sb = some a → a.block ∉ O ∧ a.block < w.heap.size ∧ Cells w a xcs.flatten) ∧ (sb = none → xs = []) ∧ (∀ c ∈ xcs, c.length = esz) := by
        cases h1 with
        | lst0 => exact ⟨none, 0, [], rfl, rfl, .nil, fun a h => by simp at h, fun _ => rfl, by simp⟩
        | @lst1 a nn c _ _ xcs ha hlt hn hc' hs hl hcells =>
          refine ⟨some a, c, xcs, by rw [hn], rfl, hl, fun a' e => ?_, fun h => by simp at h, fun d hd => ?_⟩
          · simp only [Option.some.injEq] at e; subst e; exact ⟨ha, hlt, hcells⟩
          · rcases hsz with rfl | rfl
            · have := hl.length; cases xcs with | nil => simp at hd | cons a b => simp at this
            · exact hs d hd
      have hcell : w.cell? ⟨B, base + off, none⟩ = some (.slice sb xs.length cap) := by simpa using hc.head
      refine nullF_wp ht h0 h3 hw hpre (by omega) hcell fun σ1 w1 a1 hm1 hsz1 htw1 => ?_
      simp only [thenC]
      have hLn : ∀ x ∈ [Lb], x ∈ O := by simpa using hLO
      refine loopT_wp hk (by omega) (by omega) hiv (by rw [a1 0 (by omega)]; exact h0) (by rw [a1 3 (by omega)]; exact h3) (by omega) htw1 hpre (cell_mod hcell hm1 (by simpa using hB)) hB hLO (hrx.mod hm1 hLn)
        (fun a ha => ⟨(hsbx a ha).1, Nat.lt_of_lt_of_le (hsbx a ha).2.1 hm1.size, (hsbx a ha).2.2.mod hm1 (.inr (by simp only [List.mem_singleton]; exact fun e => (hsbx a ha).1 (e ▸ hLO)))⟩) hsn hszx hg hlen fun σ2 w2 cs' a2 hm2 hrep2 htw2 => ?_
      simp only [thenC]
      have h5 := hrep2.five
      have hsub := hc.sub 1
      have hm12 := hm1.trans hm2
      have a12 : Ag 4 σ σ2 := fun q hq => by rw [a2 q (by omega) (by omega)]; exact a1 q (by omega)
      refine ih (i + 1) (t + (54 + 2 * k.n)) (off + 1) (iv + 1) (nb + 2) l css (pre ++ cs') σ2 w2 Q hO hT (h2.mod hm12 hLn) (Nat.lt_of_lt_of_le hBl hm12.size) ?_ (by rw [a12 0 (by omega)]; exact h0) (by rw [a12 3 (by omega)]; exact h3) (by simpa only [List.append_assoc] using htw2)
        (by simp only [List.length_append]; omega) (by omega) (by omega) (by omega) (by omega) fun σ3 w3 tcs a3 hm3 hrep3 htw3 hl3 => ?_
      · have : Cells w ⟨B, base + off + 1, none⟩ css.flatten := by simpa using hsub
        exact this.mod hm12 (.inr (by simpa using hB))
      · refine hQ σ3 w3 (cs' :: tcs) (a12.trans a3) (hm12.trans hm3) ?_ (by simpa only [List.flatten_cons, List.append_assoc] using htw3) (by simp [hl3, Tl.len]; omega)
        rw [GV.toldF_cons (by rintro m h; simp at h)]
        simp only [GV.told, hisn]
        refine .cons (hrep2.mod hm3 (fun b hb hx => by simp only [List.mem_singleton] at hb; subst hb; have := hw.lb.lt; omega) fun b _ hb => by omega) (hrep3.mod (Mod.refl [] _) (by simp) fun b _ hb => Nat.le_trans hm12.size hb)

  | uid rest ih =>
    intro i t off iv nb gs gcs pre σ w Q hO hT hr hBl hc h0 h3 hw hpre hi hiv hivt ht hQ
    obtain ⟨x, l, rfl, hx, hT⟩ := hT
    cases hr with
    | @cons _ _ cs css h1 h2 =>
      have : cs = u8s x := by cases h1; rfl
      subst this
      simp only [Tl.gen, wpL, Tl.len] at hi ⊢
      have hz : zrep (1 + rest.len) tzero = tzero ++ zrep rest.len tzero := by rw [Nat.add_comm, zrep_succ]
      simp only [Tl.len, hz] at hw
      simp only [Tl.nl] at hivt
      simp only [List.flatten_cons] at hc
      have hcx : Cells w ⟨B, base + off, none⟩ (u8s x) := by have := hc.take (u8s x).length; simpa using this
      refine uidF_wp ht h0 h3 hw hpre (by omega) hx hcx hBl fun σ' w' cs' a' hm' hrep' htw' => ?_
      simp only [thenC]
      have h5 := hrep'.five
      have hsub := hc.sub 16
      refine ih (i + 1) (t + 9) (off + 16) iv nb l css (pre ++ cs') σ' w' Q hO hT (h2.mod hm' (by simpa using hLO)) (Nat.lt_of_lt_of_le hBl hm'.size) ?_ (by rw [a' 0 (by omega)]; exact h0) (by rw [a' 3 (by omega)]; exact h3) (by simpa only [List.append_assoc] using htw')
        (by simp only [List.length_append]; omega) (by omega) hiv (by omega) (by omega) fun σ2 w2 tcs a2 hm2 hrep2 htw2 hl2 => ?_
      · have : Cells w ⟨B, base + off + 16, none⟩ css.flatten := by
          have hlen : (u8s x).length = 16 := by rw [u8s_length, hx]
          rw [← hlen, List.drop_left] at hsub
          rw [hlen] at hsub
          exact hsub
        exact this.mod hm' (.inr (by simpa using hB))
      · refine hQ σ2 w2 (cs' :: tcs) (fun q hq => by rw [a2 q hq]; exact a' q (by omega)) (hm'.trans hm2) ?_ (by simpa only [List.flatten_cons, List.append_assoc] using htw2) (by simp [hl2, Tl.len]; omega)
        rw [GV.toldF_cons (by rintro m h; simp at h)]
        exact .cons (hrep'.mod hm2 (fun b hb hx => by simp only [List.mem_singleton] at hb; subst hb; have := hw.lb.lt; omega) fun _ _ h => h) (hrep2.mod (Mod.refl [] _) (by simp) fun b _ hb => Nat.le_trans hm'.size hb)
  | sub f sz body rest _ ih =>
    intro i t off iv nb gs gcs pre σ w Q hO hT hr hBl hc h0 h3 hw hpre hi hiv hivt ht hQ
    obtain ⟨x, l, rfl, hx, hT, -⟩ := hT
    obtain ⟨hk, hO, hsz⟩ := hO
    cases hr with
    | @cons _ _ cs css h1 h2 =>
      obtain ⟨xcs, rfl, hrx⟩ : ∃ xcs, cs = xcs.flatten ∧ RepL O w x xcs := by
        cases h1 with
        | rcd h => exact ⟨_, rfl, h⟩
      have hxl := hsz O w x xcs hx hrx
      simp only [Tl.gen, wpL, Tl.len] at hi ⊢
      have hz : zrep (1 + rest.len) tzero = tzero ++ zrep rest.len tzero := by rw [Nat.add_comm, zrep_succ]
      simp only [Tl.len, hz] at hw
      simp only [Tl.nl] at hivt
      rw [List.flatten_cons] at hc
      have hcx : Cells w ⟨B, base + off, none⟩ xcs.flatten := by have := hc.take xcs.flatten.length; simpa using this
      refine subF_wp hk ht h0 h3 hw hpre (by omega) hx hrx hcx fun σ' w' cs' a' hm' hrep' htw' => ?_
      simp only [thenC]
      have h5 := hrep'.five
      have hsub := hc.sub sz
      refine ih (i + 1) (t + 7) (off + sz) iv nb l css (pre ++ cs') σ' w' Q hO hT (h2.mod hm' (by simpa using hLO)) (Nat.lt_of_lt_of_le hBl hm'.size) ?_ (by rw [a' 0 (by omega)]; exact h0) (by rw [a' 3 (by omega)]; exact h3) (by simpa only [List.append_assoc] using htw')
        (by simp only [List.length_append]; omega) (by omega) hiv (by omega) (by omega) fun σ2 w2 tcs a2 hm2 hrep2 htw2 hl2 => ?_
      · have : Cells w ⟨B, base + (off + sz), none⟩ css.flatten := by
          rw [← hxl, List.drop_left] at hsub
          rw [hxl] at hsub
          rwa [← Nat.add_assoc]
        exact this.mod hm' (.inr (by simpa using hB))
      · refine hQ σ2 w2 (cs' :: tcs) (fun q hq => by rw [a2 q hq]; exact a' q (by omega)) (hm'.trans hm2) ?_ (by simpa only [List.flatten_cons, List.append_assoc] using htw2) (by simp [hl2, Tl.len]; omega)
        rw [GV.toldF_cons (by rintro m h; simp at h)]
        exact .cons (hrep'.mod hm2 (fun b hb hx => by simp only [List.mem_singleton] at hb; subst hb; have := hw.lb.lt; omega) fun _ _ h => h) (hrep2.mod (Mod.refl [] _) (by simp) fun b _ hb => Nat.le_trans hm'.size hb)
  | tags a b c =>
    intro i t off iv nb gs gcs pre σ w Q hO hT hr hBl hc h0 h3 hw hpre hi hiv hivt ht hQ
    obtain ⟨m, rfl, -⟩ := hT
    exact hQ σ w [] (Ag.refl _ _) (Mod.refl _ _) (by simpa [GV.toldF] using .nil) (by simpa [Tl.len, zrep] using hw) rfl
theorem Tl.no_tags : ∀ (tl : Tl) (gs : List GV), tl.tg = none → tl.ty gs → GV.tagsF gs = [] := by
  intro tl
  induction tl with
  | nil => intro gs _ h; simp only [Tl.ty] at h; subst h; rfl
  | fld k rest ih =>
    rintro gs h ⟨g, l, rfl, hg, hT⟩
    have := ih l h hT
    cases g <;> first | exact this | exact (TK.ty_tag hg).elim
  | lst k esz body rest _ ih => rintro gs h ⟨_, _, _, l, rfl, -, -, -, hT⟩; exact ih l h hT
  | uid rest ih => rintro gs h ⟨_, l, rfl, -, hT⟩; exact ih l h hT
  | sub f sz body rest _ ih => rintro gs h ⟨_, l, rfl, -, hT, -⟩; exact ih l h hT
  | tags a b c => intro gs h; simp [Tl.tg] at h
theorem Tl.tag_cell {O : List Nat} {w : World} : ∀ (tl : Tl) (gs : List GV) (gcs : List (List Value)) (a b c : FuncId), tl.tg = some (a, b, c) → tl.Ok P → tl.ty gs → RepL O w gs gcs →
    ∃ m v, gcs.flatten[tl.size]? = some v ∧ Rep O w (.tag m) [v] ∧ GV.tagsF gs = sortT m ∧ m.length ≤ 2147483647 ∧ (∀ p ∈ m, p.2.length ≤ 2147483647) ∧ TagFs P a b c := by
  intro tl
  have step : ∀ {n k : Nat} {g : GV} {l : List GV} {cs : List Value} {css : List (List Value)} {m : List (Nat × List UInt8)} {v : Value}, cs.length = n → (∀ m, g ≠ .tag m) → css.flatten[k]? = some v → GV.tagsF l = sortT m →
      (cs :: css).flatten[n + k]? = some v ∧ GV.tagsF (g :: l) = sortT m := by
    intro n k g l cs css m v hn hg hk ht
    refine ⟨?_, ?_⟩
    · rw [List.flatten_cons, List.getElem?_append_right (by omega), show n + k - cs.length = k by omega]; exact hk
    · cases g <;> first | exact ht | exact absurd rfl (hg _)
  induction tl with
  | nil => intro gs gcs a b c h; simp [Tl.tg] at h
  | fld k rest ih =>
    intro gs gcs a b c h hO hT hr
    obtain ⟨g, l, rfl, hg, hT⟩ := hT
    cases hr with
    | @cons _ _ cs css h1 h2 =>
      obtain ⟨m, v, e1, e2, e3, e4⟩ := ih l css a b c h hO.2 hT h2
      obtain ⟨q1, q2⟩ := step (n := 1) (g := g) (TK.one hg h1) (by rintro m rfl; exact TK.ty_tag hg) e1 e3
      exact ⟨m, v, q1, e2, q2, e4⟩
  | lst k esz body rest _ ih =>
    intro gs gcs a b c h hO hT hr
    obtain ⟨isnil, sz, x, l, rfl, -, -, -, hT⟩ := hT
    cases hr with
    | @cons _ _ cs css h1 h2 =>
      obtain ⟨m, v, e1, e2, e3, e4⟩ := ih l css a b c h hO.2 hT h2
      have hl : cs.length = 1 := by cases h1 <;> rfl
      obtain ⟨q1, q2⟩ := step (n := 1) (g := .lst isnil sz x) hl (by rintro m h; simp at h) e1 e3
      exact ⟨m, v, q1, e2, q2, e4⟩
  | uid rest ih =>
    intro gs gcs a b c h hO hT hr
    obtain ⟨x, l, rfl, hx, hT⟩ := hT
    cases hr with
    | @cons _ _ cs css h1 h2 =>
      obtain ⟨m, v, e1, e2, e3, e4⟩ := ih l css a b c h hO hT h2
      have hl : cs.length = 16 := by cases h1; rw [u8s_length, hx]
      obtain ⟨q1, q2⟩ := step (n := 16) (g := .arr x) hl (by rintro m h; simp at h) e1 e3
      exact ⟨m, v, q1, e2, q2, e4⟩
  | sub f sz body rest _ ih =>
    intro gs gcs a b c h hO hT hr
    obtain ⟨x, l, rfl, hx, hT, -⟩ := hT
    cases hr with
    | @cons _ _ cs css h1 h2 =>
      obtain ⟨m, v, e1, e2, e3, e4⟩ := ih l css a b c h hO.2.1 hT h2
      have hl : cs.length = sz := by cases h1 with | rcd h1 => exact hO.2.2 _ _ _ _ hx h1
      obtain ⟨q1, q2⟩ := step (n := sz) (g := .rcd x) hl (by rintro m h; simp at h) e1 e3
      exact ⟨m, v, q1, e2, q2, e4⟩
  | tags a' b' c' =>
    intro gs gcs a b c h hO hT hr
    simp only [Tl.tg, Option.some.injEq, Prod.mk.injEq] at h
    obtain ⟨rfl, rfl, rfl⟩ := h
    obtain ⟨m, rfl, h1, h2⟩ := hT
    cases hr with
    | @cons _ _ cs css q1 q2 =>
      cases q2
      obtain ⟨v, rfl⟩ : ∃ v, cs = [v] := by cases q1 <;> exact ⟨_, rfl⟩
      exact ⟨m, v, rfl, q1, rfl, h1, h2, hO⟩
def TellAt (P : Program) (f : FuncId) (off : Nat) (T : List GV → Prop) : Prop :=
  ∀ (O : List Nat) (w : World) (B base : Nat) (gs : List GV) (css : List (List Value)), T gs → RepL O w gs css → B < w.heap.size → Cells w ⟨B, base + off, none⟩ css.flatten →
    TellC P f [.pointer (some ⟨B, base, none⟩)] w (GV.rcd gs).told
theorem Tl.call {tl : Tl} {f off : Nat} (hm : P.follows .mixedOrders = true) (h : liftF P f = some (tl.code off)) (hO : tl.Ok P) (hlen : tl.len ≤ 1000) : TellAt P f off tl.ty := by
  intro O w B base gs css hT hr hBlt hc
  unfold Tl.code at h
  refine call_of h hm (by simp; omega) ?_
  rw [wpC_seqs]
  have s0 : args0 [.pointer (some ⟨B, base, none⟩)] 0 = .pointer (some ⟨B, base, none⟩) := rfl
  generalize args0 [.pointer (some ⟨B, base, none⟩)] = σ0 at s0
  have ht0 : tl.t0 = 4 + tl.nl := rfl
  simp only [List.cons_append, List.nil_append, wpL]
  simp only [wpC_blk, wpR, RI.wp, gOk, if_true, RK.run, ev, updo]
  intro T1
  simp only [thenC]
  have hmul : ((tl.len : Int) * (88 : Nat)) ≤ 70368744177664 := by omega
  refine ⟨by omega, by omega, hmul, by omega, ?_⟩
  intro T2
  simp only [Int.toNat_natCast, upd_same, List.map_cons, List.map_nil]
  have hf : ∀ v : Value, v.cells = #[v] → fillL tzero [(3, 1, v)] = some [.int .i64 0, .slice none 0 0, .bool false, v, .slice none 0 0] := by
    intro v hv
    simp only [fillL, hv]
    simp [tzero, splice]
  rw [hf _ rfl]
  simp only
  intro T3
  have ec : ∀ cs, (Value.agg cs).cells = cs := fun _ => rfl
  simp only [upd, if_true, show tl.t0 + 1 ≠ 3 by omega, if_false, ec]
  -- the three new blocks
  have b2 := Blk.new w tzero T1
  generalize hw1 : w.alloc (.cells tzero.toArray T1) = w1 at b2 ⊢
  have z1 : w1.heap.size = w.heap.size + 1 := by rw [← hw1]; simp
  have m1 : Mod [] w w1 := by rw [← hw1]; exact Mod.alloc _ _ _
  have bL := Blk.new w1 (zrep tl.len tzero) T2
  generalize hw2 : w1.alloc (.cells (zrep tl.len tzero).toArray T2) = w2 at bL ⊢
  have z2 : w2.heap.size = w1.heap.size + 1 := by rw [← hw2]; simp
  have m2 : Mod [] w1 w2 := by rw [← hw2]; exact Mod.alloc _ _ _
  obtain ⟨k1, k2, k3⟩ := new_put w2 tzero [.int .i64 0, .slice none 0 0, .bool false, .slice (some ⟨w1.heap.size, 0, none⟩) tl.len tl.len, .slice none 0 0] T3 rfl (by simp [Value.oneCell'])
  generalize hw3 : w2.alloc (.cells tzero.toArray T3) = w3 at k1 k2 k3 ⊢
  have z3 : w3.heap.size = w2.heap.size + 1 := by rw [← hw3]; simp
  refine ⟨by rfl, by simpa using k1, ?_⟩
  rw [wpL_append]
  have hput : (putCells w3 ⟨w2.heap.size, 0, none⟩ 0 [.int .i64 0, .slice none 0 0, .bool false, .slice (some ⟨w1.heap.size, 0, none⟩) tl.len tl.len, .slice none 0 0]).heap.size = w3.heap.size := size_putCells ..
  generalize hw4 : putCells w3 ⟨w2.heap.size, 0, none⟩ 0 [.int .i64 0, .slice none 0 0, .bool false, .slice (some ⟨w1.heap.size, 0, none⟩) tl.len tl.len, .slice none 0 0] = w4 at k2 k3 hput
  have m14 : Mod [] w w4 := (m1.trans m2).trans k3
  have htw : TW w4 w2.heap.size w1.heap.size tl.len (zrep tl.len tzero) := ⟨k2, bL.mod k3 (by simp), by omega⟩
  refine Tl.sound (Tb := w2.heap.size) (Lb := w1.heap.size) (n := tl.len) (B := B) (base := base) (O := w2.heap.size :: w1.heap.size :: O) (by omega) (by simp) tl 0 (tl.t0 + 2) off 4 0 gs css [] _ w4 _ hO hT
    (hr.fresh m14 (by simp) (fun x hx => by
      rcases List.mem_cons.1 hx with rfl | hx
      · exact .inr (by omega)
      · rcases List.mem_cons.1 hx with rfl | hx
        · exact .inr (by omega)
        · exact .inl hx)) (by omega) (hc.mod m14 (.inr (by simp))) ?_ ?_ htw rfl (by omega) (by omega) (by omega) (by omega) fun σ' w' tcs a' hm' hrep htw' hln => ?_
  · simp only [upd, show (0 : Nat) ≠ 3 by omega, show (0 : Nat) ≠ tl.t0 + 1 by omega, show (0 : Nat) ≠ tl.t0 by omega, show (0 : Nat) ≠ 2 by omega, if_false, s0]
  · simp only [upd, if_true]
  · have s2' : σ' 2 = .pointer (some ⟨w.heap.size, 0, none⟩) := by
      rw [a' 2 (by omega)]
      simp only [upd, show (2 : Nat) ≠ 3 by omega, show (2 : Nat) ≠ tl.t0 + 1 by omega, show (2 : Nat) ≠ tl.t0 by omega, if_false, if_true]
    have s3' : σ' 3 = .pointer (some ⟨w2.heap.size, 0, none⟩) := by
      rw [a' 3 (by omega)]
      simp only [upd, if_true]
    have s0' : σ' 0 = .pointer (some ⟨B, base, none⟩) := by
      rw [a' 0 (by omega)]
      simp only [upd, show (0 : Nat) ≠ 3 by omega, show (0 : Nat) ≠ tl.t0 + 1 by omega, show (0 : Nat) ≠ tl.t0 by omega, show (0 : Nat) ≠ 2 by omega, if_false, s0]
    have hb2 : Blk w' w.heap.size tzero := ((b2.mod (m2.trans k3) (by simp))).mod hm' (by simp; omega)
    -- behind the fields
    have fin : ∀ (σ5 : Sl) (w5 : World) (t : Nat) (uv : Value) (ucs : List (List Value)), 4 ≤ t → σ5 2 = .pointer (some ⟨w.heap.size, 0, none⟩) → σ5 3 = .pointer (some ⟨w2.heap.size, 0, none⟩) → Mod [w2.heap.size] w' w5 →
        Blk w5 w2.heap.size [.int .i64 0, .slice none 0 0, .bool false, .slice (some ⟨w1.heap.size, 0, none⟩) tl.len tl.len, uv] → SlC (fun b => w.heap.size ≤ b ∧ b ≠ w.heap.size) w5 uv (GV.tagsF gs).length ucs.flatten →
        RepU (fun b => w.heap.size ≤ b ∧ b ≠ w.heap.size) w5 (GV.tagsF gs) ucs → wpL P [.blk [⟨some t, .ldn (.tmp 3) 5, none⟩, ⟨none, .st (.tmp 2) 5 (.tmp t), none⟩], .ret] (postC [.cells 2 5] fun e w6 => ∃ cs, e = .returned (.agg cs.toArray) ∧ RepT (fun b => w.heap.size ≤ b) w6 (GV.rcd gs).told cs ∧ Mod [] w w6) σ5 w5 := by
      intro σ5 w5 t uv ucs ht5 q2 q3 hm5 hb5 hus hru
      have uone : uv.oneCell' = true := hus.one
      have hld : cellsAt w5 ⟨w2.heap.size, 0, none⟩ 0 5 = some [.int .i64 0, .slice none 0 0, .bool false, .slice (some ⟨w1.heap.size, 0, none⟩) tl.len tl.len, uv] := cellsAt_of' hb5.cells rfl
      have hb2' : Blk w5 w.heap.size tzero := hb2.mod hm5 (by simp; omega)
      have hput2 : Mod [w.heap.size] w5 (putCells w5 ⟨w.heap.size, 0, none⟩ 0 [.int .i64 0, .slice none 0 0, .bool false, .slice (some ⟨w1.heap.size, 0, none⟩) tl.len tl.len, uv]) := Mod.put (by simp)
      have hb3 := hb2'.put (o := 0) (vs := [.int .i64 0, .slice none 0 0, .bool false, .slice (some ⟨w1.heap.size, 0, none⟩) tl.len tl.len, uv]) (by simp [tzero])
      rw [splice_all (by rfl)] at hb3
      simp only [wpL]
      rw [wpC_blk]
      refine wpR_step (v := .agg [.int .i64 0, .slice none 0 0, .bool false, .slice (some ⟨w1.heap.size, 0, none⟩) tl.len tl.len, uv].toArray) (by simp only [RK.val?, ev, q3, hld, Option.map_some]) ?_
      refine wpR_run ?_
      simp only [RK.run, ev, updo, upd, show (2 : Nat) ≠ t by omega, if_false, if_true, q2, ec]
      refine ⟨rfl, stOk_many hb2' (by simp [tzero]) (fun x hx => by
        simp only [List.mem_cons, List.not_mem_nil, or_false] at hx
        rcases hx with rfl | rfl | rfl | rfl | rfl <;> first | rfl | exact uone), ?_⟩
      refine wpR_done ?_
      simp only [wpC, thenC, postC, rvals, List.mapM_cons, List.mapM_nil, RV.val, upd, show (2 : Nat) ≠ t by omega, if_false, q2, cellsAt_of' hb3.cells (n := 5) rfl, Option.bind_eq_bind, Option.map_some, Option.bind_some, Option.pure_def, tup_one]
      have m56 : Mod [w2.heap.size, w.heap.size] w' (putCells w5 ⟨w.heap.size, 0, none⟩ 0 [.int .i64 0, .slice none 0 0, .bool false, .slice (some ⟨w1.heap.size, 0, none⟩) tl.len tl.len, uv]) := (hm5.mono (by simp)).trans (hput2.mono (by simp))
      refine ⟨_, rfl, ?_, ?_⟩
      · have hlt : (GV.toldF gs).length = tl.len := hrep.length.trans hln
        simp only [GV.told]
        refine .mk (css := tcs) (uss := ucs) SlC.nil ⟨some ⟨w1.heap.size, 0, none⟩, tl.len, by rw [hlt], by rw [hlt]; exact Nat.le_refl _, fun h => by simp at h, fun a ha _ => ?_⟩ ?_
          (hus.mod hput2 (fun b hb hx => by simp only [List.mem_singleton] at hb; exact hx.2 hb) fun b _ hb => hb.1) (hru.mod hput2 (fun b hb hx => by simp only [List.mem_singleton] at hb; exact hx.2 hb) fun b _ hb => hb.1)
        · simp only [Option.some.injEq] at ha; subst ha
          refine ⟨show w.heap.size ≤ w1.heap.size by omega, ?_, ?_⟩
          · exact Nat.lt_of_lt_of_le htw'.lb.lt m56.size
          · have := (htw'.lb.mod m56 (by simp; omega)).cells
            simpa using this
        · exact (hrep.mod m56 (fun b hb hx => by simp only [List.mem_cons, List.not_mem_nil, or_false] at hb; omega) fun b _ hb => by omega)
      · refine Mod.drop (b := w.heap.size) (S := []) ?_ (Nat.le_refl _)
        refine Mod.drop (b := w1.heap.size) (S := [w.heap.size]) ?_ (by omega)
        refine Mod.drop (b := w2.heap.size) (S := [w1.heap.size, w.heap.size]) ?_ (by omega)
        exact (m14.nil.trans (hm'.mono (by simp))).trans (m56.mono (by simp))
    simp only [thenC]
    rw [wpL_append]
    cases htg : tl.tg with
    | none =>
      have e1 : tl.tail (tl.t0 + 2 + tl.nt) (off + tl.size) = [] := by unfold Tl.tail; rw [htg]
      rw [e1]
      have hnt : GV.tagsF gs = [] := Tl.no_tags tl gs htg hT
      have := fin σ' w' (tl.t0 + 2 + tl.nt + tl.tn) (.slice none 0 0) [] (by omega) s2' s3' (Mod.refl _ _) htw'.tb (by rw [hnt]; exact SlC.nil) (by rw [hnt]; exact .nil)
      simpa only [wpL, thenC] using this
    | some q =>
      obtain ⟨a, b, c⟩ := q
      have e1 : tl.tail (tl.t0 + 2 + tl.nt) (off + tl.size) = tagBlks a b c (tl.t0 + 2 + tl.nt) (off + tl.size) := by unfold Tl.tail; rw [htg]
      rw [e1]
      obtain ⟨m, v, u1, u2, u3, u4, u5, u6⟩ := Tl.tag_cell tl gs css a b c htg hO hT hr
      have hcv : w.cell? ⟨B, base + (off + tl.size), none⟩ = some v := by
        have := hc.2 tl.size v u1
        simpa [Nat.add_assoc] using this
      have hrv : Rep (w2.heap.size :: w1.heap.size :: O) w4 (.tag m) [v] := u2.fresh m14 (by simp) (fun x hx => by
        rcases List.mem_cons.1 hx with rfl | hx
        · exact .inr (by omega)
        · rcases List.mem_cons.1 hx with rfl | hx
          · exact .inr (by omega)
          · exact .inl hx)
      have hrv' := hrv.mod hm' (by simp)
      have hTM : TagM (fun b => b ∉ w2.heap.size :: w1.heap.size :: O) w' v m ∧ ∀ r, v = .map (some r) → r ≠ w2.heap.size := by
        cases hrv' with
        | tag0 => exact ⟨.inl ⟨rfl, rfl⟩, fun r h => by simp at h⟩
        | @tag1 r _ h1 h2 => exact ⟨.inr ⟨r, rfl, h2⟩, fun r' h => by simp only [Value.map.injEq, Option.some.injEq] at h; subst h; exact fun e => h1 (by simp [e])⟩
      refine tagBlks_wp u6 (okv := fun b => b ∉ w2.heap.size :: w1.heap.size :: O) (by omega) s0' s3' htw'.tb (cell_mod (cell_mod hcv m14 (by simp)) hm' (by simp; omega)) hTM.1 (fun b hb e => hb (by simp [e])) (by omega) hTM.2 u4 u5 fun σ6 w6 uv ucs a6 hm6 hb6 hs6 hr6 => ?_
      simp only [thenC]
      refine fin σ6 w6 (tl.t0 + 2 + tl.nt + tl.tn) uv ucs (by omega) (by rw [a6 2 (by omega)]; exact s2') (by rw [a6 3 (by omega)]; exact s3') hm6 hb6 ?_ ?_
      · rw [u3]; exact hs6.mod (Mod.refl [] _) (by simp) fun b _ hb => by have := hm'.size; omega
      · rw [u3]; exact hr6.mod (Mod.refl [] _) (by simp) fun b _ hb => by have := hm'.size; omega
end
end Go.Msk

namespace Go.Msk
open Go.RowKit
set_option maxRecDepth 100000
def PK.ty : PK → GV → Prop
  | .bool, g => ∃ b, g = .num (.bool b)
  | .i64, g => ∃ n, g = .num (.int .i64 n) ∧ IntKind.i64.wrap n = n
  | .str, g => ∃ l, g = .num (Msk.str l)
  | .nstr, g => ∃ o, g = .nstr o
  | .byt, g | .nbyt, g => ∃ o, g = .byt o ∧ ∀ l, o = some l → l.length ≤ 2147483647
  | .uuid, g => ∃ l, g = .arr l ∧ l.length = 16
  | _, g => ∃ k n, g = .num (.int k n)
def fitF : PK → TK → Bool
  | .bool, .boo _ => true
  | .i64, .num false => true
  | .str, .str => true
  | .nstr, .txt _ => true
  | .byt, .oct _ | .nbyt, .oct _ => true
  | .i8, .num true | .i16, .num true | .u16, .num true | .i32, .num true | .u32, .num true => true
  | _, _ => false
def fitE : PK → EK → Bool
  | .i64, .num false => true
  | .str, .str => true
  | .i8, .num true | .i16, .num true | .u16, .num true | .i32, .num true | .u32, .num true => true
  | _, _ => false
theorem fitF_ty {p : PK} {k : TK} {g : GV} (h : fitF p k = true) (hg : p.ty g) : k.ty g := by
  cases p <;> cases k <;> simp only [fitF, Bool.false_eq_true] at h <;> first | exact hg | (rename_i c; cases c <;> simp only [Bool.false_eq_true] at h <;> exact hg)
theorem fitE_ty {p : PK} {k : EK} {T : List GV → Prop} {g : GV} (h : fitE p k = true) (hg : p.ty g) : k.ty T g := by
  cases p <;> cases k <;> simp only [fitE, Bool.false_eq_true] at h <;> first | exact hg | (rename_i c; cases c <;> simp only [Bool.false_eq_true] at h <;> exact hg)
def fitD : PK → Df → Bool
  | .bool, .bool _ => true
  | .i64, .int .i64 n => decide (IntKind.i64.wrap n = n)
  | .str, .str _ => true
  | .nstr, .nstr => true
  | .byt, .byt | .nbyt, .byt => true
  | .uuid, .uuid => true
  | .i8, .int .. | .i16, .int .. | .u16, .int .. | .i32, .int .. | .u32, .int .. => true
  | _, _ => false
theorem fitD_ty {p : PK} {d : Df} (h : fitD p d = true) : p.ty d.gv := by
  cases p <;> cases d <;> simp only [fitD, Bool.false_eq_true] at h <;> first | exact ⟨_, _, rfl⟩ | exact ⟨_, rfl⟩ | exact ⟨none, rfl, by simp⟩ | exact ⟨_, rfl, by simp⟩ | skip
  rename_i k n
  cases k <;> simp only [Bool.false_eq_true, decide_eq_true_eq] at h
  exact ⟨n, rfl, h⟩
def fitFl : List KF → Tl → Bool
  | [], .tags .. => true
  | f :: fs, .fld k r => fitF f.p k && fitD f.p f.d && fitFl fs r
  | _, _ => false
def fitK : List KCase → Tl → Option Tl
  | [], t => some t
  | c :: cs, .sub _ n b r => if c.lst.isNone && fitFl c.fs b && decide (c.size = n) then fitK cs r else none
  | c :: cs, .lst (.tell _) esz b r => if !c.lst.isNone && fitFl c.fs b && decide (c.size = esz) then fitK cs r else none
  | _ :: _, _ => none
def fitM (m : Bool) : Sc → Tl → Bool
  | .nil, .nil => !m
  | .nil, .tags .. => m
  | .prm _ _ _ p d rest, .fld k r => fitF p k && fitD p d && fitM m rest r
  | .prm _ _ _ p d rest, .uid r => decide (p = .uuid) && fitD p d && fitM m rest r
  | .enm _ _ _ p d rest, .fld k r => fitF p k && fitD p d && fitM m rest r
  | .lsp _ _ _ d _ _ p rest, .lst k esz _ r => fitE p k && decide (d.size = esz) && fitM m rest r
  | .lss _ _ _ _ _ body rest, .lst (.tell _) esz b r => fitM false body b && decide (body.size = esz) && fitM m rest r
  | .sub _ _ body rest, .sub _ n b r => fitM false body b && decide (body.size = n) && fitM m rest r
  | .tags _, .tags .. => !m
  | .uid _ _ rest, .uid r => fitM m rest r
  | .ktg cs mid _ _ _, t => !m && cs.any (fun c => c.tag == 0) && (match fitK cs t with | some t' => fitM true mid t' | none => false)
  | _, _ => false
def fit (sc : Sc) (tl : Tl) : Bool := fitM false sc tl
def TagE (m : Bool) (e : List GV) : Prop := if m then ∃ mm, e = [.tag mm] ∧ mm.length ≤ 2147483647 ∧ ∀ p ∈ mm, p.2.length ≤ 2147483647 else e = []
structure Dec.Ok (D : Dec) : Prop where
  short : D.Short
  lenle : ∀ (x : Bool) (s : RS), (D.len x s).2.src.length ≤ s.src.length
  prle : ∀ (p : PK) (x : Bool) (s : RS), (D.prim p x s).2.src.length ≤ s.src.length
  ty : ∀ (p : PK) (x : Bool) (s : RS), s.src.length ≤ 2147483647 → p.ty (D.prim p x s).1
  tagle : ∀ s : RS, (D.tags s).2.src.length ≤ s.src.length
  tagty : ∀ s : RS, s.src.length ≤ 2147483647 → (D.tags s).1.length ≤ 2147483647 ∧ ∀ p ∈ (D.tags s).1, p.2.length ≤ 2147483647
theorem decList_ty {el : RS → Option (GV × RS)} {T : GV → Prop} (hel : ∀ s g s', s.src.length ≤ 2147483647 → el s = some (g, s') → T g ∧ s'.src.length ≤ s.src.length) : ∀ (n : Nat) (s : RS) (l : List GV) (s' : RS), s.src.length ≤ 2147483647 →
    decList el n s = some (l, s') → (∀ g ∈ l, T g) ∧ l.length = n ∧ s'.src.length ≤ s.src.length
  | 0, s, l, s', hs, h => by simp only [decList, Option.some.injEq, Prod.mk.injEq] at h; obtain ⟨rfl, rfl⟩ := h; simp
  | n + 1, s, l, s', hs, h => by
    simp only [decList] at h
    cases he : el s with
    | none => simp [he] at h
    | some p =>
      obtain ⟨g, s1⟩ := p
      obtain ⟨h1, h2⟩ := hel s g s1 hs he
      simp only [he] at h
      cases hd : decList el n s1 with
      | none => simp [hd] at h
      | some q =>
        obtain ⟨l2, s2⟩ := q
        simp only [hd, Option.some.injEq, Prod.mk.injEq] at h
        obtain ⟨rfl, rfl⟩ := h
        obtain ⟨k1, k2, k3⟩ := decList_ty hel n s1 l2 s2 (by omega) hd
        refine ⟨fun x hx => ?_, by simp [k2], by omega⟩
        rcases List.mem_cons.1 hx with rfl | hx
        · exact h1
        · exact k1 x hx
theorem decLst_ty {D : Dec} (hD : D.Ok) {x : Bool} {lb : LB} {ver : Int} {sz : Nat} {el : RS → Option (GV × RS)} {T : GV → Prop} (hel : ∀ s g s', s.src.length ≤ 2147483647 → el s = some (g, s') → T g ∧ s'.src.length ≤ s.src.length) {s s' : RS} {g : GV} (hs : s.src.length ≤ 2147483647)
    (h : decLst D x lb ver sz el s = some (g, s')) : (∃ isnil z l, g = .lst isnil z l ∧ (∀ y ∈ l, T y) ∧ l.length ≤ 2147483647 ∧ (l = [] ∨ z = sz)) ∧ s'.src.length ≤ s.src.length := by
  unfold decLst at h
  split at h
  · simp at h
  · have h1 := hD.lenle x s
    have h2 := (hD.short x s).1
    cases hd : decList el (D.len x s).1.toNat (D.len x s).2 with
    | none => rw [hd] at h; simp at h
    | some q =>
      obtain ⟨l, s2⟩ := q
      rw [hd] at h
      simp only [Option.some.injEq, Prod.mk.injEq] at h
      obtain ⟨rfl, rfl⟩ := h
      obtain ⟨k1, k2, k3⟩ := decList_ty hel _ _ _ _ (by omega) hd
      refine ⟨⟨_, _, l, rfl, k1, by omega, ?_⟩, by omega⟩
      by_cases hz : (D.len x s).1 ≤ 0
      · left
        have : l.length = 0 := by omega
        exact List.length_eq_zero_iff.1 this
      · right; rw [if_neg (by simp [LB.nil, hz])]
theorem consD_some {f : Option (GV × RS)} {rest : RS → Option (List GV × RS)} {gs : List GV} {s' : RS} (h : consD f rest = some (gs, s')) : ∃ g s1 l, f = some (g, s1) ∧ rest s1 = some (l, s') ∧ gs = g :: l := by
  unfold consD at h
  cases f with
  | none => simp at h
  | some p =>
    obtain ⟨g, s1⟩ := p
    simp only at h
    cases hr : rest s1 with
    | none => simp [hr] at h
    | some q =>
      obtain ⟨l, s2⟩ := q
      simp only [hr, Option.some.injEq, Prod.mk.injEq] at h
      obtain ⟨rfl, rfl⟩ := h
      exact ⟨g, s1, l, rfl, hr, rfl⟩
theorem kdSpan_le (l : Int) (s : RS) : (rdSpan l s).2.src.length ≤ s.src.length := by unfold rdSpan; split <;> simp [RS.fail]
theorem kdSpan_getD (l : Int) (s : RS) : ((rdSpan l s).1.getD []).length ≤ s.src.length := by
  unfold rdSpan
  split
  · simp
  · simp only
    split
    · simp
    · simp; omega
theorem kdUv_step (s : RS) (h : (rdUv s).1 ≠ 0) : (rdUv s).2.src.length + 1 ≤ s.src.length := by
  unfold rdUv at h ⊢
  split
  · rename_i v k hv
    obtain ⟨h1, h2⟩ := uvR_ne _ _ _ _ hv
    have : 0 < s.src.length := List.length_pos_iff.2 h2
    simp; omega
  · rename_i hv
    rw [hv] at h
    exact absurd rfl h
theorem kdPut_len : ∀ (m : List (Nat × List UInt8)) (k : Nat) (l : List UInt8), (putTag m k l).length ≤ m.length + 1
  | [], _, _ => by simp [putTag]
  | (k', l') :: m, k, l => by
    have := kdPut_len m k l
    simp only [putTag]
    split
    · simp
    · simp only [List.length_cons]; omega
theorem kdPut_mem {k : Nat} {l : List UInt8} {p : Nat × List UInt8} : ∀ {m : List (Nat × List UInt8)}, p ∈ putTag m k l → p ∈ m ∨ p.2 = l
  | [], h => by simp only [putTag, List.mem_singleton] at h; subst h; exact .inr rfl
  | (k', l') :: m, h => by
    simp only [putTag] at h
    split at h
    · rcases List.mem_cons.1 h with rfl | h
      · exact .inr rfl
      · exact .inl (List.mem_cons_of_mem _ h)
    · rcases List.mem_cons.1 h with rfl | h
      · exact .inl List.mem_cons_self
      · exact (kdPut_mem h).imp (List.mem_cons_of_mem _) id
theorem kdFind_lt {k : Nat} : ∀ (cs : List KCase) (j : Nat), cs.findIdx? (fun c => c.tag == k) = some j → ∃ c, cs[j]? = some c
  | [], j, h => by simp at h
  | c :: cs, j, h => by
    rw [List.findIdx?_cons] at h
    split at h
    · simp only [Option.some.injEq] at h; subst h; exact ⟨c, rfl⟩
    · cases hf : cs.findIdx? (fun c => c.tag == k) with
      | none => rw [hf] at h; simp at h
      | some i =>
        rw [hf] at h
        simp only [Option.map_some, Option.some.injEq] at h
        subst h
        exact kdFind_lt cs i hf
theorem kdFind_none {k : Nat} : ∀ (cs : List KCase), cs.findIdx? (fun c => c.tag == k) = none → cs.any (fun c => c.tag == 0) = true → k ≠ 0
  | [], _, h => by simp at h
  | c :: cs, h, h0 => by
    rw [List.findIdx?_cons] at h
    split at h
    · simp at h
    · rename_i hc
      rw [List.any_cons, Bool.or_eq_true] at h0
      rcases h0 with h0 | h0
      · intro hk
        subst hk
        exact hc h0
      · exact kdFind_none cs (by cases hf : cs.findIdx? (fun c => c.tag == k) with | none => rfl | some i => rw [hf] at h; simp at h) h0
theorem ktgDec_inv {D : Dec} {x : Bool} {cs : List KCase} (h0 : cs.any (fun c => c.tag == 0) = true) {N : Nat} {T : Nat → GV → Prop} (hT : ∀ j c old s g s4, cs[j]? = some c → s.src.length ≤ N → c.dec D x old s = some (g, s4) → T j g) :
    ∀ (n : Nat) (gs : List GV) (m : List (Nat × List UInt8)) (s : RS) (gk : List GV) (m' : List (Nat × List UInt8)) (s' : RS), s.src.length ≤ N → (∀ j g, gs[j]? = some g → T j g) → m.length + s.src.length ≤ N → (∀ p ∈ m, p.2.length ≤ N) →
    ktgDec D x cs n gs m s = some (gk, m', s') → gk.length = gs.length ∧ (∀ j g, gk[j]? = some g → T j g) ∧ m'.length ≤ N ∧ (∀ p ∈ m', p.2.length ≤ N) ∧ s'.src.length ≤ s.src.length
  | 0, gs, m, s, gk, m', s', hs, hg, hm, hp, h => by
    simp only [ktgDec, Option.some.injEq, Prod.mk.injEq] at h
    obtain ⟨rfl, rfl, rfl⟩ := h
    exact ⟨rfl, hg, by omega, hp, Nat.le_refl _⟩
  | n + 1, gs, m, s, gk, m', s', hs, hg, hm, hp, h => by
    simp only [ktgDec] at h
    have a1 := rdUv_le s
    have a2 := rdUv_le (rdUv s).2
    have a3 := kdSpan_le (rdUv (rdUv s).2).1 (rdUv (rdUv s).2).2
    have a4 := kdSpan_getD (rdUv (rdUv s).2).1 (rdUv (rdUv s).2).2
    generalize (rdSpan (rdUv (rdUv s).2).1 (rdUv (rdUv s).2).2).1 = o at a4 h
    generalize (rdSpan (rdUv (rdUv s).2).1 (rdUv (rdUv s).2).2).2 = s3 at a3 h
    cases hf : cs.findIdx? (fun c => c.tag == (rdUv s).1) with
    | none =>
      rw [hf] at h
      simp only at h
      have st := kdUv_step s (kdFind_none cs hf h0)
      have pl := kdPut_len m (rdUv s).1 (o.getD [])
      obtain ⟨k1, k2, k3, k4, k5⟩ := ktgDec_inv h0 hT n gs _ s3 gk m' s' (by omega) hg (by omega) (fun p hx => by
        rcases kdPut_mem hx with hx | hx
        · exact hp p hx
        · rw [hx]; omega) h
      exact ⟨k1, k2, k3, k4, by omega⟩
    | some j =>
      rw [hf] at h
      simp only at h
      obtain ⟨c, hc⟩ := kdFind_lt cs j hf
      have hcd : cs.getD j default = c := by rw [List.getD_eq_getElem?_getD, hc]; rfl
      rw [hcd] at h
      cases hd : c.dec D x (gs.getD j (.rcd [])) ⟨o.getD [], false, o.isNone⟩ with
      | none => rw [hd] at h; simp at h
      | some q =>
        obtain ⟨g, s4⟩ := q
        rw [hd] at h
        simp only at h
        split at h
        · simp at h
        · obtain ⟨k1, k2, k3, k4, k5⟩ := ktgDec_inv h0 hT n (gs.set j g) m s3 gk m' s' (by omega) (fun i y hy => by
            rw [List.getElem?_set] at hy
            split at hy
            · rename_i e
              split at hy
              · simp only [Option.some.injEq] at hy
                subst e hy
                exact hT _ c _ _ _ _ hc (by show (o.getD []).length ≤ N; omega) hd
              · simp at hy
            · exact hg i y hy) (by omega) hp h
          exact ⟨by rw [k1, List.length_set], k2, k3, k4, by omega⟩
def tAt : Tl → Nat → GV → Prop
  | .sub _ _ b _, 0, g => ∃ x, g = .rcd x ∧ b.ty x
  | .lst k esz b _, 0, g => ∃ isnil sz x, g = .lst isnil sz x ∧ (∀ g ∈ x, k.ty b.ty g) ∧ x.length ≤ 2147483647 ∧ (x = [] ∨ sz = esz)
  | .sub _ _ _ r, j + 1, g => tAt r j g
  | .lst _ _ _ r, j + 1, g => tAt r j g
  | _, _, _ => False
theorem fitK_app : ∀ (cs : List KCase) (t t' : Tl) (gk rest : List GV), fitK cs t = some t' → gk.length = cs.length → (∀ j g, gk[j]? = some g → tAt t j g) → t'.ty rest → t.ty (gk ++ rest)
  | [], t, t', [], rest, h, _, _, hr => by
    simp only [fitK, Option.some.injEq] at h
    subst h
    exact hr
  | c :: cs, t, t', g :: gk, rest, h, hl, hT, hr => by
    have hl' : gk.length = cs.length := by simpa using hl
    have h1 := hT 0 g rfl
    cases t with
    | sub f n b r =>
      simp only [fitK] at h
      split at h
      · obtain ⟨x, rfl, hx⟩ := h1
        exact ⟨x, gk ++ rest, rfl, hx, fitK_app cs r t' gk rest h hl' (fun j y hy => hT (j + 1) y hy) hr, rfl⟩
      · simp at h
    | lst k esz b r =>
      cases k with
      | tell f =>
        simp only [fitK] at h
        split at h
        · obtain ⟨a, z, x, rfl, q1, q2, q3⟩ := h1
          exact ⟨a, z, x, gk ++ rest, rfl, q1, q2, q3, fitK_app cs r t' gk rest h hl' (fun j y hy => hT (j + 1) y hy) hr⟩
        · simp at h
      | num c => simp [fitK] at h
      | str => simp [fitK] at h
    | _ => simp [fitK] at h
  | [], _, _, _ :: _, _, _, hl, _, _ => by simp at hl
  | _ :: _, _, _, [], _, _, hl, _, _ => by simp at hl
theorem fitFl_dgv : ∀ (fs : List KF) (b : Tl), fitFl fs b = true → b.ty (flDgv fs)
  | [], b, h => by
    cases b <;> simp only [fitFl, Bool.false_eq_true] at h
    exact ⟨[], rfl, by simp, by simp⟩
  | f :: fs, b, h => by
    cases b <;> simp only [fitFl, Bool.false_eq_true, Bool.and_eq_true] at h
    exact ⟨_, _, rfl, fitF_ty h.1.1 (fitD_ty h.1.2), fitFl_dgv fs _ h.2⟩
theorem fitFl_dec {D : Dec} (hD : D.Ok) {x : Bool} : ∀ (fs : List KF) (b : Tl) (s : RS), fitFl fs b = true → s.src.length ≤ 2147483647 → b.ty (flDec D x fs s).1 ∧ (flDec D x fs s).2.src.length ≤ s.src.length
  | [], b, s, h, hs => by
    cases b <;> simp only [fitFl, Bool.false_eq_true] at h
    simp only [flDec]
    split
    · obtain ⟨k1, k2⟩ := hD.tagty s hs
      exact ⟨⟨_, rfl, k1, k2⟩, hD.tagle s⟩
    · exact ⟨⟨[], rfl, by simp, by simp⟩, Nat.le_refl _⟩
  | f :: fs, b, s, h, hs => by
    cases b <;> simp only [fitFl, Bool.false_eq_true, Bool.and_eq_true] at h
    have e1 := hD.ty f.p x s hs
    have e2 := hD.prle f.p x s
    obtain ⟨k1, k2⟩ := fitFl_dec hD fs _ (D.prim f.p x s).2 h.2 (by omega)
    simp only [flDec]
    exact ⟨⟨_, _, rfl, fitF_ty h.1.1 e1, k1⟩, by omega⟩
theorem fitK_gv0 : ∀ (cs : List KCase) (t t' : Tl), fitK cs t = some t' → ∀ j g, (cs.map KCase.gv0)[j]? = some g → tAt t j g
  | [], _, _, _, j, g, h => by simp at h
  | c :: cs, t, t', h, j, g, hg => by
    cases t with
    | sub f n b r =>
      simp only [fitK] at h
      split at h
      · rename_i hc
        simp only [Bool.and_eq_true] at hc
        cases j with
        | zero =>
          simp only [List.map_cons, List.getElem?_cons_zero, Option.some.injEq] at hg
          subst hg
          exact ⟨flDgv c.fs, by unfold KCase.gv0; rw [if_pos hc.1.1], fitFl_dgv _ _ hc.1.2⟩
        | succ j => exact fitK_gv0 cs r t' h j g hg
      · simp at h
    | lst k esz b r =>
      cases k with
      | tell f =>
        simp only [fitK] at h
        split at h
        · rename_i hc
          simp only [Bool.and_eq_true, Bool.not_eq_true'] at hc
          cases j with
          | zero =>
            simp only [List.map_cons, List.getElem?_cons_zero, Option.some.injEq] at hg
            subst hg
            exact ⟨true, 0, [], by unfold KCase.gv0; rw [if_neg (by simp [hc.1.1])], by simp, by simp, .inl rfl⟩
          | succ j => exact fitK_gv0 cs r t' h j g hg
        · simp at h
      | num c => simp [fitK] at h
      | str => simp [fitK] at h
    | _ => simp [fitK] at h
theorem kdec_lst {D : Dec} (hD : D.Ok) {x : Bool} {c : KCase} (hc : c.lst.isNone = false) {T : GV → Prop} {old g : GV} {s s4 : RS} (hs : s.src.length ≤ 2147483647) (hel : ∀ s g s', s.src.length ≤ 2147483647 → flRcd D x c.fs s = some (g, s') → T g ∧ s'.src.length ≤ s.src.length)
    (h : c.dec D x old s = some (g, s4)) : ∃ isnil z l, g = .lst isnil z l ∧ (∀ y ∈ l, T y) ∧ l.length ≤ 2147483647 ∧ (l = [] ∨ z = c.size) := by
  unfold KCase.dec at h
  rw [if_neg (by simp [hc])] at h
  split at h
  · simp at h
  · have h1 := hD.lenle x s
    have h2 := (hD.short x s).1
    cases hd : decList (flRcd D x c.fs) (D.len x s).1.toNat (D.len x s).2 with
    | none => rw [hd] at h; simp at h
    | some q =>
      obtain ⟨l, s2⟩ := q
      rw [hd] at h
      simp only [Option.some.injEq, Prod.mk.injEq] at h
      obtain ⟨rfl, rfl⟩ := h
      obtain ⟨k1, k2, k3⟩ := decList_ty hel _ _ _ _ (by omega) hd
      refine ⟨_, _, l, rfl, k1, by omega, ?_⟩
      by_cases hz : (D.len x s).1 ≤ 0
      · left
        have : l.length = 0 := by omega
        exact List.length_eq_zero_iff.1 this
      · right; rw [if_neg (by simp [hz])]
theorem fitK_dec {D : Dec} (hD : D.Ok) {x : Bool} : ∀ (cs : List KCase) (t t' : Tl), fitK cs t = some t' → ∀ j c old s g s4, cs[j]? = some c → s.src.length ≤ 2147483647 → c.dec D x old s = some (g, s4) → tAt t j g
  | [], _, _, _, j, c, _, _, _, _, h, _, _ => by simp at h
  | c :: cs, t, t', h, j, c', old, s, g, s4, hc', hs, hd => by
    cases t with
    | sub f n b r =>
      simp only [fitK] at h
      split at h
      · rename_i hc
        simp only [Bool.and_eq_true] at hc
        cases j with
        | zero =>
          simp only [List.getElem?_cons_zero, Option.some.injEq] at hc'
          subst hc'
          unfold KCase.dec at hd
          rw [if_pos hc.1.1] at hd
          simp only [flRcd, Option.some.injEq, Prod.mk.injEq] at hd
          obtain ⟨rfl, -⟩ := hd
          exact ⟨_, rfl, (fitFl_dec hD _ _ _ hc.1.2 hs).1⟩
        | succ j => exact fitK_dec hD cs r t' h j c' old s g s4 hc' hs hd
      · simp at h
    | lst k esz b r =>
      cases k with
      | tell f =>
        simp only [fitK] at h
        split at h
        · rename_i hc
          simp only [Bool.and_eq_true, Bool.not_eq_true', decide_eq_true_eq] at hc
          cases j with
          | zero =>
            simp only [List.getElem?_cons_zero, Option.some.injEq] at hc'
            subst hc'
            obtain ⟨a, z, l, rfl, q1, q2, q3⟩ := kdec_lst hD hc.1.1 (T := (EK.tell f).ty b.ty) hs (fun s g s' hs h => by
              simp only [flRcd, Option.some.injEq, Prod.mk.injEq] at h
              obtain ⟨rfl, rfl⟩ := h
              obtain ⟨k1, k2⟩ := fitFl_dec (x := x) hD _ _ s hc.1.2 hs
              exact ⟨⟨_, rfl, k1⟩, k2⟩) hd
            exact ⟨a, z, l, rfl, q1, q2, by rw [← hc.2]; exact q3⟩
          | succ j => exact fitK_dec hD cs r t' h j c' old s g s4 hc' hs hd
        · simp at h
      | num c => simp [fitK] at h
      | str => simp [fitK] at h
    | _ => simp [fitK] at h
theorem TagE.nil {m : Bool} {e : List GV} (h : TagE m e) (hm : (!m) = true) : e = [] := by
  have : m = false := by simpa using hm
  subst this
  simpa [TagE] using h
theorem TagE.tag {m : Bool} {e : List GV} (h : TagE m e) (hm : m = true) : ∃ mm, e = [.tag mm] ∧ mm.length ≤ 2147483647 ∧ ∀ p ∈ mm, p.2.length ≤ 2147483647 := by
  subst hm
  simpa [TagE] using h
theorem fitM_dgv : ∀ (sc : Sc) (tl : Tl) (m : Bool) (e : List GV), fitM m sc tl = true → TagE m e → tl.ty (sc.dgv ++ e) := by
  intro sc
  induction sc with
  | nil =>
    intro tl m e hf he
    cases tl <;> simp only [fitM, Bool.false_eq_true] at hf
    · rw [he.nil hf]; rfl
    · obtain ⟨mm, rfl, h1, h2⟩ := he.tag hf
      exact ⟨mm, rfl, h1, h2⟩
  | prm vc i r p d rest ih =>
    intro tl m e hf he
    cases tl <;> simp only [fitM, Bool.false_eq_true, Bool.and_eq_true] at hf
    · exact ⟨_, _, rfl, fitF_ty hf.1.1 (fitD_ty hf.1.2), ih _ _ _ hf.2 he⟩
    · have e : p = .uuid := by simpa using hf.1.1
      subst e
      obtain ⟨l, h1, h2⟩ := fitD_ty hf.1.2
      exact ⟨l, rest.dgv ++ e, by rw [Sc.dgv, h1]; rfl, h2, ih _ _ _ hf.2 he⟩
  | enm vc i r p d rest ih =>
    intro tl m e hf he
    cases tl <;> simp only [fitM, Bool.false_eq_true, Bool.and_eq_true] at hf
    exact ⟨_, _, rfl, fitF_ty hf.1.1 (fitD_ty hf.1.2), ih _ _ _ hf.2 he⟩
  | lsp vc len by' d i r p rest ih =>
    intro tl m e hf he
    cases tl <;> simp only [fitM, Bool.false_eq_true, Bool.and_eq_true] at hf
    exact ⟨_, _, _, _, rfl, by simp, by simp, .inl rfl, ih _ _ _ hf.2 he⟩
  | lss vc len by' z dfl body rest ihb ih =>
    intro tl m e hf he
    cases tl with
    | lst k esz b r' =>
      cases k <;> simp only [fitM, Bool.false_eq_true, Bool.and_eq_true] at hf
      exact ⟨_, _, _, _, rfl, by simp, by simp, .inl rfl, ih _ _ _ hf.2 he⟩
    | _ => simp [fitM] at hf
  | sub vc dfl body rest ihb ih =>
    intro tl m e hf he
    cases tl <;> simp only [fitM, Bool.false_eq_true, Bool.and_eq_true] at hf
    exact ⟨_, _, rfl, (by simpa using ihb _ false [] hf.1.1 rfl), ih _ _ _ hf.2 he, rfl⟩
  | vst _ _ _ _ rest ih =>
    intro tl m e hf he
    cases tl <;> simp only [fitM, Bool.false_eq_true] at hf
  | uid vc f rest ih =>
    intro tl m e hf he
    cases tl <;> simp only [fitM, Bool.false_eq_true] at hf
    exact ⟨_, _, rfl, by simp, ih _ _ _ hf he⟩
  | tags f =>
    intro tl m e hf he
    cases tl <;> simp only [fitM, Bool.false_eq_true] at hf
    rw [he.nil hf]
    exact ⟨[], rfl, by simp, by simp⟩
  | ktg cs mid a b c ih =>
    intro tl m e hf he
    simp only [fitM, Bool.and_eq_true] at hf
    rw [he.nil hf.1.1, List.append_nil]
    cases hk : fitK cs tl with
    | none => rw [hk] at hf; simp at hf
    | some t' =>
      rw [hk] at hf
      exact fitK_app cs tl t' _ _ hk (by simp) (fitK_gv0 cs tl t' hk) (ih t' true [.tag []] hf.2 ⟨[], rfl, by simp, by simp⟩)
theorem fit_dgv (sc : Sc) (tl : Tl) (h : fit sc tl = true) : tl.ty sc.dgv := by simpa using fitM_dgv sc tl false [] h rfl
theorem fitM_ty {D : Dec} (hD : D.Ok) {ver : Int} {x : Bool} : ∀ (sc : Sc) (tl : Tl) (m : Bool) (s s' : RS) (gs : List GV), fitM m sc tl = true → s.src.length ≤ 2147483647 → sc.dec D ver x s = some (gs, s') → (∀ e, TagE m e → tl.ty (gs ++ e)) ∧ s'.src.length ≤ s.src.length := by
  intro sc
  have prim : ∀ (vc : VC) (p : PK) (d : Df) (k : TK) (s s1 : RS) (g : GV), fitF p k = true → fitD p d = true → s.src.length ≤ 2147483647 → (if vc.holds ver then some (D.prim p x s) else some (d.gv, s)) = some (g, s1) → k.ty g ∧ s1.src.length ≤ s.src.length := by
    intro vc p d k s s1 g h1 h2 hs h
    split at h
    · simp only [Option.some.injEq] at h
      have e1 := hD.ty p x s hs
      have e2 := hD.prle p x s
      rw [h] at e1 e2
      exact ⟨fitF_ty h1 e1, e2⟩
    · simp only [Option.some.injEq, Prod.mk.injEq] at h
      obtain ⟨rfl, rfl⟩ := h
      exact ⟨fitF_ty h1 (fitD_ty h2), Nat.le_refl _⟩
  induction sc with
  | nil =>
    intro tl m s s' gs hf hs h
    cases tl <;> simp only [fitM, Bool.false_eq_true] at hf
    all_goals
      simp only [Sc.dec, Option.some.injEq, Prod.mk.injEq] at h
      obtain ⟨rfl, rfl⟩ := h
    · exact ⟨fun e he => by rw [he.nil hf]; rfl, Nat.le_refl _⟩
    · refine ⟨fun e he => ?_, Nat.le_refl _⟩
      obtain ⟨mm, rfl, h1, h2⟩ := he.tag hf
      exact ⟨mm, rfl, h1, h2⟩
  | prm vc i r p d rest ih =>
    intro tl m s s' gs hf hs h
    cases tl <;> simp only [fitM, Bool.false_eq_true, Bool.and_eq_true] at hf
    · obtain ⟨g, s1, l, h1, h2, rfl⟩ := consD_some h
      obtain ⟨k1, k2⟩ := prim vc p d _ s s1 g hf.1.1 hf.1.2 hs h1
      obtain ⟨k3, k4⟩ := ih _ m s1 s' l hf.2 (by omega) h2
      exact ⟨fun e he => ⟨g, l ++ e, rfl, k1, k3 e he⟩, by omega⟩
    · have e : p = .uuid := by simpa using hf.1.1
      subst e
      obtain ⟨g, s1, l, h1, h2, rfl⟩ := consD_some h
      have : (∃ x, g = .arr x ∧ x.length = 16) ∧ s1.src.length ≤ s.src.length := by
        split at h1
        · simp only [Option.some.injEq] at h1
          have e1 := hD.ty .uuid x s hs
          have e2 := hD.prle .uuid x s
          rw [h1] at e1 e2
          exact ⟨e1, e2⟩
        · simp only [Option.some.injEq, Prod.mk.injEq] at h1
          obtain ⟨rfl, rfl⟩ := h1
          exact ⟨fitD_ty hf.1.2, Nat.le_refl _⟩
      obtain ⟨⟨y, rfl, hy⟩, k2⟩ := this
      obtain ⟨k3, k4⟩ := ih _ m s1 s' l hf.2 (by omega) h2
      exact ⟨fun e he => ⟨y, l ++ e, rfl, hy, k3 e he⟩, by omega⟩
  | enm vc i r p d rest ih =>
    intro tl m s s' gs hf hs h
    cases tl <;> simp only [fitM, Bool.false_eq_true, Bool.and_eq_true] at hf
    obtain ⟨g, s1, l, h1, h2, rfl⟩ := consD_some h
    obtain ⟨k1, k2⟩ := prim vc p d _ s s1 g hf.1.1 hf.1.2 hs h1
    obtain ⟨k3, k4⟩ := ih _ m s1 s' l hf.2 (by omega) h2
    exact ⟨fun e he => ⟨g, l ++ e, rfl, k1, k3 e he⟩, by omega⟩
  | lsp vc len by' d i r p rest ih =>
    intro tl m s s' gs hf hs h
    cases tl with
    | lst k esz body r' =>
      simp only [fitM, Bool.and_eq_true, decide_eq_true_eq] at hf
      obtain ⟨g, s1, l, h1, h2, rfl⟩ := consD_some h
      have : (∃ isnil z y, g = .lst isnil z y ∧ (∀ e ∈ y, k.ty body.ty e) ∧ y.length ≤ 2147483647 ∧ (y = [] ∨ z = esz)) ∧ s1.src.length ≤ s.src.length := by
        split at h1
        · rw [← hf.1.2]
          exact decLst_ty hD (fun s g s' hs h => by
            simp only [Option.some.injEq] at h
            have e1 := hD.ty p x s hs
            have e2 := hD.prle p x s
            rw [h] at e1 e2
            exact ⟨fitE_ty hf.1.1 e1, e2⟩) hs h1
        · simp only [Option.some.injEq, Prod.mk.injEq] at h1
          obtain ⟨rfl, rfl⟩ := h1
          exact ⟨⟨_, _, [], rfl, by simp, by simp, .inl rfl⟩, Nat.le_refl _⟩
      obtain ⟨⟨isnil, z, y, rfl, k1, k2, k3⟩, k4⟩ := this
      obtain ⟨k5, k6⟩ := ih _ m s1 s' l hf.2 (by omega) h2
      exact ⟨fun e he => ⟨isnil, z, y, l ++ e, rfl, k1, k2, k3, k5 e he⟩, by omega⟩
    | _ => simp [fitM] at hf
  | lss vc len by' z dfl body rest ihb ih =>
    intro tl m s s' gs hf hs h
    cases tl with
    | lst k esz b r' =>
      cases k with
      | tell f =>
        simp only [fitM, Bool.and_eq_true, decide_eq_true_eq] at hf
        obtain ⟨g, s1, l, h1, h2, rfl⟩ := consD_some h
        have : (∃ isnil z y, g = .lst isnil z y ∧ (∀ e ∈ y, (EK.tell f).ty b.ty e) ∧ y.length ≤ 2147483647 ∧ (y = [] ∨ z = esz)) ∧ s1.src.length ≤ s.src.length := by
          split at h1
          · rw [← hf.1.2]
            refine decLst_ty hD (fun s g s' hs h => ?_) hs h1
            unfold rcdD at h
            cases hd : body.dec D ver x s with
            | none => rw [hd] at h; simp at h
            | some q =>
              obtain ⟨gl, s2⟩ := q
              rw [hd] at h
              simp only [Option.some.injEq, Prod.mk.injEq] at h
              obtain ⟨rfl, rfl⟩ := h
              obtain ⟨k1, k2⟩ := ihb b false s s2 gl hf.1.1 hs hd
              replace k1 : b.ty gl := by simpa using k1 [] rfl
              exact ⟨⟨gl, rfl, k1⟩, k2⟩
          · simp only [Option.some.injEq, Prod.mk.injEq] at h1
            obtain ⟨rfl, rfl⟩ := h1
            exact ⟨⟨_, _, [], rfl, by simp, by simp, .inl rfl⟩, Nat.le_refl _⟩
        obtain ⟨⟨isnil, z, y, rfl, k1, k2, k3⟩, k4⟩ := this
        obtain ⟨k5, k6⟩ := ih _ m s1 s' l hf.2 (by omega) h2
        exact ⟨fun e he => ⟨isnil, z, y, l ++ e, rfl, k1, k2, k3, k5 e he⟩, by omega⟩
      | num c => simp [fitM] at hf
      | str => simp [fitM] at hf
    | _ => simp [fitM] at hf
  | sub vc dfl body rest ihb ih =>
    intro tl m s s' gs hf hs h
    cases tl <;> simp only [fitM, Bool.false_eq_true, Bool.and_eq_true] at hf
    obtain ⟨g, s1, l, h1, h2, rfl⟩ := consD_some h
    rename_i f n b r'
    have : (∃ x, g = .rcd x ∧ b.ty x) ∧ s1.src.length ≤ s.src.length := by
      split at h1
      · unfold rcdD at h1
        cases hd : body.dec D ver x s with
        | none => rw [hd] at h1; simp at h1
        | some q =>
          obtain ⟨gl, s2⟩ := q
          rw [hd] at h1
          simp only [Option.some.injEq, Prod.mk.injEq] at h1
          obtain ⟨rfl, rfl⟩ := h1
          obtain ⟨k1, k2⟩ := ihb b false s s2 gl hf.1.1 hs hd
          replace k1 : b.ty gl := by simpa using k1 [] rfl
          exact ⟨⟨gl, rfl, k1⟩, k2⟩
      · simp only [Option.some.injEq, Prod.mk.injEq] at h1
        obtain ⟨rfl, rfl⟩ := h1
        exact ⟨⟨_, rfl, fit_dgv body b hf.1.1⟩, Nat.le_refl _⟩
    obtain ⟨⟨y, rfl, hy⟩, k2⟩ := this
    obtain ⟨k3, k4⟩ := ih _ m s1 s' l hf.2 (by omega) h2
    exact ⟨fun e he => ⟨y, l ++ e, rfl, hy, k3 e he, rfl⟩, by omega⟩
  | vst _ _ _ _ rest ih =>
    intro tl m s s' gs hf hs h
    cases tl <;> simp only [fitM, Bool.false_eq_true] at hf
  | uid vc f rest ih =>
    intro tl m s s' gs hf hs h
    cases tl <;> simp only [fitM, Bool.false_eq_true] at hf
    obtain ⟨g, s1, l, h1, h2, rfl⟩ := consD_some h
    have : (∃ x, g = .arr x ∧ x.length = 16) ∧ s1.src.length ≤ s.src.length := by
      split at h1
      · simp only [Option.some.injEq] at h1
        have e1 := hD.ty .uuid x s hs
        have e2 := hD.prle .uuid x s
        rw [h1] at e1 e2
        exact ⟨e1, e2⟩
      · simp only [Option.some.injEq, Prod.mk.injEq] at h1
        obtain ⟨rfl, rfl⟩ := h1
        exact ⟨⟨_, rfl, by simp⟩, Nat.le_refl _⟩
    obtain ⟨⟨y, rfl, hy⟩, k2⟩ := this
    obtain ⟨k3, k4⟩ := ih _ m s1 s' l hf (by omega) h2
    exact ⟨fun e he => ⟨y, l ++ e, rfl, hy, k3 e he⟩, by omega⟩
  | tags f =>
    intro tl m s s' gs hf hs h
    cases tl <;> simp only [fitM, Bool.false_eq_true] at hf
    simp only [Sc.dec] at h
    split at h
    · simp only [Option.some.injEq, Prod.mk.injEq] at h
      obtain ⟨rfl, rfl⟩ := h
      obtain ⟨k1, k2⟩ := hD.tagty s hs
      exact ⟨fun e he => by rw [he.nil hf]; exact ⟨_, rfl, k1, k2⟩, hD.tagle s⟩
    · simp only [Option.some.injEq, Prod.mk.injEq] at h
      obtain ⟨rfl, rfl⟩ := h
      exact ⟨fun e he => by rw [he.nil hf]; exact ⟨[], rfl, by simp, by simp⟩, Nat.le_refl _⟩
  | ktg cs mid a b c ih =>
    intro tl m s s' gs hf hs h
    simp only [fitM, Bool.and_eq_true] at hf
    cases hk : fitK cs tl with
    | none => rw [hk] at hf; simp at hf
    | some t' =>
      rw [hk] at hf
      simp only [Sc.dec] at h
      cases hd : mid.dec D ver x s with
      | none => rw [hd] at h; simp [ktgJ] at h
      | some q =>
        obtain ⟨gm, s1⟩ := q
        rw [hd] at h
        obtain ⟨k1, k2⟩ := ih t' true s s1 gm hf.2 hs hd
        have a1 := rdUv_le s1
        simp only [ktgJ] at h
        split at h
        · split at h
          · simp at h
          · rename_i gk mm s2 hq
            simp only [Option.some.injEq, Prod.mk.injEq] at h
            obtain ⟨rfl, rfl⟩ := h
            obtain ⟨p1, p2, p3, p4, p5⟩ := ktgDec_inv (T := tAt tl) hf.1.2 (fitK_dec hD cs tl t' hk) _ _ _ _ _ _ _ (by omega) (fitK_gv0 cs tl t' hk) (by simp; omega) (by simp) hq
            refine ⟨fun e he => ?_, by omega⟩
            rw [he.nil hf.1.1, List.append_nil]
            exact fitK_app cs tl t' _ _ hk (by rw [p1]; simp) p2 (k1 _ ⟨mm, rfl, p3, p4⟩)
        · simp only [Option.some.injEq, Prod.mk.injEq] at h
          obtain ⟨rfl, rfl⟩ := h
          refine ⟨fun e he => ?_, k2⟩
          rw [he.nil hf.1.1, List.append_nil]
          exact fitK_app cs tl t' _ _ hk (by simp) (fitK_gv0 cs tl t' hk) (k1 _ ⟨[], rfl, by simp, by simp⟩)
theorem fit_ty {D : Dec} (hD : D.Ok) {ver : Int} {x : Bool} (sc : Sc) (tl : Tl) (s s' : RS) (gs : List GV) (h1 : fit sc tl = true) (h2 : s.src.length ≤ 2147483647) (h3 : sc.dec D ver x s = some (gs, s')) : tl.ty gs ∧ s'.src.length ≤ s.src.length := by
  obtain ⟨k1, k2⟩ := fitM_ty hD sc tl false s s' gs h1 h2 h3
  exact ⟨by simpa using k1 [] rfl, k2⟩
end Go.Msk

namespace Go.Msk
open Go.RowKit
set_option maxRecDepth 100000
section
variable {P : Program} {F : Nat → Nat}
attribute [local simp] bnd wpC wpR RI.wp gOk RK.run thenC inBlockC updo upd ev args0 postC rvals RV.val tup_one isShift
theorem got_loop2 {N : Nat} {w w3 : World} {Pb b2 Ob : Nat} {n : Int} {sv lv uv0 : Value} {null : Bool} {u : List (Nat × List UInt8)} {uss : List (List Value)} {σ : Sl} {Q : Exit → Sl → World → Prop}
    (hw : Mod [] w w3 ∨ (Mod [Ob] w w3)) (_hN : N ≤ w.heap.size) (hu : SlC (fun b => b < N) w uv0 u.length uss.flatten) (hr : RepU (fun b => b < N) w u uss) (hlen : u.length ≤ 2147483647)
    (hob : Blk w3 Ob [.int .i64 n, sv, .bool null, lv, .slice none 0 0]) (hoN : N ≤ Ob)
    (h1 : σ 1 = .pointer (some ⟨Pb, 0, none⟩)) (h2 : σ 2 = .pointer (some ⟨b2, 0, none⟩)) (h3 : σ 3 = .pointer (some ⟨Ob, 0, none⟩)) (hpb : w3.cell? ⟨Pb, 4, none⟩ = some uv0)
    (hQ : ∀ σ' w' uv ucs, σ' 2 = .pointer (some ⟨b2, 0, none⟩) → σ' 3 = .pointer (some ⟨Ob, 0, none⟩) → GU w3 w' Ob n sv lv uv null N u ucs → ucs.length = u.length → Q .normal σ' w') :
    wpC P (.seq (.blk [⟨some 30, .fad (.tmp 1) 4, none⟩, ⟨some 31, .ld (.tmp 30), none⟩, ⟨some 32, .len (.tmp 31), none⟩, ⟨some 33, .mv (.const (.int .i64 0)), none⟩])
      (.block 2 (.loop (.seq (.blk [⟨some 34, .bin .lss (.tmp 33) (.tmp 32), none⟩]) (.seq (.cond (.tmp 34) .skip (.exit 2))
        (.seq (.block 3 (.seq (.blk [⟨some 35, .iad (.tmp 31) (.tmp 33) 2, none⟩, ⟨some 36, .ldn (.tmp 35) 2, none⟩, ⟨some 7, .alloc uzero, none⟩, ⟨none, .st (.tmp 7) 2 (.tmp 36), none⟩])
            (.blk [⟨some 37, .fad (.tmp 3) 4, none⟩, ⟨some 38, .ld (.tmp 37), none⟩, ⟨some 39, .fad (.tmp 7) 0, none⟩, ⟨some 40, .ld (.tmp 39), none⟩, ⟨some 41, .fad (.tmp 7) 1, none⟩, ⟨some 42, .ld (.tmp 41), none⟩,
                ⟨some 43, .build uzero [(0, 1, .tmp 40), (1, 1, .tmp 42)], none⟩, ⟨some 44, .bslice 1 uzero [(0, 2, .tmp 43)], none⟩, ⟨some 45, .append (.tmp 38) (.tmp 44) 2 32, none⟩, ⟨some 46, .fad (.tmp 3) 4, none⟩, ⟨none, .st (.tmp 46) 1 (.tmp 45), none⟩])))
          (.blk [⟨some 47, .bin .add (.tmp 33) (.const (.int .i64 1)), none⟩, ⟨some 33, .mv (.tmp 47), none⟩])))))))
      Q σ w3 := by
  obtain ⟨lb, lc, elv⟩ := hu.shape
  have hol := hob.lt
  have hw' : Mod [Ob] w w3 := hw.elim (·.nil) id
  rw [wpC_seq, wpC_blk]
  refine wpR_step (v := .pointer (some ⟨Pb, 4, none⟩)) (by simp [RK.val?, h1, Addr.add_mk]) ?_
  refine wpR_step (v := uv0) (by simp [RK.val?, hpb]) ?_
  refine wpR_step (v := .int .i64 u.length) (by simp [RK.val?, elv]) ?_
  refine wpR_step (v := .int .i64 0) (by simp [RK.val?]) ?_
  simp only [wpR, thenC]
  rw [wpC_block, wpC_loop]
  refine ⟨fun σ1 w1 => ∃ j uv ucs, j ≤ u.length ∧ σ1 2 = .pointer (some ⟨b2, 0, none⟩) ∧ σ1 3 = .pointer (some ⟨Ob, 0, none⟩) ∧ σ1 31 = uv0 ∧ σ1 32 = .int .i64 u.length ∧ σ1 33 = .int .i64 j ∧
      GU w3 w1 Ob n sv lv uv null N (u.take j) ucs ∧ ucs.length = j,
    fun σ1 _ => u.length - (match σ1 33 with | .int _ j => j.toNat | _ => 0), ⟨0, .slice none 0 0, [], Nat.zero_le _, by simp [h2], by simp [h3], by simp, by simp, by simp, ⟨hob, ⟨by simp, .inl ⟨rfl, rfl⟩⟩, by simpa using .nil, Mod.refl _ _, hol, hoN⟩, rfl⟩, ?_⟩
  rintro σ1 w1 ⟨j, uv, ucs, hj, s2, s3, s31, s32, s33, hgs, htl⟩
  rw [wpC_seq, wpC_blk]
  refine wpR_step (v := .bool (decide ((j : Int) < u.length))) (by simp [RK.val?, s32, s33, intBin]) ?_
  simp only [wpR, thenC]
  rw [wpC_seq]
  by_cases hlt : j < u.length
  · rw [wpC_cond_t (by simp [hlt]), wpC_skip]
    simp only [thenC]
    rw [wpC_seq, wpC_block, wpC_seq, wpC_blk]
    obtain ⟨tj, htj⟩ : ∃ t, u[j]? = some t := ⟨u[j], List.getElem?_eq_getElem hlt⟩
    have hmw : Mod [Ob] w w1 := hw'.trans hgs.mod
    have hNob : ∀ b ∈ [Ob], ¬ b < N := fun b hb => by simp only [List.mem_singleton] at hb; have := hgs.nob; omega
    obtain ⟨vj, hcj, hrj⟩ := (hr.mod (ok' := fun b => b < N) hmw hNob fun _ _ h => h).nth htj
    obtain ⟨pa, pc, ep, -, hcells⟩ := (hu.mod (ok' := fun b => b < N) hmw hNob fun _ _ h => h).flat hr.length hr.two hcj
    obtain ⟨vb, vc, evj⟩ := hrj.shape
    refine wpR_step (v := .pointer (some (pa.add (j * 2)))) (by simp [RK.val?, s31, s33, ep, hlt]) ?_
    refine wpR_step (v := .agg [.int .u32 tj.1, vj].toArray) (by simp [RK.val?, hcells]) ?_
    refine wpR_run ?_
    intro Ty
    obtain ⟨q1, q2, q3⟩ := new_put w1 uzero [.int .u32 tj.1, vj] Ty rfl (by rw [evj]; simp [Value.oneCell'])
    refine wpR_run ?_
    have ec' : (Value.agg [.int .u32 tj.1, vj].toArray).cells.toList = [.int .u32 tj.1, vj] := rfl
    simp only [RK.run, ev, updo, upd]
    simp only [if_true, show (36 : Nat) ≠ 7 by decide, if_false, ec']
    refine ⟨rfl, q1, ?_⟩
    generalize hw4 : putCells (w1.alloc (.cells uzero.toArray Ty)) ⟨w1.heap.size, 0, none⟩ 0 [.int .u32 tj.1, vj] = w4 at q2 q3
    simp only [wpR, thenC]
    rw [wpC_blk]
    have hob4 := hgs.ob.mod q3 (by simp)
    have hraw4 : LRaw2 w4 w3.heap.size uv ucs := ⟨hgs.raw.two, hgs.raw.sl.imp id fun ⟨BA, cap, rest, g1, g2, g3, g4, g5⟩ => ⟨BA, cap, rest, g1, g2, g3, g4.mod q3 (by simp), g5⟩⟩
    have c0 := q2.cell 0
    have c1 := q2.cell 1
    refine wpR_step (v := .pointer (some ⟨Ob, 4, none⟩)) (by simp [RK.val?, s3, Addr.add_mk]) ?_
    refine wpR_step (v := uv) (by simp [RK.val?]; exact hob4.cell 4) ?_
    refine wpR_step (v := .pointer (some ⟨w1.heap.size, 0, none⟩)) (by simp [RK.val?, Addr.add_mk]) ?_
    refine wpR_step (v := .int .u32 tj.1) (by simp [RK.val?]; simpa using c0) ?_
    refine wpR_step (v := .pointer (some ⟨w1.heap.size, 1, none⟩)) (by simp [RK.val?, Addr.add_mk]) ?_
    refine wpR_step (v := vj) (by simp [RK.val?]; simpa using c1) ?_
    refine wpR_step (v := .agg [.int .u32 tj.1, vj].toArray) (by simp [RK.val?, uzero, fillL, splice, Value.cells, evj]) ?_
    refine wpR_run ?_
    have hf : fillL (zrep 1 uzero) [(0, 2, Value.agg [.int .u32 tj.1, vj].toArray)] = some [.int .u32 tj.1, vj] := by
      simp [zrep, uzero, fillL, splice, Value.cells]
    simp only [RK.run, List.map_cons, List.map_nil, ev, updo, upd, if_true, hf]
    intro T5
    have hm5 : Mod [] w4 (w4.alloc (.cells [.int .u32 tj.1, vj].toArray T5)) := Mod.alloc _ _ _
    have hb5 : Blk (w4.alloc (.cells [.int .u32 tj.1, vj].toArray T5)) w4.heap.size [.int .u32 tj.1, vj] := Blk.new _ _ _
    generalize w4.alloc (.cells [.int .u32 tj.1, vj].toArray T5) = w5 at hm5 hb5
    have hob5 := hob4.mod hm5 (by simp)
    have hraw5 : LRaw2 w5 w3.heap.size uv ucs := ⟨hraw4.two, hraw4.sl.imp id fun ⟨BA, cap, rest, g1, g2, g3, g4, g5⟩ => ⟨BA, cap, rest, g1, g2, g3, g4.mod hm5 (by simp), g5⟩⟩
    have hm15 : Mod [] w1 w5 := q3.trans hm5
    have hm35 : Mod [Ob] w3 w5 := hgs.mod.trans hm15.nil
    refine wpR_run ?_
    refine append_two (lv := uv) (n0 := w3.heap.size) (by simp) hraw5 hm35.size (by simp) hb5 rfl (by rw [evj]; simp [Value.oneCell']) (by omega) fun uv' w6 hraw6 hown => ?_
    have hlob := hgs.lob
    have hge : ∀ b, own uv = some b → w3.heap.size ≤ b := fun b hb => by
      rcases hraw5.sl with ⟨e, -⟩ | ⟨BA, cap, rest, e, g2, g3, -⟩
      · rw [e] at hb; simp [own] at hb
      · rw [e] at hb; simp only [own, Option.some.injEq] at hb; omega
    have hnN : N ≤ w3.heap.size := by have := hgs.nob; omega
    have key : Blk w6 Ob [.int .i64 n, sv, .bool null, lv, uv] ∧ Mod [Ob] w3 w6 ∧ RepU (fun b => b < N) w6 (u.take j ++ [tj]) (ucs ++ [[.int .u32 tj.1, vj]]) := by
      have hS : ∀ b ∈ (own uv).toList, own uv = some b := fun b hb => by simpa using hb
      have hrep5 : RepU (fun b => b < N) w5 (u.take j ++ [tj]) (ucs ++ [[.int .u32 tj.1, vj]]) := (hgs.rep.mod hm15 (by simp) fun _ _ h => h).append (.cons (hrj.mod hm15 (by simp) fun _ _ h => h) .nil)
      rcases hown with ⟨⟨ho, hm⟩, -⟩ | ⟨ho, hm⟩
      · refine ⟨hob5.mod hm (fun hc => by have := hge _ (hS _ hc); omega), ?_, hrep5.mod hm (fun b hb hc => by have := hge _ (hS _ hb); omega) fun _ _ h => h⟩
        refine ⟨hm.os.trans hm35.os, hm.tape.trans hm35.tape, hm.output.trans hm35.output, Nat.le_trans hm35.size hm.size, fun k hk hn => ?_⟩
        rw [hm.block k (Nat.lt_of_lt_of_le hk hm35.size) (fun hc => by have := hge _ (hS _ hc); omega)]
        exact hm35.block k hk hn
      · exact ⟨hob5.mod hm (by simp), hm35.trans hm.nil, hrep5.mod hm (by simp) fun _ _ h => h⟩
    obtain ⟨k1, k2, k3⟩ := key
    have o1 : uv'.cells = #[uv'] ∧ uv'.oneCell' = true := by
      rcases hraw6.sl with ⟨e, -⟩ | ⟨BA, cap, rest, e, -⟩ <;> subst e <;> exact ⟨rfl, rfl⟩
    have hput : Mod [Ob] w6 (putCells w6 ⟨Ob, 4, none⟩ 0 [uv']) := Mod.put (by simp)
    have hp := k1.put (o := 4) (vs := [uv']) (by simp)
    have e1 : splice [Value.int .i64 n, sv, .bool null, lv, uv] 4 [uv'] = [.int .i64 n, sv, .bool null, lv, uv'] := by simp [splice]
    rw [e1] at hp
    refine wpR_step (v := .pointer (some ⟨Ob, 4, none⟩)) (by simp [RK.val?, s3, Addr.add_mk]) ?_
    refine wpR_run ?_
    simp only [RK.run, ev, updo, upd, if_true, show (45 : Nat) ≠ 46 by decide, if_false, o1.1]
    refine ⟨rfl, stOk_one k1 (by simp) o1.2, ?_⟩
    have hge' : ∀ b, own uv' = some b → w3.heap.size ≤ b := fun b hb => by
      rcases hraw6.sl with ⟨e, -⟩ | ⟨BA, cap, rest, e, g2, g3, -⟩
      · rw [e] at hb; simp [own] at hb
      · rw [e] at hb; simp only [own, Option.some.injEq] at hb; omega
    simp only [wpR, inBlockC, thenC]
    have hw : IntKind.i64.wrap ((j : Int) + 1) = ((j + 1 : Nat) : Int) := by
      simp only [IntKind.wrap, IntKind.bits, IntKind.signed]; simp; omega
    rw [wpC_blk]
    refine wpR_step (v := .int .i64 ((j + 1 : Nat) : Int)) (by simp [RK.val?, intBin, s33, hw]) ?_
    refine wpR_step (v := .int .i64 ((j + 1 : Nat) : Int)) (by simp [RK.val?]) ?_
    simp only [wpR, thenC]
    refine ⟨⟨j + 1, uv', ucs ++ [[.int .u32 tj.1, vj]], hlt, by simp [s2], by simp [s3], by simp [s31], by simp [s32], by simp, ?_, by simp [htl]⟩, ?_⟩
    · rw [List.take_add_one, htj]
      refine ⟨by simpa using hp, ⟨hraw6.two, hraw6.sl.imp id fun ⟨BA, cap, rest, g1, g2, g3, g4, g5⟩ => ⟨BA, cap, rest, g1, g2, g3, by simpa using g4.mod hput (by have := hge' BA (by rw [g1]; rfl); simp; omega), g5⟩⟩, ?_, by simpa using k2.trans hput, hlob, hgs.nob⟩
      exact k3.mod hput (fun b hb hc => by simp only [List.mem_singleton] at hb; have := hgs.nob; omega) fun _ _ h => h
    · simp [s33]; show u.length - (j + 1) < u.length - j; omega
  · rw [wpC_cond_f (by simp; omega)]
    have hje : j = u.length := by omega
    subst hje
    rw [List.take_length] at hgs
    simp only [wpC, inBlockC, thenC, if_true]
    exact hQ _ w1 uv ucs (by simp [s2]) (by simp [s3]) hgs htl
end
end Go.Msk

namespace Go.Msk
open Go.RowKit
set_option maxRecDepth 100000
mutual
/-- Lists within what Go can hold. -/
def TR.small : TR → Prop
  | .mk _ s _ l u => s.length ≤ 2147483647 ∧ l.length ≤ 2147483647 ∧ u.length ≤ 2147483647 ∧ (∀ x ∈ u, x.2.length ≤ 2147483647) ∧ TR.smallL l
def TR.smallL : List TR → Prop
  | [] => True
  | t :: l => t.small ∧ TR.smallL l
end
theorem TR.smallL_mem : ∀ {l : List TR}, TR.smallL l → ∀ t ∈ l, t.small
  | [], _, t, h => by simp at h
  | a :: l, hs, t, h => by
    simp only [TR.smallL] at hs
    rcases List.mem_cons.1 h with rfl | h
    · exact hs.1
    · exact TR.smallL_mem hs.2 t h
section
variable {P : Program} {F : Nat → Nat}
theorem LRaw.slc {w : World} {n0 : Nat} {lv : Value} {css : List (List Value)} (h : LRaw w n0 lv css) {ok : Nat → Prop} (hok : ∀ b, n0 ≤ b → ok b) : SlC ok w lv css.length css.flatten := by
  rcases h.sl with ⟨rfl, rfl⟩ | ⟨BA, cap, rest, rfl, q2, q3, q4, q5⟩
  · exact SlC.nil
  · refine ⟨some ⟨BA, 0, none⟩, cap, rfl, q2, fun h => by simp at h, fun a ha _ => ?_⟩
    simp only [Option.some.injEq] at ha; subst ha
    refine ⟨hok _ q3, q4.lt, ?_⟩
    have := q4.cells.take css.flatten.length
    rwa [List.take_left] at this
theorem LRaw2.slc {w : World} {n0 : Nat} {lv : Value} {css : List (List Value)} (h : LRaw2 w n0 lv css) {ok : Nat → Prop} (hok : ∀ b, n0 ≤ b → ok b) : SlC ok w lv css.length css.flatten := by
  rcases h.sl with ⟨rfl, rfl⟩ | ⟨BA, cap, rest, rfl, q2, q3, q4, q5⟩
  · exact SlC.nil
  · refine ⟨some ⟨BA, 0, none⟩, cap, rfl, q2, fun h => by simp at h, fun a ha _ => ?_⟩
    simp only [Option.some.injEq] at ha; subst ha
    refine ⟨hok _ q3, q4.lt, ?_⟩
    have := q4.cells.take css.flatten.length
    rwa [List.take_left] at this
theorem got_one (hm : P.follows .mixedOrders = true) (h : liftF P (F lGot) = some (ir_lGot F)) {n : Int} {s : List UInt8} {null : Bool} {l : List TR} {u : List (Nat × List UInt8)} (hf : ∀ t ∈ l, GotAt P (F lGot) t)
    (hl : l.length ≤ 2147483647) (hul : u.length ≤ 2147483647) : GotAt P (F lGot) (.mk n s null l u) := by
  intro N w cs hN hrep
  obtain ⟨sv, lv0, uv0, css, uss, rfl, h1, h2, h3, h4, h5⟩ : ∃ sv lv0 uv0 css uss, cs = [.int .i64 n, sv, .bool null, lv0, uv0] ∧ SlC (fun b => b < N) w sv s.length (u8s s) ∧ SlC (fun b => b < N) w lv0 l.length css.flatten ∧ RepTL (fun b => b < N) w l css ∧
      SlC (fun b => b < N) w uv0 u.length uss.flatten ∧ RepU (fun b => b < N) w u uss := by
    cases hrep with | mk h1 h2 h3 h4 h5 => exact ⟨_, _, _, _, _, rfl, h1, h2, h3, h4, h5⟩
  refine call_of h hm (by simp) ?_
  have a0 : args0 [.agg [.int .i64 n, sv, .bool null, lv0, uv0].toArray] 0 = .agg [.int .i64 n, sv, .bool null, lv0, uv0].toArray := rfl
  generalize args0 [.agg [.int .i64 n, sv, .bool null, lv0, uv0].toArray] = σ0 at a0 ⊢
  rw [wpC_seq, wpC_blk]
  refine wpR_run ?_
  have ec : (Value.agg [.int .i64 n, sv, .bool null, lv0, uv0].toArray).cells.toList = [.int .i64 n, sv, .bool null, lv0, uv0] := rfl
  simp only [RK.run, ev, a0, ec]
  intro T1
  have b1 := Blk.new w [.int .i64 n, sv, .bool null, lv0, uv0] T1
  have m1 : Mod [] w (w.alloc (.cells [.int .i64 n, sv, .bool null, lv0, uv0].toArray T1)) := Mod.alloc _ _ _
  have z1 : (w.alloc (.cells [.int .i64 n, sv, .bool null, lv0, uv0].toArray T1)).heap.size = w.heap.size + 1 := by simp
  generalize w.alloc (.cells [.int .i64 n, sv, .bool null, lv0, uv0].toArray T1) = w1 at b1 m1 z1 ⊢
  refine wpR_run ?_
  have hz : ([Value.int .i64 0, .slice none 0 0, .bool false, .slice none 0 0, .slice none 0 0] : List Value) = tzero := rfl
  rw [hz]
  simp only [RK.run]
  intro T2
  have b2 := Blk.new w1 tzero T2
  have m2 : Mod [] w1 (w1.alloc (.cells tzero.toArray T2)) := Mod.alloc _ _ _
  have z2 : (w1.alloc (.cells tzero.toArray T2)).heap.size = w1.heap.size + 1 := by simp
  generalize w1.alloc (.cells tzero.toArray T2) = w2 at b2 m2 z2 ⊢
  simp only [wpR, thenC]
  rw [wpC_seq, wpC_blk]
  have b12 := b1.mod m2 (by simp)
  have s1 : ∀ x y, updo (updo σ0 (some 1) x) (some 2) y 1 = x := fun x y => by simp [updo, upd]
  have c0 := b12.cell 0
  have c1 := b12.cell 1
  have c2 := b12.cell 2
  simp only [List.getElem?_cons_zero, List.getElem?_cons_succ] at c0 c1 c2
  obtain ⟨svb, svc, esv⟩ := h1.shape
  refine wpR_step (v := .pointer (some ⟨w.heap.size, 0, none⟩)) (by simp [RK.val?, ev, updo, upd, Addr.add_mk]) ?_
  refine wpR_step (v := .int .i64 n) (by simp only [RK.val?, ev, updo, upd_same, c0]) ?_
  refine wpR_step (v := .pointer (some ⟨w.heap.size, 1, none⟩)) (by simp [RK.val?, ev, updo, upd, Addr.add_mk]) ?_
  refine wpR_step (v := sv) (by simp only [RK.val?, ev, updo, upd_same, c1]) ?_
  refine wpR_step (v := .pointer (some ⟨w.heap.size, 2, none⟩)) (by simp [RK.val?, ev, updo, upd, Addr.add_mk]) ?_
  refine wpR_step (v := .bool null) (by simp only [RK.val?, ev, updo, upd_same, c2]) ?_
  refine wpR_step (v := .agg [.int .i64 n, sv, .bool null, .slice none 0 0, .slice none 0 0].toArray) (by simp [RK.val?, ev, updo, upd, tzero, fillL, splice, Value.cells, esv]) ?_
  refine wpR_run ?_
  simp only [RK.run]
  intro T3
  obtain ⟨q1, q2, q3⟩ := new_put w2 tzero [.int .i64 n, sv, .bool null, .slice none 0 0, .slice none 0 0] T3 rfl (by rw [esv]; simp [Value.oneCell'])
  refine wpR_run ?_
  have ec2 : (Value.agg [.int .i64 n, sv, .bool null, .slice none 0 0, .slice none 0 0].toArray).cells.toList = [.int .i64 n, sv, .bool null, .slice none 0 0, .slice none 0 0] := rfl
  simp only [RK.run, ev, updo, upd]
  simp only [if_true, show (14 : Nat) ≠ 3 by decide, if_false, ec2]
  refine ⟨rfl, q1, ?_⟩
  have hsz3 : (putCells (w2.alloc (.cells tzero.toArray T3)) ⟨w2.heap.size, 0, none⟩ 0 [.int .i64 n, sv, .bool null, .slice none 0 0, .slice none 0 0]).heap.size = w2.heap.size + 1 := by rw [size_putCells]; simp
  generalize putCells (w2.alloc (.cells tzero.toArray T3)) ⟨w2.heap.size, 0, none⟩ 0 [.int .i64 n, sv, .bool null, .slice none 0 0, .slice none 0 0] = w3 at q2 q3 hsz3
  have m03 : Mod [] w w3 := (m1.trans m2).trans q3
  simp only [wpR, thenC]
  rw [wpC_seq]
  refine got_loop1 (Pb := w.heap.size) (b2 := w1.heap.size) (Ob := w2.heap.size) (n := n) (sv := sv) (null := null) hf m03 hN h2 h3 hl q2 (by omega) (by simp [upd]) (by simp [upd]) (by simp [upd]) ((b12.mod q3 (by simp)).cell 3) fun σ4 w4 lv tcs t1 t2 t3 hgs hln => ?_
  simp only [thenC]
  rw [wpC_seq]
  have m04 : Mod [w2.heap.size] w w4 := m03.nil.trans hgs.mod
  have nO : ∀ b ∈ [w2.heap.size], ¬ b < N := fun b hb => by simp only [List.mem_singleton] at hb; omega
  refine got_loop2 (Pb := w.heap.size) (b2 := w1.heap.size) (Ob := w2.heap.size) (n := n) (sv := sv) (null := null) (.inr m04) hN h4 h5 hul hgs.ob (by omega) t1 t2 t3 (((b12.mod q3 (by simp)).mod hgs.mod (by simp; omega)).cell 4) fun σ5 w5 uv ucs r2 r3 hgu hun => ?_
  simp only [thenC]
  rw [wpC_seq, wpC_blk]
  refine wpR_step (v := .agg [.int .i64 n, sv, .bool null, lv, uv].toArray) (by simp only [RK.val?, ev, r3, cellsAt_of' hgu.ob.cells (n := 5) rfl, Option.map_some]) ?_
  have m05 : Mod [w2.heap.size] w w5 := m04.trans hgu.mod
  have m45 := hgu.mod
  have own_ne : ∀ b, own lv = some b → w3.heap.size ≤ b := fun b hb => (hgs.raw.own hb).1
  have hraw5 : LRaw w5 w3.heap.size lv tcs := hgs.raw.mod m45 (fun b hb => by have := own_ne b hb; simp; omega)
  have hrep5 : RepTL (fun b => b < N ∨ (w3.heap.size ≤ b ∧ own lv ≠ some b)) w5 l tcs := hgs.rep.mod m45 (fun b hb hc => by
    simp only [List.mem_singleton] at hb
    rcases hc with hc | hc <;> omega) fun _ _ h => h
  have hb25 : Blk w5 w1.heap.size tzero := ((b2.mod q3 (by simp)).mod hgs.mod (by simp; omega)).mod m45 (by simp; omega)
  have hs5 := h1.mod (ok' := fun b => b < N) m05 nO fun _ _ h => h
  have hfin : RepT (fun b => (b < N ∨ w.heap.size ≤ b) ∧ b ≠ w1.heap.size) w5 (.mk n s null l u) [.int .i64 n, sv, .bool null, lv, uv] := by
    refine .mk (css := tcs) (uss := ucs) (hs5.mod (Mod.refl [] _) (by simp) fun b _ hb => ⟨.inl hb, by omega⟩) ?_ (hrep5.mod (Mod.refl [] _) (by simp) fun b _ hb => ?_) ?_ (hgu.rep.mod (Mod.refl [] _) (by simp) fun b _ hb => ⟨.inl hb, by omega⟩)
    · rw [← hln]; exact hraw5.slc fun b hb => ⟨.inr (by omega), by omega⟩
    · rcases hb with hb | hb
      · exact ⟨.inl hb, by omega⟩
      · exact ⟨.inr (by omega), by omega⟩
    · rw [← hun]; exact hgu.raw.slc fun b hb => ⟨.inr (by have := hgs.mod.size; omega), by have := hgs.mod.size; omega⟩
  have hput : Mod [w1.heap.size] w5 (putCells w5 ⟨w1.heap.size, 0, none⟩ 0 [.int .i64 n, sv, .bool null, lv, uv]) := Mod.put (by simp)
  have hp := hb25.put (o := 0) (vs := [.int .i64 n, sv, .bool null, lv, uv]) (by simp [tzero])
  rw [splice_all (by rfl)] at hp
  refine wpR_run ?_
  have ec3 : (Value.agg [.int .i64 n, sv, .bool null, lv, uv].toArray).cells.toList = [.int .i64 n, sv, .bool null, lv, uv] := rfl
  simp only [RK.run, ev, updo, upd]
  simp only [show (2 : Nat) ≠ 48 by decide, if_false, if_true, r2, ec3]
  refine ⟨rfl, stOk_many hb25 (by simp [tzero]) hfin.oneCell, ?_⟩
  simp only [wpR, wpC, thenC, postC, rvals, List.mapM_cons, List.mapM_nil, RV.val, upd, show (2 : Nat) ≠ 48 by decide, if_false, r2, cellsAt_of' hp.cells (n := 5) rfl, Option.bind_eq_bind, Option.map_some, Option.bind_some, Option.pure_def, tup_one]
  refine ⟨_, rfl, hfin.mod hput (fun b hb hc => by simp only [List.mem_singleton] at hb; exact hc.2 hb) (fun b _ hb => hb.1), ?_⟩
  refine Mod.drop (b := w1.heap.size) (S := []) ?_ (by omega)
  refine Mod.drop (b := w2.heap.size) (S := [w1.heap.size]) ?_ (by omega)
  exact (m05.mono (by simp)).trans (hput.mono (by simp))
theorem got_call (hm : P.follows .mixedOrders = true) (h : liftF P (F lGot) = some (ir_lGot F)) : ∀ t : TR, t.small → GotAt P (F lGot) t := by
  intro t
  refine TR.rec (motive_1 := fun t => t.small → GotAt P (F lGot) t) (motive_2 := fun l => ∀ t ∈ l, t.small → GotAt P (F lGot) t) ?_ ?_ ?_ t
  · intro n s null l u ih hs
    simp only [TR.small] at hs
    exact got_one hm h (fun t ht => ih t ht (TR.smallL_mem hs.2.2.2.2 t ht)) hs.2.1 hs.2.2.1
  · intro t ht; simp at ht
  · intro a l ih1 ih2 t ht
    rcases List.mem_cons.1 ht with rfl | ht
    · exact ih1
    · exact ih2 t ht
end
end Go.Msk
