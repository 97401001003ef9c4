/- A small language of resolved operations, and what the generic and the generated functions do in it (part 12). -/
import Derived.Test.YtieneknlekaonaaDoorFk

/-! Telling a struct: the code by its scheme, and the tree that it hands back. -/
namespace Go.Msk
open Go.RowKit
set_option maxRecDepth 100000

/-- How a struct is told: its fields in their order; at the end, perhaps, its unknown tags. -/
inductive Tl where
  | nil
  | fld (k : TK) (rest : Tl)
  | lst (k : EK) (esz : Nat) (body : Tl) (rest : Tl)
  | uid (rest : Tl)
  | sub (f : FuncId) (size : Nat) (body : Tl) (rest : Tl)
  | tags (f1 each srt : FuncId)
  deriving Inhabited

def Tl.ty : Tl → List GV → Prop
  | .nil, gs => gs = []
  | .fld k rest, gs => ∃ g l, gs = g :: l ∧ k.ty g ∧ rest.ty l
  | .lst k esz body rest, gs => ∃ isnil sz x l, gs = .lst isnil sz x :: l ∧ (∀ g ∈ x, k.ty body.ty g) ∧ x.length ≤ 2147483647 ∧ (x = [] ∨ sz = esz) ∧ rest.ty l
  | .uid rest, gs => ∃ x l, gs = .arr x :: l ∧ x.length = 16 ∧ rest.ty l
  | .sub _ size body rest, gs => ∃ x l, gs = .rcd x :: l ∧ body.ty x ∧ rest.ty l ∧ size = size
  | .tags .., gs => ∃ m, gs = [.tag m] ∧ m.length ≤ 2147483647 ∧ ∀ p ∈ m, p.2.length ≤ 2147483647

def Tl.tg : Tl → Option (FuncId × FuncId × FuncId)
  | .nil => none
  | .fld _ rest => rest.tg
  | .lst _ _ _ rest => rest.tg
  | .uid rest => rest.tg
  | .sub _ _ _ rest => rest.tg
  | .tags a b c => some (a, b, c)

/-- How many cells there are. -/
def Tl.size : Tl → Nat
  | .nil => 0
  | .fld _ rest => 1 + rest.size
  | .lst _ _ _ rest => 1 + rest.size
  | .uid rest => 16 + rest.size
  | .sub _ n _ rest => n + rest.size
  | .tags .. => 0

def Tl.Ok (P : Program) : Tl → Prop
  | .nil => True
  | .fld k rest => k.Ok P ∧ rest.Ok P
  | .lst k _ body rest => k.Ok P body.ty ∧ rest.Ok P
  | .uid rest => rest.Ok P
  | .sub f n body rest => TellS P f body.ty ∧ rest.Ok P ∧ ∀ O w gs css, body.ty gs → RepL O w gs css → css.flatten.length = n
  | .tags a b c => TagFs P a b c

/-- How many fields, lists, slots. -/
def Tl.len : Tl → Nat
  | .nil => 0
  | .fld _ rest => 1 + rest.len
  | .lst _ _ _ rest => 1 + rest.len
  | .uid rest => 1 + rest.len
  | .sub _ _ _ rest => 1 + rest.len
  | .tags .. => 0
def Tl.nl : Tl → Nat
  | .nil => 0
  | .fld _ rest => rest.nl
  | .lst _ _ _ rest => 1 + rest.nl
  | .uid rest => rest.nl
  | .sub _ _ _ rest => rest.nl
  | .tags .. => 0
def Tl.nt : Tl → Nat
  | .nil => 0
  | .fld k rest => k.nt + rest.nt
  | .lst k _ _ rest => 54 + 2 * k.n + rest.nt
  | .uid rest => 9 + rest.nt
  | .sub _ _ _ rest => 7 + rest.nt
  | .tags .. => 0

def Tl.gen : Tl → (i t off iv nb : Nat) → List IC
  | .nil, _, _, _, _, _ => []
  | .fld k rest, i, t, off, iv, nb => k.gen i t off :: rest.gen (i + 1) (t + k.nt) (off + 1) iv nb
  | .lst k esz _ rest, i, t, off, iv, nb => nullF i t off :: loopT k i (t + 9) off iv nb esz :: rest.gen (i + 1) (t + (54 + 2 * k.n)) (off + 1) (iv + 1) (nb + 2)
  | .uid rest, i, t, off, iv, nb => uidF i t off :: rest.gen (i + 1) (t + 9) (off + 16) iv nb
  | .sub f n _ rest, i, t, off, iv, nb => subF f i t off :: rest.gen (i + 1) (t + 7) (off + n) iv nb
  | .tags .., _, _, _, _, _ => []

def Tl.t0 (tl : Tl) : Nat := 4 + tl.nl

/-- What is put for the unknown tags, if there are any; how many slots that takes. -/
def Tl.tail (tl : Tl) (t off : Nat) : List IC := match tl.tg with
  | none => []
  | some (a, b, c) => tagBlks a b c t off
def Tl.tn (tl : Tl) : Nat := match tl.tg with
  | none => 0
  | some _ => 8

/-- The whole function; the struct's fields begin at cell off. -/
def Tl.code (tl : Tl) (off : Nat) : IC × List RV × Nat :=
  (seqs ([.blk [⟨some 2, .alloc tzero, none⟩], .blk [⟨some tl.t0, .mkslice (.const (.int .i64 tl.len)) (.const (.int .i64 tl.len)) 88 tzero, none⟩, ⟨some (tl.t0 + 1), .build tzero [(3, 1, .tmp tl.t0)], none⟩, ⟨some 3, .alloc tzero, none⟩, ⟨none, .st (.tmp 3) 5 (.tmp (tl.t0 + 1)), none⟩]] ++
    (tl.gen 0 (tl.t0 + 2) off 4 0 ++ (tl.tail (tl.t0 + 2 + tl.nt) (off + tl.size) ++ [.blk [⟨some (tl.t0 + 2 + tl.nt + tl.tn), .ldn (.tmp 3) 5, none⟩, ⟨none, .st (.tmp 2) 5 (.tmp (tl.t0 + 2 + tl.nt + tl.tn)), none⟩], .ret]))),
   [.cells 2 5], tl.t0 + 3 + tl.nt + tl.tn)

section
variable {P : Program}

theorem Tl.sound {Tb Lb n B base : Nat} {O : List Nat} (hB : B ≠ Lb) (hLO : Lb ∈ O) : ∀ (tl : Tl) (i t off iv nb : Nat) (gs : List GV) (gcs : List (List Value)) (pre : List Value) (σ : Sl) (w : World) (Q : Exit → Sl → World → Prop), tl.Ok P → tl.ty gs →
    RepL O w gs gcs → B < w.heap.size → Cells w ⟨B, base + off, none⟩ gcs.flatten → σ 0 = .pointer (some ⟨B, base, none⟩) → σ 3 = .pointer (some ⟨Tb, 0, none⟩) → TW w Tb Lb n (pre ++ zrep tl.len tzero) → pre.length = i * 5 → i + tl.len ≤ n → 4 ≤ iv → iv + tl.nl ≤ t → 4 ≤ t →
    (∀ σ' w' tcs, Ag 4 σ σ' → Mod [Lb] w w' → RepTL (fun b => w.heap.size ≤ b) w' (GV.toldF gs) tcs → TW w' Tb Lb n (pre ++ tcs.flatten) → tcs.length = tl.len → Q .normal σ' w') → wpL P (tl.gen i t off iv nb) Q σ w := by
  intro tl
  induction tl with
  | nil =>
    intro i t off iv nb gs gcs pre σ w Q hO hT hr hBl hc h0 h3 hw hpre hi hiv hivt ht hQ
    simp only [Tl.ty] at hT
    subst hT
    exact hQ σ w [] (Ag.refl _ _) (Mod.refl _ _) (by simpa [GV.toldF] using .nil) (by simpa [Tl.len, zrep] using hw) rfl
  | fld k rest ih =>
    intro i t off iv nb gs gcs pre σ w Q hO hT hr hBl hc h0 h3 hw hpre hi hiv hivt ht hQ
    obtain ⟨g, l, rfl, hg, hT⟩ := hT
    obtain ⟨hk, hO⟩ := hO
    cases hr with
    | @cons _ _ cs css h1 h2 =>
      obtain ⟨v, rfl⟩ : ∃ v, cs = [v] := by
        cases k with
        | num c =>
          cases c with
          | true => obtain ⟨k, m, rfl⟩ := hg; cases h1; exact ⟨_, rfl⟩
          | false => obtain ⟨m, rfl, -⟩ := hg; cases h1; exact ⟨_, rfl⟩
        | str => obtain ⟨m, rfl⟩ := hg; cases h1; exact ⟨_, rfl⟩
        | boo f => obtain ⟨m, rfl⟩ := hg; cases h1; exact ⟨_, rfl⟩
        | txt f => obtain ⟨m, rfl⟩ := hg; cases h1 <;> exact ⟨_, rfl⟩
        | oct f => obtain ⟨m, rfl, -⟩ := hg; cases h1; exact ⟨_, rfl⟩
      simp only [Tl.gen, wpL, Tl.len] at hi ⊢
      have hz : zrep (1 + rest.len) tzero = tzero ++ zrep rest.len tzero := by rw [Nat.add_comm, zrep_succ]
      simp only [Tl.len, hz] at hw
      simp only [Tl.nl] at hivt
      simp only [List.flatten_cons] at hc
      refine TK.wp hk ht h0 h3 hw hpre (by omega) hg h1 (by simpa using hc.head) fun σ' w' cs' a' hm' hrep' htw' => ?_
      simp only [thenC]
      have h5 := hrep'.five
      have hsub := hc.sub 1
      refine ih (i + 1) (t + k.nt) (off + 1) iv nb l css (pre ++ cs') σ' w' Q hO hT (h2.mod hm' (by simpa using hLO)) (Nat.lt_of_lt_of_le hBl hm'.size) ?_ (by rw [a' 0 (by omega)]; exact h0) (by rw [a' 3 (by omega)]; exact h3) (by simpa only [List.append_assoc] using htw')
        (by simp only [List.length_append]; omega) (by omega) hiv (by omega) (by omega) fun σ2 w2 tcs a2 hm2 hrep2 htw2 hl2 => ?_
      · have : Cells w ⟨B, base + off + 1, none⟩ css.flatten := by simpa using hsub
        exact this.mod hm' (.inr (by simpa using hB))
      · refine hQ σ2 w2 (cs' :: tcs) (fun q hq => by rw [a2 q hq]; exact a' q (by omega)) (hm'.trans hm2) ?_ (by simpa only [List.flatten_cons, List.append_assoc] using htw2) (by simp [hl2, Tl.len]; omega)
        rw [GV.toldF_cons (by rintro m rfl; exact TK.ty_tag hg)]
        exact .cons (hrep'.mod hm2 (fun b hb hx => by simp only [List.mem_singleton] at hb; subst hb; have := hw.lb.lt; omega) fun _ _ h => h) (hrep2.mod (Mod.refl [] _) (by simp) fun b _ hb => Nat.le_trans hm'.size hb)
  | lst k esz body rest _ ih =>
    intro i t off iv nb gs gcs pre σ w Q hO hT hr hBl hc h0 h3 hw hpre hi hiv hivt ht hQ
    obtain ⟨isnil, sz, xs, l, rfl, hg, hlen, hsz, hT⟩ := hT
    obtain ⟨hk, hO⟩ := hO
    cases hr with
    | @cons _ _ cs css h1 h2 =>
      simp only [Tl.gen, wpL, Tl.len] at hi ⊢
      have hz : zrep (1 + rest.len) tzero = tzero ++ zrep rest.len tzero := by rw [Nat.add_comm, zrep_succ]
      simp only [Tl.len, hz] at hw
      simp only [Tl.nl] at hivt
      simp only [List.flatten_cons] at hc
      -- the slice that the field holds
      obtain ⟨sb, cap, xcs, rfl, hisn, hrx, hsbx, hsn, hszx⟩ : ∃ sb cap xcs, cs = [.slice sb xs.length cap] ∧ isnil = sb.isNone ∧ RepL O w xs xcs ∧ (∀ a, sb = some a → a.block ∉ O ∧ a.block < w.heap.size ∧ Cells w a xcs.flatten) ∧ (sb = none → xs = []) ∧ (∀ c ∈ xcs, c.length = esz) := by
        cases h1 with
        | lst0 => exact ⟨none, 0, [], rfl, rfl, .nil, fun a h => by simp at h, fun _ => rfl, by simp⟩
        | @lst1 a nn c _ _ xcs ha hlt hn hc' hs hl hcells =>
          refine ⟨some a, c, xcs, by rw [hn], rfl, hl, fun a' e => ?_, fun h => by simp at h, fun d hd => ?_⟩
          · simp only [Option.some.injEq] at e; subst e; exact ⟨ha, hlt, hcells⟩
          · rcases hsz with rfl | rfl
            · have := hl.length; cases xcs with | nil => simp at hd | cons a b => simp at this
            · exact hs d hd
      have hcell : w.cell? ⟨B, base + off, none⟩ = some (.slice sb xs.length cap) := by simpa using hc.head
      refine nullF_wp ht h0 h3 hw hpre (by omega) hcell fun σ1 w1 a1 hm1 hsz1 htw1 => ?_
      simp only [thenC]
      have hLn : ∀ x ∈ [Lb], x ∈ O := by simpa using hLO
      refine loopT_wp hk (by omega) (by omega) hiv (by rw [a1 0 (by omega)]; exact h0) (by rw [a1 3 (by omega)]; exact h3) (by omega) htw1 hpre (cell_mod hcell hm1 (by simpa using hB)) hB hLO (hrx.mod hm1 hLn)
        (fun a ha => ⟨(hsbx a ha).1, Nat.lt_of_lt_of_le (hsbx a ha).2.1 hm1.size, (hsbx a ha).2.2.mod hm1 (.inr (by simp only [List.mem_singleton]; exact fun e => (hsbx a ha).1 (e ▸ hLO)))⟩) hsn hszx hg hlen fun σ2 w2 cs' a2 hm2 hrep2 htw2 => ?_
      simp only [thenC]
      have h5 := hrep2.five
      have hsub := hc.sub 1
      have hm12 := hm1.trans hm2
      have a12 : Ag 4 σ σ2 := fun q hq => by rw [a2 q (by omega) (by omega)]; exact a1 q (by omega)
      refine ih (i + 1) (t + (54 + 2 * k.n)) (off + 1) (iv + 1) (nb + 2) l css (pre ++ cs') σ2 w2 Q hO hT (h2.mod hm12 hLn) (Nat.lt_of_lt_of_le hBl hm12.size) ?_ (by rw [a12 0 (by omega)]; exact h0) (by rw [a12 3 (by omega)]; exact h3) (by simpa only [List.append_assoc] using htw2)
        (by simp only [List.length_append]; omega) (by omega) (by omega) (by omega) (by omega) fun σ3 w3 tcs a3 hm3 hrep3 htw3 hl3 => ?_
      · have : Cells w ⟨B, base + off + 1, none⟩ css.flatten := by simpa using hsub
        exact this.mod hm12 (.inr (by simpa using hB))
      · refine hQ σ3 w3 (cs' :: tcs) (a12.trans a3) (hm12.trans hm3) ?_ (by simpa only [List.flatten_cons, List.append_assoc] using htw3) (by simp [hl3, Tl.len]; omega)
        rw [GV.toldF_cons (by rintro m h; simp at h)]
        simp only [GV.told, hisn]
        refine .cons (hrep2.mod hm3 (fun b hb hx => by simp only [List.mem_singleton] at hb; subst hb; have := hw.lb.lt; omega) fun b _ hb => by omega) (hrep3.mod (Mod.refl [] _) (by simp) fun b _ hb => Nat.le_trans hm12.size hb)

  | uid rest ih =>
    intro i t off iv nb gs gcs pre σ w Q hO hT hr hBl hc h0 h3 hw hpre hi hiv hivt ht hQ
    obtain ⟨x, l, rfl, hx, hT⟩ := hT
    cases hr with
    | @cons _ _ cs css h1 h2 =>
      have : cs = u8s x := by cases h1; rfl
      subst this
      simp only [Tl.gen, wpL, Tl.len] at hi ⊢
      have hz : zrep (1 + rest.len) tzero = tzero ++ zrep rest.len tzero := by rw [Nat.add_comm, zrep_succ]
      simp only [Tl.len, hz] at hw
      simp only [Tl.nl] at hivt
      simp only [List.flatten_cons] at hc
      have hcx : Cells w ⟨B, base + off, none⟩ (u8s x) := by have := hc.take (u8s x).length; simpa using this
      refine uidF_wp ht h0 h3 hw hpre (by omega) hx hcx hBl fun σ' w' cs' a' hm' hrep' htw' => ?_
      simp only [thenC]
      have h5 := hrep'.five
      have hsub := hc.sub 16
      refine ih (i + 1) (t + 9) (off + 16) iv nb l css (pre ++ cs') σ' w' Q hO hT (h2.mod hm' (by simpa using hLO)) (Nat.lt_of_lt_of_le hBl hm'.size) ?_ (by rw [a' 0 (by omega)]; exact h0) (by rw [a' 3 (by omega)]; exact h3) (by simpa only [List.append_assoc] using htw')
        (by simp only [List.length_append]; omega) (by omega) hiv (by omega) (by omega) fun σ2 w2 tcs a2 hm2 hrep2 htw2 hl2 => ?_
      · have : Cells w ⟨B, base + off + 16, none⟩ css.flatten := by
          have hlen : (u8s x).length = 16 := by rw [u8s_length, hx]
          rw [← hlen, List.drop_left] at hsub
          rw [hlen] at hsub
          exact hsub
        exact this.mod hm' (.inr (by simpa using hB))
      · refine hQ σ2 w2 (cs' :: tcs) (fun q hq => by rw [a2 q hq]; exact a' q (by omega)) (hm'.trans hm2) ?_ (by simpa only [List.flatten_cons, List.append_assoc] using htw2) (by simp [hl2, Tl.len]; omega)
        rw [GV.toldF_cons (by rintro m h; simp at h)]
        exact .cons (hrep'.mod hm2 (fun b hb hx => by simp only [List.mem_singleton] at hb; subst hb; have := hw.lb.lt; omega) fun _ _ h => h) (hrep2.mod (Mod.refl [] _) (by simp) fun b _ hb => Nat.le_trans hm'.size hb)
  | sub f sz body rest _ ih =>
    intro i t off iv nb gs gcs pre σ w Q hO hT hr hBl hc h0 h3 hw hpre hi hiv hivt ht hQ
    obtain ⟨x, l, rfl, hx, hT, -⟩ := hT
    obtain ⟨hk, hO, hsz⟩ := hO
    cases hr with
    | @cons _ _ cs css h1 h2 =>
      obtain ⟨xcs, rfl, hrx⟩ : ∃ xcs, cs = xcs.flatten ∧ RepL O w x xcs := by
        cases h1 with
        | rcd h => exact ⟨_, rfl, h⟩
      have hxl := hsz O w x xcs hx hrx
      simp only [Tl.gen, wpL, Tl.len] at hi ⊢
      have hz : zrep (1 + rest.len) tzero = tzero ++ zrep rest.len tzero := by rw [Nat.add_comm, zrep_succ]
      simp only [Tl.len, hz] at hw
      simp only [Tl.nl] at hivt
      rw [List.flatten_cons] at hc
      have hcx : Cells w ⟨B, base + off, none⟩ xcs.flatten := by have := hc.take xcs.flatten.length; simpa using this
      refine subF_wp hk ht h0 h3 hw hpre (by omega) hx hrx hcx fun σ' w' cs' a' hm' hrep' htw' => ?_
      simp only [thenC]
      have h5 := hrep'.five
      have hsub := hc.sub sz
      refine ih (i + 1) (t + 7) (off + sz) iv nb l css (pre ++ cs') σ' w' Q hO hT (h2.mod hm' (by simpa using hLO)) (Nat.lt_of_lt_of_le hBl hm'.size) ?_ (by rw [a' 0 (by omega)]; exact h0) (by rw [a' 3 (by omega)]; exact h3) (by simpa only [List.append_assoc] using htw')
        (by simp only [List.length_append]; omega) (by omega) hiv (by omega) (by omega) fun σ2 w2 tcs a2 hm2 hrep2 htw2 hl2 => ?_
      · have : Cells w ⟨B, base + (off + sz), none⟩ css.flatten := by
          rw [← hxl, List.drop_left] at hsub
          rw [hxl] at hsub
          rwa [← Nat.add_assoc]
        exact this.mod hm' (.inr (by simpa using hB))
      · refine hQ σ2 w2 (cs' :: tcs) (fun q hq => by rw [a2 q hq]; exact a' q (by omega)) (hm'.trans hm2) ?_ (by simpa only [List.flatten_cons, List.append_assoc] using htw2) (by simp [hl2, Tl.len]; omega)
        rw [GV.toldF_cons (by rintro m h; simp at h)]
        exact .cons (hrep'.mod hm2 (fun b hb hx => by simp only [List.mem_singleton] at hb; subst hb; have := hw.lb.lt; omega) fun _ _ h => h) (hrep2.mod (Mod.refl [] _) (by simp) fun b _ hb => Nat.le_trans hm'.size hb)
  | tags a b c =>
    intro i t off iv nb gs gcs pre σ w Q hO hT hr hBl hc h0 h3 hw hpre hi hiv hivt ht hQ
    obtain ⟨m, rfl, -⟩ := hT
    exact hQ σ w [] (Ag.refl _ _) (Mod.refl _ _) (by simpa [GV.toldF] using .nil) (by simpa [Tl.len, zrep] using hw) rfl

theorem Tl.no_tags : ∀ (tl : Tl) (gs : List GV), tl.tg = none → tl.ty gs → GV.tagsF gs = [] := by
  intro tl
  induction tl with
  | nil => intro gs _ h; simp only [Tl.ty] at h; subst h; rfl
  | fld k rest ih =>
    rintro gs h ⟨g, l, rfl, hg, hT⟩
    have := ih l h hT
    cases g <;> first | exact this | exact (TK.ty_tag hg).elim
  | lst k esz body rest _ ih => rintro gs h ⟨_, _, _, l, rfl, -, -, -, hT⟩; exact ih l h hT
  | uid rest ih => rintro gs h ⟨_, l, rfl, -, hT⟩; exact ih l h hT
  | sub f sz body rest _ ih => rintro gs h ⟨_, l, rfl, -, hT, -⟩; exact ih l h hT
  | tags a b c => intro gs h; simp [Tl.tg] at h

/-- Where the unknown tags stand. -/
theorem Tl.tag_cell {O : List Nat} {w : World} : ∀ (tl : Tl) (gs : List GV) (gcs : List (List Value)) (a b c : FuncId), tl.tg = some (a, b, c) → tl.Ok P → tl.ty gs → RepL O w gs gcs →
    ∃ m v, gcs.flatten[tl.size]? = some v ∧ Rep O w (.tag m) [v] ∧ GV.tagsF gs = sortT m ∧ m.length ≤ 2147483647 ∧ (∀ p ∈ m, p.2.length ≤ 2147483647) ∧ TagFs P a b c := by
  intro tl
  have step : ∀ {n k : Nat} {g : GV} {l : List GV} {cs : List Value} {css : List (List Value)} {m : List (Nat × List UInt8)} {v : Value}, cs.length = n → (∀ m, g ≠ .tag m) → css.flatten[k]? = some v → GV.tagsF l = sortT m →
      (cs :: css).flatten[n + k]? = some v ∧ GV.tagsF (g :: l) = sortT m := by
    intro n k g l cs css m v hn hg hk ht
    refine ⟨?_, ?_⟩
    · rw [List.flatten_cons, List.getElem?_append_right (by omega), show n + k - cs.length = k by omega]; exact hk
    · cases g <;> first | exact ht | exact absurd rfl (hg _)
  induction tl with
  | nil => intro gs gcs a b c h; simp [Tl.tg] at h
  | fld k rest ih =>
    intro gs gcs a b c h hO hT hr
    obtain ⟨g, l, rfl, hg, hT⟩ := hT
    cases hr with
    | @cons _ _ cs css h1 h2 =>
      obtain ⟨m, v, e1, e2, e3, e4⟩ := ih l css a b c h hO.2 hT h2
      obtain ⟨q1, q2⟩ := step (n := 1) (g := g) (TK.one hg h1) (by rintro m rfl; exact TK.ty_tag hg) e1 e3
      exact ⟨m, v, q1, e2, q2, e4⟩
  | lst k esz body rest _ ih =>
    intro gs gcs a b c h hO hT hr
    obtain ⟨isnil, sz, x, l, rfl, -, -, -, hT⟩ := hT
    cases hr with
    | @cons _ _ cs css h1 h2 =>
      obtain ⟨m, v, e1, e2, e3, e4⟩ := ih l css a b c h hO.2 hT h2
      have hl : cs.length = 1 := by cases h1 <;> rfl
      obtain ⟨q1, q2⟩ := step (n := 1) (g := .lst isnil sz x) hl (by rintro m h; simp at h) e1 e3
      exact ⟨m, v, q1, e2, q2, e4⟩
  | uid rest ih =>
    intro gs gcs a b c h hO hT hr
    obtain ⟨x, l, rfl, hx, hT⟩ := hT
    cases hr with
    | @cons _ _ cs css h1 h2 =>
      obtain ⟨m, v, e1, e2, e3, e4⟩ := ih l css a b c h hO hT h2
      have hl : cs.length = 16 := by cases h1; rw [u8s_length, hx]
      obtain ⟨q1, q2⟩ := step (n := 16) (g := .arr x) hl (by rintro m h; simp at h) e1 e3
      exact ⟨m, v, q1, e2, q2, e4⟩
  | sub f sz body rest _ ih =>
    intro gs gcs a b c h hO hT hr
    obtain ⟨x, l, rfl, hx, hT, -⟩ := hT
    cases hr with
    | @cons _ _ cs css h1 h2 =>
      obtain ⟨m, v, e1, e2, e3, e4⟩ := ih l css a b c h hO.2.1 hT h2
      have hl : cs.length = sz := by cases h1 with | rcd h1 => exact hO.2.2 _ _ _ _ hx h1
      obtain ⟨q1, q2⟩ := step (n := sz) (g := .rcd x) hl (by rintro m h; simp at h) e1 e3
      exact ⟨m, v, q1, e2, q2, e4⟩
  | tags a' b' c' =>
    intro gs gcs a b c h hO hT hr
    simp only [Tl.tg, Option.some.injEq, Prod.mk.injEq] at h
    obtain ⟨rfl, rfl, rfl⟩ := h
    obtain ⟨m, rfl, h1, h2⟩ := hT
    cases hr with
    | @cons _ _ cs css q1 q2 =>
      cases q2
      obtain ⟨v, rfl⟩ : ∃ v, cs = [v] := by cases q1 <;> exact ⟨_, rfl⟩
      exact ⟨m, v, rfl, q1, rfl, h1, h2, hO⟩

/-- A function that tells a struct whose fields begin at cell off. -/
def TellAt (P : Program) (f : FuncId) (off : Nat) (T : List GV → Prop) : Prop :=
  ∀ (O : List Nat) (w : World) (B base : Nat) (gs : List GV) (css : List (List Value)), T gs → RepL O w gs css → B < w.heap.size → Cells w ⟨B, base + off, none⟩ css.flatten →
    TellC P f [.pointer (some ⟨B, base, none⟩)] w (GV.rcd gs).told

theorem Tl.call {tl : Tl} {f off : Nat} (hm : P.follows .mixedOrders = true) (h : liftF P f = some (tl.code off)) (hO : tl.Ok P) (hlen : tl.len ≤ 1000) : TellAt P f off tl.ty := by
  intro O w B base gs css hT hr hBlt hc
  unfold Tl.code at h
  refine call_of h hm (by simp; omega) ?_
  rw [wpC_seqs]
  have s0 : args0 [.pointer (some ⟨B, base, none⟩)] 0 = .pointer (some ⟨B, base, none⟩) := rfl
  generalize args0 [.pointer (some ⟨B, base, none⟩)] = σ0 at s0
  have ht0 : tl.t0 = 4 + tl.nl := rfl
  simp only [List.cons_append, List.nil_append, wpL]
  simp only [wpC_blk, wpR, RI.wp, gOk, if_true, RK.run, ev, updo]
  intro T1
  simp only [thenC]
  have hmul : ((tl.len : Int) * (88 : Nat)) ≤ 70368744177664 := by omega
  refine ⟨by omega, by omega, hmul, by omega, ?_⟩
  intro T2
  simp only [Int.toNat_natCast, upd_same, List.map_cons, List.map_nil]
  have hf : ∀ v : Value, v.cells = #[v] → fillL tzero [(3, 1, v)] = some [.int .i64 0, .slice none 0 0, .bool false, v, .slice none 0 0] := by
    intro v hv
    simp only [fillL, hv]
    simp [tzero, splice]
  rw [hf _ rfl]
  simp only
  intro T3
  have ec : ∀ cs, (Value.agg cs).cells = cs := fun _ => rfl
  simp only [upd, if_true, show tl.t0 + 1 ≠ 3 by omega, if_false, ec]
  -- the three new blocks
  have b2 := Blk.new w tzero T1
  generalize hw1 : w.alloc (.cells tzero.toArray T1) = w1 at b2 ⊢
  have z1 : w1.heap.size = w.heap.size + 1 := by rw [← hw1]; simp
  have m1 : Mod [] w w1 := by rw [← hw1]; exact Mod.alloc _ _ _
  have bL := Blk.new w1 (zrep tl.len tzero) T2
  generalize hw2 : w1.alloc (.cells (zrep tl.len tzero).toArray T2) = w2 at bL ⊢
  have z2 : w2.heap.size = w1.heap.size + 1 := by rw [← hw2]; simp
  have m2 : Mod [] w1 w2 := by rw [← hw2]; exact Mod.alloc _ _ _
  obtain ⟨k1, k2, k3⟩ := new_put w2 tzero [.int .i64 0, .slice none 0 0, .bool false, .slice (some ⟨w1.heap.size, 0, none⟩) tl.len tl.len, .slice none 0 0] T3 rfl (by simp [Value.oneCell'])
  generalize hw3 : w2.alloc (.cells tzero.toArray T3) = w3 at k1 k2 k3 ⊢
  have z3 : w3.heap.size = w2.heap.size + 1 := by rw [← hw3]; simp
  refine ⟨by rfl, by simpa using k1, ?_⟩
  rw [wpL_append]
  have hput : (putCells w3 ⟨w2.heap.size, 0, none⟩ 0 [.int .i64 0, .slice none 0 0, .bool false, .slice (some ⟨w1.heap.size, 0, none⟩) tl.len tl.len, .slice none 0 0]).heap.size = w3.heap.size := size_putCells ..
  generalize hw4 : putCells w3 ⟨w2.heap.size, 0, none⟩ 0 [.int .i64 0, .slice none 0 0, .bool false, .slice (some ⟨w1.heap.size, 0, none⟩) tl.len tl.len, .slice none 0 0] = w4 at k2 k3 hput
  have m14 : Mod [] w w4 := (m1.trans m2).trans k3
  have htw : TW w4 w2.heap.size w1.heap.size tl.len (zrep tl.len tzero) := ⟨k2, bL.mod k3 (by simp), by omega⟩
  refine Tl.sound (Tb := w2.heap.size) (Lb := w1.heap.size) (n := tl.len) (B := B) (base := base) (O := w2.heap.size :: w1.heap.size :: O) (by omega) (by simp) tl 0 (tl.t0 + 2) off 4 0 gs css [] _ w4 _ hO hT
    (hr.fresh m14 (by simp) (fun x hx => by
      rcases List.mem_cons.1 hx with rfl | hx
      · exact .inr (by omega)
      · rcases List.mem_cons.1 hx with rfl | hx
        · exact .inr (by omega)
        · exact .inl hx)) (by omega) (hc.mod m14 (.inr (by simp))) ?_ ?_ htw rfl (by omega) (by omega) (by omega) (by omega) fun σ' w' tcs a' hm' hrep htw' hln => ?_
  · simp only [upd, show (0 : Nat) ≠ 3 by omega, show (0 : Nat) ≠ tl.t0 + 1 by omega, show (0 : Nat) ≠ tl.t0 by omega, show (0 : Nat) ≠ 2 by omega, if_false, s0]
  · simp only [upd, if_true]
  · have s2' : σ' 2 = .pointer (some ⟨w.heap.size, 0, none⟩) := by
      rw [a' 2 (by omega)]
      simp only [upd, show (2 : Nat) ≠ 3 by omega, show (2 : Nat) ≠ tl.t0 + 1 by omega, show (2 : Nat) ≠ tl.t0 by omega, if_false, if_true]
    have s3' : σ' 3 = .pointer (some ⟨w2.heap.size, 0, none⟩) := by
      rw [a' 3 (by omega)]
      simp only [upd, if_true]
    have s0' : σ' 0 = .pointer (some ⟨B, base, none⟩) := by
      rw [a' 0 (by omega)]
      simp only [upd, show (0 : Nat) ≠ 3 by omega, show (0 : Nat) ≠ tl.t0 + 1 by omega, show (0 : Nat) ≠ tl.t0 by omega, show (0 : Nat) ≠ 2 by omega, if_false, s0]
    have hb2 : Blk w' w.heap.size tzero := ((b2.mod (m2.trans k3) (by simp))).mod hm' (by simp; omega)
    -- behind the fields
    have fin : ∀ (σ5 : Sl) (w5 : World) (t : Nat) (uv : Value) (ucs : List (List Value)), 4 ≤ t → σ5 2 = .pointer (some ⟨w.heap.size, 0, none⟩) → σ5 3 = .pointer (some ⟨w2.heap.size, 0, none⟩) → Mod [w2.heap.size] w' w5 →
        Blk w5 w2.heap.size [.int .i64 0, .slice none 0 0, .bool false, .slice (some ⟨w1.heap.size, 0, none⟩) tl.len tl.len, uv] → SlC (fun b => w.heap.size ≤ b ∧ b ≠ w.heap.size) w5 uv (GV.tagsF gs).length ucs.flatten →
        RepU (fun b => w.heap.size ≤ b ∧ b ≠ w.heap.size) w5 (GV.tagsF gs) ucs → wpL P [.blk [⟨some t, .ldn (.tmp 3) 5, none⟩, ⟨none, .st (.tmp 2) 5 (.tmp t), none⟩], .ret] (postC [.cells 2 5] fun e w6 => ∃ cs, e = .returned (.agg cs.toArray) ∧ RepT (fun b => w.heap.size ≤ b) w6 (GV.rcd gs).told cs ∧ Mod [] w w6) σ5 w5 := by
      intro σ5 w5 t uv ucs ht5 q2 q3 hm5 hb5 hus hru
      have uone : uv.oneCell' = true := hus.one
      have hld : cellsAt w5 ⟨w2.heap.size, 0, none⟩ 0 5 = some [.int .i64 0, .slice none 0 0, .bool false, .slice (some ⟨w1.heap.size, 0, none⟩) tl.len tl.len, uv] := cellsAt_of' hb5.cells rfl
      have hb2' : Blk w5 w.heap.size tzero := hb2.mod hm5 (by simp; omega)
      have hput2 : Mod [w.heap.size] w5 (putCells w5 ⟨w.heap.size, 0, none⟩ 0 [.int .i64 0, .slice none 0 0, .bool false, .slice (some ⟨w1.heap.size, 0, none⟩) tl.len tl.len, uv]) := Mod.put (by simp)
      have hb3 := hb2'.put (o := 0) (vs := [.int .i64 0, .slice none 0 0, .bool false, .slice (some ⟨w1.heap.size, 0, none⟩) tl.len tl.len, uv]) (by simp [tzero])
      rw [splice_all (by rfl)] at hb3
      simp only [wpL]
      rw [wpC_blk]
      refine wpR_step (v := .agg [.int .i64 0, .slice none 0 0, .bool false, .slice (some ⟨w1.heap.size, 0, none⟩) tl.len tl.len, uv].toArray) (by simp only [RK.val?, ev, q3, hld, Option.map_some]) ?_
      refine wpR_run ?_
      simp only [RK.run, ev, updo, upd, show (2 : Nat) ≠ t by omega, if_false, if_true, q2, ec]
      refine ⟨rfl, stOk_many hb2' (by simp [tzero]) (fun x hx => by
        simp only [List.mem_cons, List.not_mem_nil, or_false] at hx
        rcases hx with rfl | rfl | rfl | rfl | rfl <;> first | rfl | exact uone), ?_⟩
      refine wpR_done ?_
      simp only [wpC, thenC, postC, rvals, List.mapM_cons, List.mapM_nil, RV.val, upd, show (2 : Nat) ≠ t by omega, if_false, q2, cellsAt_of' hb3.cells (n := 5) rfl, Option.bind_eq_bind, Option.map_some, Option.bind_some, Option.pure_def, tup_one]
      have m56 : Mod [w2.heap.size, w.heap.size] w' (putCells w5 ⟨w.heap.size, 0, none⟩ 0 [.int .i64 0, .slice none 0 0, .bool false, .slice (some ⟨w1.heap.size, 0, none⟩) tl.len tl.len, uv]) := (hm5.mono (by simp)).trans (hput2.mono (by simp))
      refine ⟨_, rfl, ?_, ?_⟩
      · have hlt : (GV.toldF gs).length = tl.len := hrep.length.trans hln
        simp only [GV.told]
        refine .mk (css := tcs) (uss := ucs) SlC.nil ⟨some ⟨w1.heap.size, 0, none⟩, tl.len, by rw [hlt], by rw [hlt]; exact Nat.le_refl _, fun h => by simp at h, fun a ha => ?_⟩ ?_
          (hus.mod hput2 (fun b hb hx => by simp only [List.mem_singleton] at hb; exact hx.2 hb) fun b _ hb => hb.1) (hru.mod hput2 (fun b hb hx => by simp only [List.mem_singleton] at hb; exact hx.2 hb) fun b _ hb => hb.1)
        · simp only [Option.some.injEq] at ha; subst ha
          refine ⟨show w.heap.size ≤ w1.heap.size by omega, ?_, ?_⟩
          · exact Nat.lt_of_lt_of_le htw'.lb.lt m56.size
          · have := (htw'.lb.mod m56 (by simp; omega)).cells
            simpa using this
        · exact (hrep.mod m56 (fun b hb hx => by simp only [List.mem_cons, List.not_mem_nil, or_false] at hb; omega) fun b _ hb => by omega)
      · refine Mod.drop (b := w.heap.size) (S := []) ?_ (Nat.le_refl _)
        refine Mod.drop (b := w1.heap.size) (S := [w.heap.size]) ?_ (by omega)
        refine Mod.drop (b := w2.heap.size) (S := [w1.heap.size, w.heap.size]) ?_ (by omega)
        exact (m14.nil.trans (hm'.mono (by simp))).trans (m56.mono (by simp))
    simp only [thenC]
    rw [wpL_append]
    cases htg : tl.tg with
    | none =>
      have e1 : tl.tail (tl.t0 + 2 + tl.nt) (off + tl.size) = [] := by unfold Tl.tail; rw [htg]
      rw [e1]
      have hnt : GV.tagsF gs = [] := Tl.no_tags tl gs htg hT
      have := fin σ' w' (tl.t0 + 2 + tl.nt + tl.tn) (.slice none 0 0) [] (by omega) s2' s3' (Mod.refl _ _) htw'.tb (by rw [hnt]; exact SlC.nil) (by rw [hnt]; exact .nil)
      simpa only [wpL, thenC] using this
    | some q =>
      obtain ⟨a, b, c⟩ := q
      have e1 : tl.tail (tl.t0 + 2 + tl.nt) (off + tl.size) = tagBlks a b c (tl.t0 + 2 + tl.nt) (off + tl.size) := by unfold Tl.tail; rw [htg]
      rw [e1]
      obtain ⟨m, v, u1, u2, u3, u4, u5, u6⟩ := Tl.tag_cell tl gs css a b c htg hO hT hr
      have hcv : w.cell? ⟨B, base + (off + tl.size), none⟩ = some v := by
        have := hc.2 tl.size v u1
        simpa [Nat.add_assoc] using this
      have hrv : Rep (w2.heap.size :: w1.heap.size :: O) w4 (.tag m) [v] := u2.fresh m14 (by simp) (fun x hx => by
        rcases List.mem_cons.1 hx with rfl | hx
        · exact .inr (by omega)
        · rcases List.mem_cons.1 hx with rfl | hx
          · exact .inr (by omega)
          · exact .inl hx)
      have hrv' := hrv.mod hm' (by simp)
      have hTM : TagM (fun b => b ∉ w2.heap.size :: w1.heap.size :: O) w' v m ∧ ∀ r, v = .map (some r) → r ≠ w2.heap.size := by
        cases hrv' with
        | tag0 => exact ⟨.inl ⟨rfl, rfl⟩, fun r h => by simp at h⟩
        | @tag1 r _ h1 h2 => exact ⟨.inr ⟨r, rfl, h2⟩, fun r' h => by simp only [Value.map.injEq, Option.some.injEq] at h; subst h; exact fun e => h1 (by simp [e])⟩
      refine tagBlks_wp u6 (okv := fun b => b ∉ w2.heap.size :: w1.heap.size :: O) (by omega) s0' s3' htw'.tb (cell_mod (cell_mod hcv m14 (by simp)) hm' (by simp; omega)) hTM.1 (fun b hb e => hb (by simp [e])) (by omega) hTM.2 u4 u5 fun σ6 w6 uv ucs a6 hm6 hb6 hs6 hr6 => ?_
      simp only [thenC]
      refine fin σ6 w6 (tl.t0 + 2 + tl.nt + tl.tn) uv ucs (by omega) (by rw [a6 2 (by omega)]; exact s2') (by rw [a6 3 (by omega)]; exact s3') hm6 hb6 ?_ ?_
      · rw [u3]; exact hs6.mod (Mod.refl [] _) (by simp) fun b _ hb => by have := hm'.size; omega
      · rw [u3]; exact hr6.mod (Mod.refl [] _) (by simp) fun b _ hb => by have := hm'.size; omega

end
end Go.Msk

/-! What the kinds of fields read, and that the readers read so. -/
namespace Go.Msk
open Go.RowKit
set_option maxRecDepth 100000

/-- What each kind reads (x: flexible). -/
def decStd : Dec where
  len := fun x s => if x then rdCArrayLen s else rdArrayLen s
  prim := fun p x s => match p with
    | .bool => (.num (.bool (decide ((rdN 1 s).1 ≠ 0))), (rdN 1 s).2)
    | .i8 => (.num (.int .i8 (IntKind.i8.wrap (rdN 1 s).1)), (rdN 1 s).2)
    | .i16 => (.num (.int .i16 (IntKind.i16.wrap (rdN 2 s).1)), (rdN 2 s).2)
    | .u16 => (.num (.int .u16 (rdN 2 s).1), (rdN 2 s).2)
    | .i32 => (.num (.int .i32 (IntKind.i32.wrap (rdN 4 s).1)), (rdN 4 s).2)
    | .u32 => (.num (.int .u32 (rdN 4 s).1), (rdN 4 s).2)
    | .i64 => (.num (.int .i64 (IntKind.i64.wrap (rdN 8 s).1)), (rdN 8 s).2)
    | .uuid => (.arr (rdUuid s).1, (rdUuid s).2)
    | .str => if x then (.num (str (rdCString s).1), (rdCString s).2) else (.num (str (rdString s).1), (rdString s).2)
    | .nstr => if x then (.nstr (rdCNullableString s).1, (rdCNullableString s).2) else (.nstr (rdNullableString s).1, (rdNullableString s).2)
    | .byt => if x then (.byt (rdCBytes s).1, (rdCBytes s).2) else (.byt (rdBytes s).1, (rdBytes s).2)
    | .nbyt => if x then (.byt (rdCNullableBytes s).1, (rdCNullableBytes s).2) else (.byt (rdNullableBytes s).1, (rdNullableBytes s).2)
  tags := rdTags

/-- The functions of package kbin, and those about tags, that a program has (has), by their numbers (F). -/
structure Lib (P : Program) (F : Nat → Nat) (has : Nat → Bool) : Prop where
  mixed : P.follows .mixedOrders = true
  beUint16 : has Msk.beUint16 = true → liftF P (F Msk.beUint16) = some (ir_beUint16 F)
  beUint32 : has Msk.beUint32 = true → liftF P (F Msk.beUint32) = some (ir_beUint32 F)
  beUint64 : has Msk.beUint64 = true → liftF P (F Msk.beUint64) = some (ir_beUint64 F)
  kUvarint : has Msk.kUvarint = true → liftF P (F Msk.kUvarint) = some (ir_kUvarint F)
  kUnsafeString : has Msk.kUnsafeString = true → liftF P (F Msk.kUnsafeString) = some (ir_kUnsafeString F)
  rOk : has Msk.rOk = true → liftF P (F Msk.rOk) = some (ir_rOk F)
  rComplete : has Msk.rComplete = true → liftF P (F Msk.rComplete) = some (ir_rComplete F)
  rSpan : has Msk.rSpan = true → liftF P (F Msk.rSpan) = some (ir_rSpan F)
  rUvarint : has Msk.rUvarint = true → liftF P (F Msk.rUvarint) = some (ir_rUvarint F)
  rReadUint64 : has Msk.rReadUint64 = true → liftF P (F Msk.rReadUint64) = some (ir_rReadUint64 F)
  rBool : has Msk.rBool = true → liftF P (F Msk.rBool) = some (ir_rBool F)
  rInt8 : has Msk.rInt8 = true → liftF P (F Msk.rInt8) = some (ir_rInt8 F)
  rInt16 : has Msk.rInt16 = true → liftF P (F Msk.rInt16) = some (ir_rInt16 F)
  rUint16 : has Msk.rUint16 = true → liftF P (F Msk.rUint16) = some (ir_rUint16 F)
  rInt32 : has Msk.rInt32 = true → liftF P (F Msk.rInt32) = some (ir_rInt32 F)
  rInt64 : has Msk.rInt64 = true → liftF P (F Msk.rInt64) = some (ir_rInt64 F)
  rUuid : has Msk.rUuid = true → liftF P (F Msk.rUuid) = some (ir_rUuid F)
  rString : has Msk.rString = true → liftF P (F Msk.rString) = some (ir_rString F)
  rUnsafeString : has Msk.rUnsafeString = true → liftF P (F Msk.rUnsafeString) = some (ir_rUnsafeString F)
  rCompactString : has Msk.rCompactString = true → liftF P (F Msk.rCompactString) = some (ir_rCompactString F)
  rUnsafeCompactString : has Msk.rUnsafeCompactString = true → liftF P (F Msk.rUnsafeCompactString) = some (ir_rUnsafeCompactString F)
  rNullableString : has Msk.rNullableString = true → liftF P (F Msk.rNullableString) = some (ir_rNullableString F)
  rUnsafeNullableString : has Msk.rUnsafeNullableString = true → liftF P (F Msk.rUnsafeNullableString) = some (ir_rUnsafeNullableString F)
  rCompactNullableString : has Msk.rCompactNullableString = true → liftF P (F Msk.rCompactNullableString) = some (ir_rCompactNullableString F)
  rUnsafeCompactNullableString : has Msk.rUnsafeCompactNullableString = true → liftF P (F Msk.rUnsafeCompactNullableString) = some (ir_rUnsafeCompactNullableString F)
  rBytes : has Msk.rBytes = true → liftF P (F Msk.rBytes) = some (ir_rBytes F)
  rCompactBytes : has Msk.rCompactBytes = true → liftF P (F Msk.rCompactBytes) = some (ir_rCompactBytes F)
  rNullableBytes : has Msk.rNullableBytes = true → liftF P (F Msk.rNullableBytes) = some (ir_rNullableBytes F)
  rCompactNullableBytes : has Msk.rCompactNullableBytes = true → liftF P (F Msk.rCompactNullableBytes) = some (ir_rCompactNullableBytes F)
  rArrayLen : has Msk.rArrayLen = true → liftF P (F Msk.rArrayLen) = some (ir_rArrayLen F)
  rCompactArrayLen : has Msk.rCompactArrayLen = true → liftF P (F Msk.rCompactArrayLen) = some (ir_rCompactArrayLen F)
  tSet : has Msk.tSet = true → liftF P (F Msk.tSet) = some (ir_tSet F)
  tRead : has Msk.tRead = true → liftF P (F Msk.tRead) = some (ir_tRead F)

/-- All of these are there. -/
def hasAll (has : Nat → Bool) (l : List Nat) : Bool := l.all has

theorem hasAll_mem {has : Nat → Bool} {l : List Nat} (h : hasAll has l = true) : ∀ c ∈ l, has c = true := by
  unfold hasAll at h; rwa [List.all_eq_true] at h

/-- Is this the function that reads the kind (u: unsafe, x: flexible)? -/
def selOk (F : Nat → Nat) (has : Nat → Bool) (p : PK) (u x : Bool) (f : FuncId) : Bool :=
  let ok (c : Nat) (l : List Nat) : Bool := f == F c && hasAll has (c :: l)
  match p with
  | .bool => ok rBool []
  | .i8 => ok rInt8 []
  | .i16 => ok rInt16 [beUint16]
  | .u16 => ok rUint16 [beUint16]
  | .i32 => ok rInt32 [beUint32]
  | .u32 => false
  | .i64 => ok rInt64 [rReadUint64, beUint64]
  | .uuid => ok rUuid [rSpan]
  | .str => match u, x with
    | true, true => ok rUnsafeCompactString [rUvarint, kUvarint, rSpan, kUnsafeString]
    | true, false => ok rUnsafeString [rInt16, beUint16, rSpan, kUnsafeString]
    | false, true => ok rCompactString [rUvarint, kUvarint, rSpan]
    | false, false => ok rString [rInt16, beUint16, rSpan]
  | .nstr => match u, x with
    | true, true => ok rUnsafeCompactNullableString [rUvarint, kUvarint, rSpan, kUnsafeString]
    | true, false => ok rUnsafeNullableString [rInt16, beUint16, rSpan, kUnsafeString]
    | false, true => ok rCompactNullableString [rUvarint, kUvarint, rSpan]
    | false, false => ok rNullableString [rInt16, beUint16, rSpan]
  | .byt => if x then ok rCompactBytes [rUvarint, kUvarint, rSpan] else ok rBytes [rInt32, beUint32, rSpan]
  | .nbyt => if x then ok rCompactNullableBytes [rUvarint, kUvarint, rSpan] else ok rNullableBytes [rInt32, beUint32, rSpan]

def lenOk (F : Nat → Nat) (has : Nat → Bool) (x : Bool) (f : FuncId) : Bool :=
  if x then f == F rCompactArrayLen && hasAll has [rCompactArrayLen, rUvarint, kUvarint] else f == F rArrayLen && hasAll has [rArrayLen, rInt32, beUint32]

section
variable {P : Program} {F : Nat → Nat} {has : Nat → Bool} {f : FuncId}

/-- Methods that hand back one plain cell. -/
theorem RdC.g {val : RS → Value × RS} (h : RdC P f val) (h1 : ∀ s, (val s).1.cells = #[(val s).1]) (h2 : ∀ s, (val s).1.oneCell' = true) : RdG P f 1 fun s => (.num (val s).1, (val s).2) :=
  fun S w rb s hr hrb _ => (h S w rb s hr hrb).mono fun e w' ⟨e1, e2, e3⟩ => ⟨_, e1, ⟨by rw [h1]; rfl, by rw [h1]; exact .num (h2 s)⟩, e2, e3⟩

theorem RdC.l {val : RS → Int × RS} (h : RdC P f fun s => (.int .i32 (val s).1, (val s).2)) : RdL P f val :=
  fun S w rb s hr hrb _ => (h S w rb s hr hrb).mono fun _e _w' ⟨e1, e2, e3⟩ => ⟨_, e1, rfl, e2, e3⟩

theorem OctX.cells {O : List Nat} {w : World} {v : Value} {o : Option (List UInt8)} (h : OctX O w v o) : v.cells = #[v] := by
  cases o with
  | none => have := h.1; simp only [IsOct] at this; subst this; rfl
  | some l => obtain ⟨a, n, c, rfl, -⟩ := h.1; rfl

theorem PStr.rep {O : List Nat} {n : Nat} {w : World} {v : Value} {o : Option (List UInt8)} (h : PStr n w v o) (hO : ∀ y ∈ O, y < n) : v.cells = #[v] ∧ Rep O w (.nstr o) [v] := by
  cases o with
  | none => simp only [PStr] at h; subst h; exact ⟨rfl, .nstr0⟩
  | some l =>
    obtain ⟨b, rfl, hb, hc⟩ := h
    exact ⟨rfl, .nstr1 (fun hx => by have := hO _ hx; omega) hc⟩

theorem rdCArrayLen_short (s : RS) : (rdCArrayLen s).1 ≤ (rdCArrayLen s).2.src.length := by
  unfold rdCArrayLen; simp only
  split
  · simp
  · rename_i h; simpa using h

theorem decStd_short : decStd.Short := by
  intro x s
  simp only [decStd]
  split
  · exact rdCArrayLen_short s
  · simp only [rdArrayLen]
    split
    · simp
    · rename_i h; simpa using h

theorem byt_rd {dec : RS → Option (List UInt8) × RS} (h : ∀ (S : List Nat) (w : World) (rb : Nat) (s : RS), IsRd S w rb s → rb ∉ S → (∀ y ∈ S, y < w.heap.size) →
    Calls P f [.pointer (some ⟨rb, 0, none⟩)].toArray w fun e w' => ∃ v, e = .returned v ∧ OctX (rb :: S) w' v (dec s).1 ∧ IsRd S w' rb (dec s).2 ∧ Mod [rb] w w') : RdG P f 1 fun s => (.byt (dec s).1, (dec s).2) :=
  fun S w rb s hr hrb hS => (h S w rb s hr hrb hS).mono fun e w' ⟨v, e1, e2, e3, e4⟩ => ⟨v, e1, ⟨by rw [e2.cells]; rfl, by rw [e2.cells]; exact .byt e2⟩, e3, e4⟩

theorem nstr_rd {dec : RS → Option (List UInt8) × RS} (h : ∀ (S : List Nat) (w : World) (rb : Nat) (s : RS), IsRd S w rb s → rb ∉ S →
    Calls P f [.pointer (some ⟨rb, 0, none⟩)].toArray w fun e w' => ∃ v, e = .returned v ∧ PStr w.heap.size w' v (dec s).1 ∧ IsRd S w' rb (dec s).2 ∧ Mod [rb] w w') : RdG P f 1 fun s => (.nstr (dec s).1, (dec s).2) :=
  fun S w rb s hr hrb hS => (h S w rb s hr hrb).mono fun e w' ⟨v, e1, e2, e3, e4⟩ => by
    obtain ⟨k1, k2⟩ := e2.rep (O := rb :: S) (fun y hy => by
      rcases List.mem_cons.1 hy with rfl | hy
      · exact hr.lt
      · exact hS y hy)
    exact ⟨v, e1, ⟨by rw [k1]; rfl, by rw [k1]; exact k2⟩, e3, e4⟩

variable (L : Lib P F has)
include L

theorem ok_std (h : has rOk = true) : OkC P (F rOk) := fun _S _w _rb _s hr => rOk_call L.mixed (L.rOk h) hr
theorem cpl_std (h : has rComplete = true) : CplC P (F rComplete) (F gErr) := fun _S _w _rb _s _T _v hr hg => rComplete_call L.mixed (L.rComplete h) hr hg
theorem tags_std (h : hasAll has [tRead, rUvarint, kUvarint, rSpan, tSet] = true) : RdG P (F tRead) 1 fun s => (.tag (decStd.tags s).1, (decStd.tags s).2) := by
  have h := hasAll_mem h
  exact tRead_call L.mixed (L.tRead (h _ (by simp))) (L.rUvarint (h _ (by simp))) (L.kUvarint (h _ (by simp))) (L.rSpan (h _ (by simp))) (L.tSet (h _ (by simp)))

theorem len_std {x : Bool} (h : lenOk F has x f = true) : RdL P f (decStd.len x) := by
  unfold lenOk at h
  cases x with
  | true =>
    simp only [if_true, Bool.and_eq_true, beq_iff_eq] at h
    obtain ⟨rfl, h⟩ := h
    have h := hasAll_mem h
    exact (rCompactArrayLen_call L.mixed (L.rCompactArrayLen (h _ (by simp))) (L.rUvarint (h _ (by simp))) (L.kUvarint (h _ (by simp)))).l
  | false =>
    simp only [Bool.false_eq_true, if_false, Bool.and_eq_true, beq_iff_eq] at h
    obtain ⟨rfl, h⟩ := h
    have h := hasAll_mem h
    exact (rArrayLen_call L.mixed (L.rArrayLen (h _ (by simp))) (L.rInt32 (h _ (by simp))) (L.beUint32 (h _ (by simp)))).l

theorem sel_std {p : PK} {u x : Bool} (h : selOk F has p u x f = true) : RdG P f p.size (decStd.prim p x) := by
  have hm := L.mixed
  have spl : ∀ {c : Nat} {l : List Nat}, (f == F c && hasAll has (c :: l)) = true → f = F c ∧ ∀ y ∈ c :: l, has y = true := fun h => by
    simp only [Bool.and_eq_true, beq_iff_eq] at h
    exact ⟨h.1, hasAll_mem h.2⟩
  cases p with
  | bool => obtain ⟨rfl, q⟩ := spl h; exact (rBool_call hm (L.rBool (q _ (by simp)))).g (fun _ => rfl) fun _ => rfl
  | i8 => obtain ⟨rfl, q⟩ := spl h; exact (rInt8_call hm (L.rInt8 (q _ (by simp)))).g (fun _ => rfl) fun _ => rfl
  | i16 => obtain ⟨rfl, q⟩ := spl h; exact (rInt16_call hm (L.rInt16 (q _ (by simp))) (L.beUint16 (q _ (by simp)))).g (fun _ => rfl) fun _ => rfl
  | u16 => obtain ⟨rfl, q⟩ := spl h; exact (rUint16_call hm (L.rUint16 (q _ (by simp))) (L.beUint16 (q _ (by simp)))).g (fun _ => rfl) fun _ => rfl
  | i32 => obtain ⟨rfl, q⟩ := spl h; exact (rInt32_call hm (L.rInt32 (q _ (by simp))) (L.beUint32 (q _ (by simp)))).g (fun _ => rfl) fun _ => rfl
  | u32 => simp [selOk] at h
  | i64 => obtain ⟨rfl, q⟩ := spl h; exact (rInt64_call hm (L.rInt64 (q _ (by simp))) (L.rReadUint64 (q _ (by simp))) (L.beUint64 (q _ (by simp)))).g (fun _ => rfl) fun _ => rfl
  | uuid =>
    obtain ⟨rfl, q⟩ := spl h
    exact fun S w rb s hr hrb _ => (rUuid_call hm (L.rUuid (q _ (by simp))) (L.rSpan (q _ (by simp))) S w rb s hr hrb).mono fun e w' ⟨e1, e2, e3⟩ =>
      ⟨_, e1, ⟨by have := rdUuid_len s; simp [Value.cells, u8s, this, PK.size], .arr⟩, e2, e3⟩
  | str =>
    cases u with
    | true => cases x with
      | true => obtain ⟨rfl, q⟩ := spl h; exact (rUnsafeCompactString_call hm (L.rUnsafeCompactString (q _ (by simp))) (L.rUvarint (q _ (by simp))) (L.kUvarint (q _ (by simp))) (L.rSpan (q _ (by simp))) (L.kUnsafeString (q _ (by simp)))).g (fun _ => rfl) fun _ => rfl
      | false => obtain ⟨rfl, q⟩ := spl h; exact (rUnsafeString_call hm (L.rUnsafeString (q _ (by simp))) (L.rInt16 (q _ (by simp))) (L.beUint16 (q _ (by simp))) (L.rSpan (q _ (by simp))) (L.kUnsafeString (q _ (by simp)))).g (fun _ => rfl) fun _ => rfl
    | false => cases x with
      | true => obtain ⟨rfl, q⟩ := spl h; exact (rCompactString_call hm (L.rCompactString (q _ (by simp))) (L.rUvarint (q _ (by simp))) (L.kUvarint (q _ (by simp))) (L.rSpan (q _ (by simp)))).g (fun _ => rfl) fun _ => rfl
      | false => obtain ⟨rfl, q⟩ := spl h; exact (rString_call hm (L.rString (q _ (by simp))) (L.rInt16 (q _ (by simp))) (L.beUint16 (q _ (by simp))) (L.rSpan (q _ (by simp)))).g (fun _ => rfl) fun _ => rfl
  | nstr =>
    cases u with
    | true => cases x with
      | true => obtain ⟨rfl, q⟩ := spl h; exact nstr_rd fun S w rb s hr hrb => rUnsafeCompactNullableString_call hm (L.rUnsafeCompactNullableString (q _ (by simp))) (L.rUvarint (q _ (by simp))) (L.kUvarint (q _ (by simp))) (L.rSpan (q _ (by simp))) (L.kUnsafeString (q _ (by simp))) hr hrb
      | false => obtain ⟨rfl, q⟩ := spl h; exact nstr_rd fun S w rb s hr hrb => rUnsafeNullableString_call hm (L.rUnsafeNullableString (q _ (by simp))) (L.rInt16 (q _ (by simp))) (L.beUint16 (q _ (by simp))) (L.rSpan (q _ (by simp))) (L.kUnsafeString (q _ (by simp))) hr hrb
    | false => cases x with
      | true => obtain ⟨rfl, q⟩ := spl h; exact nstr_rd fun S w rb s hr hrb => rCompactNullableString_call hm (L.rCompactNullableString (q _ (by simp))) (L.rUvarint (q _ (by simp))) (L.kUvarint (q _ (by simp))) (L.rSpan (q _ (by simp))) hr hrb
      | false => obtain ⟨rfl, q⟩ := spl h; exact nstr_rd fun S w rb s hr hrb => rNullableString_call hm (L.rNullableString (q _ (by simp))) (L.rInt16 (q _ (by simp))) (L.beUint16 (q _ (by simp))) (L.rSpan (q _ (by simp))) hr hrb
  | byt =>
    cases x with
    | true => obtain ⟨rfl, q⟩ := spl h; exact byt_rd fun S w rb s hr hrb hS => rCompactBytes_call hm (L.rCompactBytes (q _ (by simp))) (L.rUvarint (q _ (by simp))) (L.kUvarint (q _ (by simp))) (L.rSpan (q _ (by simp))) hr hrb hS
    | false => obtain ⟨rfl, q⟩ := spl h; exact byt_rd fun S w rb s hr hrb hS => rBytes_call hm (L.rBytes (q _ (by simp))) (L.rInt32 (q _ (by simp))) (L.beUint32 (q _ (by simp))) (L.rSpan (q _ (by simp))) hr hrb hS
  | nbyt =>
    cases x with
    | true => obtain ⟨rfl, q⟩ := spl h; exact byt_rd fun S w rb s hr hrb _ => rCompactNullableBytes_call hm (L.rCompactNullableBytes (q _ (by simp))) (L.rUvarint (q _ (by simp))) (L.kUvarint (q _ (by simp))) (L.rSpan (q _ (by simp))) hr hrb
    | false => obtain ⟨rfl, q⟩ := spl h; exact byt_rd fun S w rb s hr hrb _ => rNullableBytes_call hm (L.rNullableBytes (q _ (by simp))) (L.rInt32 (q _ (by simp))) (L.beUint32 (q _ (by simp))) (L.rSpan (q _ (by simp))) hr hrb

end
end Go.Msk

/-! What is read is of the kind that is told. -/
namespace Go.Msk
open Go.RowKit
set_option maxRecDepth 100000

def PK.ty : PK → GV → Prop
  | .bool, g => ∃ b, g = .num (.bool b)
  | .i64, g => ∃ n, g = .num (.int .i64 n) ∧ IntKind.i64.wrap n = n
  | .str, g => ∃ l, g = .num (Msk.str l)
  | .nstr, g => ∃ o, g = .nstr o
  | .byt, g | .nbyt, g => ∃ o, g = .byt o ∧ ∀ l, o = some l → l.length ≤ 2147483647
  | .uuid, g => ∃ l, g = .arr l ∧ l.length = 16
  | _, g => ∃ k n, g = .num (.int k n)

/-- The kind read fits the kind told. -/
def fitF : PK → TK → Bool
  | .bool, .boo _ => true
  | .i64, .num false => true
  | .str, .str => true
  | .nstr, .txt _ => true
  | .byt, .oct _ | .nbyt, .oct _ => true
  | .i8, .num true | .i16, .num true | .u16, .num true | .i32, .num true | .u32, .num true => true
  | _, _ => false

def fitE : PK → EK → Bool
  | .i64, .num false => true
  | .str, .str => true
  | .i8, .num true | .i16, .num true | .u16, .num true | .i32, .num true | .u32, .num true => true
  | _, _ => false

theorem fitF_ty {p : PK} {k : TK} {g : GV} (h : fitF p k = true) (hg : p.ty g) : k.ty g := by
  cases p <;> cases k <;> simp only [fitF, Bool.false_eq_true] at h <;> first | exact hg | (rename_i c; cases c <;> simp only [Bool.false_eq_true] at h <;> exact hg)

theorem fitE_ty {p : PK} {k : EK} {T : List GV → Prop} {g : GV} (h : fitE p k = true) (hg : p.ty g) : k.ty T g := by
  cases p <;> cases k <;> simp only [fitE, Bool.false_eq_true] at h <;> first | exact hg | (rename_i c; cases c <;> simp only [Bool.false_eq_true] at h <;> exact hg)

/-- The default is of the kind too. -/
def fitD : PK → Df → Bool
  | .bool, .bool _ => true
  | .i64, .int .i64 n => decide (IntKind.i64.wrap n = n)
  | .str, .str _ => true
  | .nstr, .nstr => true
  | .byt, .byt | .nbyt, .byt => true
  | .uuid, .uuid => true
  | .i8, .int .. | .i16, .int .. | .u16, .int .. | .i32, .int .. | .u32, .int .. => true
  | _, _ => false

theorem fitD_ty {p : PK} {d : Df} (h : fitD p d = true) : p.ty d.gv := by
  cases p <;> cases d <;> simp only [fitD, Bool.false_eq_true] at h <;> first | exact ⟨_, _, rfl⟩ | exact ⟨_, rfl⟩ | exact ⟨none, rfl, by simp⟩ | exact ⟨_, rfl, by simp⟩ | skip
  rename_i k n
  cases k <;> simp only [Bool.false_eq_true, decide_eq_true_eq] at h
  exact ⟨n, rfl, h⟩

/-- The scheme of reading fits the scheme of telling. -/
def fit : Sc → Tl → Bool
  | .nil, .nil => true
  | .prm _ _ _ p d rest, .fld k r => fitF p k && fitD p d && fit rest r
  | .prm _ _ _ p d rest, .uid r => decide (p = .uuid) && fitD p d && fit rest r
  | .enm _ _ _ p d rest, .fld k r => fitF p k && fitD p d && fit rest r
  | .lsp _ _ _ d _ _ p rest, .lst k esz _ r => fitE p k && decide (d.size = esz) && fit rest r
  | .lss _ _ _ _ _ body rest, .lst (.tell _) esz b r => fit body b && decide (body.size = esz) && fit rest r
  | .sub _ _ body rest, .sub _ n b r => fit body b && decide (body.size = n) && fit rest r
  | .tags _, .tags .. => true
  | .uid _ _ rest, .uid r => fit rest r
  | _, _ => false

structure Dec.Ok (D : Dec) : Prop where
  short : D.Short
  lenle : ∀ (x : Bool) (s : RS), (D.len x s).2.src.length ≤ s.src.length
  prle : ∀ (p : PK) (x : Bool) (s : RS), (D.prim p x s).2.src.length ≤ s.src.length
  ty : ∀ (p : PK) (x : Bool) (s : RS), s.src.length ≤ 2147483647 → p.ty (D.prim p x s).1
  tagle : ∀ s : RS, (D.tags s).2.src.length ≤ s.src.length
  tagty : ∀ s : RS, s.src.length ≤ 2147483647 → (D.tags s).1.length ≤ 2147483647 ∧ ∀ p ∈ (D.tags s).1, p.2.length ≤ 2147483647

theorem decList_ty {el : RS → Option (GV × RS)} {T : GV → Prop} (hel : ∀ s g s', s.src.length ≤ 2147483647 → el s = some (g, s') → T g ∧ s'.src.length ≤ s.src.length) : ∀ (n : Nat) (s : RS) (l : List GV) (s' : RS), s.src.length ≤ 2147483647 →
    decList el n s = some (l, s') → (∀ g ∈ l, T g) ∧ l.length = n ∧ s'.src.length ≤ s.src.length
  | 0, s, l, s', hs, h => by simp only [decList, Option.some.injEq, Prod.mk.injEq] at h; obtain ⟨rfl, rfl⟩ := h; simp
  | n + 1, s, l, s', hs, h => by
    simp only [decList] at h
    cases he : el s with
    | none => simp [he] at h
    | some p =>
      obtain ⟨g, s1⟩ := p
      obtain ⟨h1, h2⟩ := hel s g s1 hs he
      simp only [he] at h
      cases hd : decList el n s1 with
      | none => simp [hd] at h
      | some q =>
        obtain ⟨l2, s2⟩ := q
        simp only [hd, Option.some.injEq, Prod.mk.injEq] at h
        obtain ⟨rfl, rfl⟩ := h
        obtain ⟨k1, k2, k3⟩ := decList_ty hel n s1 l2 s2 (by omega) hd
        refine ⟨fun x hx => ?_, by simp [k2], by omega⟩
        rcases List.mem_cons.1 hx with rfl | hx
        · exact h1
        · exact k1 x hx

theorem decLst_ty {D : Dec} (hD : D.Ok) {x : Bool} {sz : Nat} {el : RS → Option (GV × RS)} {T : GV → Prop} (hel : ∀ s g s', s.src.length ≤ 2147483647 → el s = some (g, s') → T g ∧ s'.src.length ≤ s.src.length) {s s' : RS} {g : GV} (hs : s.src.length ≤ 2147483647)
    (h : decLst D x sz el s = some (g, s')) : (∃ isnil z l, g = .lst isnil z l ∧ (∀ y ∈ l, T y) ∧ l.length ≤ 2147483647 ∧ (l = [] ∨ z = sz)) ∧ s'.src.length ≤ s.src.length := by
  unfold decLst at h
  split at h
  · simp at h
  · have h1 := hD.lenle x s
    have h2 := hD.short x s
    cases hd : decList el (D.len x s).1.toNat (D.len x s).2 with
    | none => rw [hd] at h; simp at h
    | some q =>
      obtain ⟨l, s2⟩ := q
      rw [hd] at h
      simp only [Option.some.injEq, Prod.mk.injEq] at h
      obtain ⟨rfl, rfl⟩ := h
      obtain ⟨k1, k2, k3⟩ := decList_ty hel _ _ _ _ (by omega) hd
      refine ⟨⟨_, _, l, rfl, k1, by omega, ?_⟩, by omega⟩
      by_cases hz : (D.len x s).1 ≤ 0
      · left
        have : l.length = 0 := by omega
        exact List.length_eq_zero_iff.1 this
      · right; rw [if_neg hz]

theorem consD_some {f : Option (GV × RS)} {rest : RS → Option (List GV × RS)} {gs : List GV} {s' : RS} (h : consD f rest = some (gs, s')) : ∃ g s1 l, f = some (g, s1) ∧ rest s1 = some (l, s') ∧ gs = g :: l := by
  unfold consD at h
  cases f with
  | none => simp at h
  | some p =>
    obtain ⟨g, s1⟩ := p
    simp only at h
    cases hr : rest s1 with
    | none => simp [hr] at h
    | some q =>
      obtain ⟨l, s2⟩ := q
      simp only [hr, Option.some.injEq, Prod.mk.injEq] at h
      obtain ⟨rfl, rfl⟩ := h
      exact ⟨g, s1, l, rfl, hr, rfl⟩

theorem fit_dgv : ∀ (sc : Sc) (tl : Tl), fit sc tl = true → tl.ty sc.dgv := by
  intro sc
  induction sc with
  | nil => intro tl hf; cases tl <;> simp only [fit, Bool.false_eq_true] at hf; rfl
  | prm vc i r p d rest ih =>
    intro tl hf
    cases tl <;> simp only [fit, Bool.false_eq_true, Bool.and_eq_true] at hf
    · exact ⟨_, _, rfl, fitF_ty hf.1.1 (fitD_ty hf.1.2), ih _ hf.2⟩
    · have e : p = .uuid := by simpa using hf.1.1
      subst e
      obtain ⟨l, h1, h2⟩ := fitD_ty hf.1.2
      exact ⟨l, _, by rw [Sc.dgv, h1], h2, ih _ hf.2⟩
  | enm vc i r p d rest ih =>
    intro tl hf
    cases tl <;> simp only [fit, Bool.false_eq_true, Bool.and_eq_true] at hf
    exact ⟨_, _, rfl, fitF_ty hf.1.1 (fitD_ty hf.1.2), ih _ hf.2⟩
  | lsp vc len by' d i r p rest ih =>
    intro tl hf
    cases tl <;> simp only [fit, Bool.false_eq_true, Bool.and_eq_true] at hf
    exact ⟨_, _, _, _, rfl, by simp, by simp, .inl rfl, ih _ hf.2⟩
  | lss vc len by' z dfl body rest ihb ih =>
    intro tl hf
    cases tl with
    | lst k esz b r' =>
      cases k <;> simp only [fit, Bool.false_eq_true, Bool.and_eq_true] at hf
      exact ⟨_, _, _, _, rfl, by simp, by simp, .inl rfl, ih _ hf.2⟩
    | _ => simp [fit] at hf
  | sub vc dfl body rest ihb ih =>
    intro tl hf
    cases tl <;> simp only [fit, Bool.false_eq_true, Bool.and_eq_true] at hf
    exact ⟨_, _, rfl, ihb _ hf.1.1, ih _ hf.2, rfl⟩
  | uid vc f rest ih =>
    intro tl hf
    cases tl <;> simp only [fit, Bool.false_eq_true] at hf
    exact ⟨_, _, rfl, by simp, ih _ hf⟩
  | tags f =>
    intro tl hf
    cases tl <;> simp only [fit, Bool.false_eq_true] at hf
    exact ⟨[], rfl, by simp, by simp⟩

theorem fit_ty {D : Dec} (hD : D.Ok) {ver : Int} {x : Bool} : ∀ (sc : Sc) (tl : Tl) (s s' : RS) (gs : List GV), fit sc tl = true → s.src.length ≤ 2147483647 → sc.dec D ver x s = some (gs, s') → tl.ty gs ∧ s'.src.length ≤ s.src.length := by
  intro sc
  have prim : ∀ (vc : VC) (p : PK) (d : Df) (k : TK) (s s1 : RS) (g : GV), fitF p k = true → fitD p d = true → s.src.length ≤ 2147483647 → (if vc.holds ver then some (D.prim p x s) else some (d.gv, s)) = some (g, s1) → k.ty g ∧ s1.src.length ≤ s.src.length := by
    intro vc p d k s s1 g h1 h2 hs h
    split at h
    · simp only [Option.some.injEq] at h
      have e1 := hD.ty p x s hs
      have e2 := hD.prle p x s
      rw [h] at e1 e2
      exact ⟨fitF_ty h1 e1, e2⟩
    · simp only [Option.some.injEq, Prod.mk.injEq] at h
      obtain ⟨rfl, rfl⟩ := h
      exact ⟨fitF_ty h1 (fitD_ty h2), Nat.le_refl _⟩
  induction sc with
  | nil =>
    intro tl s s' gs hf hs h
    cases tl <;> simp only [fit, Bool.false_eq_true] at hf
    simp only [Sc.dec, Option.some.injEq, Prod.mk.injEq] at h
    obtain ⟨rfl, rfl⟩ := h
    exact ⟨rfl, Nat.le_refl _⟩
  | prm vc i r p d rest ih =>
    intro tl s s' gs hf hs h
    cases tl <;> simp only [fit, Bool.false_eq_true, Bool.and_eq_true] at hf
    · obtain ⟨g, s1, l, h1, h2, rfl⟩ := consD_some h
      obtain ⟨k1, k2⟩ := prim vc p d _ s s1 g hf.1.1 hf.1.2 hs h1
      obtain ⟨k3, k4⟩ := ih _ s1 s' l hf.2 (by omega) h2
      exact ⟨⟨g, l, rfl, k1, k3⟩, by omega⟩
    · have e : p = .uuid := by simpa using hf.1.1
      subst e
      obtain ⟨g, s1, l, h1, h2, rfl⟩ := consD_some h
      have : (∃ x, g = .arr x ∧ x.length = 16) ∧ s1.src.length ≤ s.src.length := by
        split at h1
        · simp only [Option.some.injEq] at h1
          have e1 := hD.ty .uuid x s hs
          have e2 := hD.prle .uuid x s
          rw [h1] at e1 e2
          exact ⟨e1, e2⟩
        · simp only [Option.some.injEq, Prod.mk.injEq] at h1
          obtain ⟨rfl, rfl⟩ := h1
          exact ⟨fitD_ty hf.1.2, Nat.le_refl _⟩
      obtain ⟨⟨y, rfl, hy⟩, k2⟩ := this
      obtain ⟨k3, k4⟩ := ih _ s1 s' l hf.2 (by omega) h2
      exact ⟨⟨y, l, rfl, hy, k3⟩, by omega⟩
  | enm vc i r p d rest ih =>
    intro tl s s' gs hf hs h
    cases tl <;> simp only [fit, Bool.false_eq_true, Bool.and_eq_true] at hf
    obtain ⟨g, s1, l, h1, h2, rfl⟩ := consD_some h
    obtain ⟨k1, k2⟩ := prim vc p d _ s s1 g hf.1.1 hf.1.2 hs h1
    obtain ⟨k3, k4⟩ := ih _ s1 s' l hf.2 (by omega) h2
    exact ⟨⟨g, l, rfl, k1, k3⟩, by omega⟩
  | lsp vc len by' d i r p rest ih =>
    intro tl s s' gs hf hs h
    cases tl with
    | lst k esz body r' =>
      simp only [fit, Bool.and_eq_true, decide_eq_true_eq] at hf
      obtain ⟨g, s1, l, h1, h2, rfl⟩ := consD_some h
      have : (∃ isnil z y, g = .lst isnil z y ∧ (∀ e ∈ y, k.ty body.ty e) ∧ y.length ≤ 2147483647 ∧ (y = [] ∨ z = esz)) ∧ s1.src.length ≤ s.src.length := by
        split at h1
        · rw [← hf.1.2]
          exact decLst_ty hD (fun s g s' hs h => by
            simp only [Option.some.injEq] at h
            have e1 := hD.ty p x s hs
            have e2 := hD.prle p x s
            rw [h] at e1 e2
            exact ⟨fitE_ty hf.1.1 e1, e2⟩) hs h1
        · simp only [Option.some.injEq, Prod.mk.injEq] at h1
          obtain ⟨rfl, rfl⟩ := h1
          exact ⟨⟨_, _, [], rfl, by simp, by simp, .inl rfl⟩, Nat.le_refl _⟩
      obtain ⟨⟨isnil, z, y, rfl, k1, k2, k3⟩, k4⟩ := this
      obtain ⟨k5, k6⟩ := ih _ s1 s' l hf.2 (by omega) h2
      exact ⟨⟨isnil, z, y, l, rfl, k1, k2, k3, k5⟩, by omega⟩
    | _ => simp [fit] at hf
  | lss vc len by' z dfl body rest ihb ih =>
    intro tl s s' gs hf hs h
    cases tl with
    | lst k esz b r' =>
      cases k with
      | tell f =>
        simp only [fit, Bool.and_eq_true, decide_eq_true_eq] at hf
        obtain ⟨g, s1, l, h1, h2, rfl⟩ := consD_some h
        have : (∃ isnil z y, g = .lst isnil z y ∧ (∀ e ∈ y, (EK.tell f).ty b.ty e) ∧ y.length ≤ 2147483647 ∧ (y = [] ∨ z = esz)) ∧ s1.src.length ≤ s.src.length := by
          split at h1
          · rw [← hf.1.2]
            refine decLst_ty hD (fun s g s' hs h => ?_) hs h1
            unfold rcdD at h
            cases hd : body.dec D ver x s with
            | none => rw [hd] at h; simp at h
            | some q =>
              obtain ⟨gl, s2⟩ := q
              rw [hd] at h
              simp only [Option.some.injEq, Prod.mk.injEq] at h
              obtain ⟨rfl, rfl⟩ := h
              obtain ⟨k1, k2⟩ := ihb b s s2 gl hf.1.1 hs hd
              exact ⟨⟨gl, rfl, k1⟩, k2⟩
          · simp only [Option.some.injEq, Prod.mk.injEq] at h1
            obtain ⟨rfl, rfl⟩ := h1
            exact ⟨⟨_, _, [], rfl, by simp, by simp, .inl rfl⟩, Nat.le_refl _⟩
        obtain ⟨⟨isnil, z, y, rfl, k1, k2, k3⟩, k4⟩ := this
        obtain ⟨k5, k6⟩ := ih _ s1 s' l hf.2 (by omega) h2
        exact ⟨⟨isnil, z, y, l, rfl, k1, k2, k3, k5⟩, by omega⟩
      | num c => simp [fit] at hf
      | str => simp [fit] at hf
    | _ => simp [fit] at hf
  | sub vc dfl body rest ihb ih =>
    intro tl s s' gs hf hs h
    cases tl <;> simp only [fit, Bool.false_eq_true, Bool.and_eq_true] at hf
    obtain ⟨g, s1, l, h1, h2, rfl⟩ := consD_some h
    rename_i f n b r'
    have : (∃ x, g = .rcd x ∧ b.ty x) ∧ s1.src.length ≤ s.src.length := by
      split at h1
      · unfold rcdD at h1
        cases hd : body.dec D ver x s with
        | none => rw [hd] at h1; simp at h1
        | some q =>
          obtain ⟨gl, s2⟩ := q
          rw [hd] at h1
          simp only [Option.some.injEq, Prod.mk.injEq] at h1
          obtain ⟨rfl, rfl⟩ := h1
          obtain ⟨k1, k2⟩ := ihb b s s2 gl hf.1.1 hs hd
          exact ⟨⟨gl, rfl, k1⟩, k2⟩
      · simp only [Option.some.injEq, Prod.mk.injEq] at h1
        obtain ⟨rfl, rfl⟩ := h1
        exact ⟨⟨_, rfl, fit_dgv body b hf.1.1⟩, Nat.le_refl _⟩
    obtain ⟨⟨y, rfl, hy⟩, k2⟩ := this
    obtain ⟨k3, k4⟩ := ih _ s1 s' l hf.2 (by omega) h2
    exact ⟨⟨y, l, rfl, hy, k3, rfl⟩, by omega⟩
  | uid vc f rest ih =>
    intro tl s s' gs hf hs h
    cases tl <;> simp only [fit, Bool.false_eq_true] at hf
    obtain ⟨g, s1, l, h1, h2, rfl⟩ := consD_some h
    have : (∃ x, g = .arr x ∧ x.length = 16) ∧ s1.src.length ≤ s.src.length := by
      split at h1
      · simp only [Option.some.injEq] at h1
        have e1 := hD.ty .uuid x s hs
        have e2 := hD.prle .uuid x s
        rw [h1] at e1 e2
        exact ⟨e1, e2⟩
      · simp only [Option.some.injEq, Prod.mk.injEq] at h1
        obtain ⟨rfl, rfl⟩ := h1
        exact ⟨⟨_, rfl, by simp⟩, Nat.le_refl _⟩
    obtain ⟨⟨y, rfl, hy⟩, k2⟩ := this
    obtain ⟨k3, k4⟩ := ih _ s1 s' l hf (by omega) h2
    exact ⟨⟨y, l, rfl, hy, k3⟩, by omega⟩
  | tags f =>
    intro tl s s' gs hf hs h
    cases tl <;> simp only [fit, Bool.false_eq_true] at hf
    simp only [Sc.dec] at h
    split at h
    · simp only [Option.some.injEq, Prod.mk.injEq] at h
      obtain ⟨rfl, rfl⟩ := h
      obtain ⟨k1, k2⟩ := hD.tagty s hs
      exact ⟨⟨_, rfl, k1, k2⟩, hD.tagle s⟩
    · simp only [Option.some.injEq, Prod.mk.injEq] at h
      obtain ⟨rfl, rfl⟩ := h
      exact ⟨⟨[], rfl, by simp, by simp⟩, Nat.le_refl _⟩

end Go.Msk

/-! Default methods: constants set in their places. -/
namespace Go.Msk
open Go.RowKit
set_option maxRecDepth 100000

def dfL : List (Nat × Value) → Nat → List IC
  | [], _ => []
  | (off, v) :: r, t => .blk [⟨some t, .mv (.tmp 0), none⟩, ⟨some (t + 1), .nilc (.tmp t), none⟩, ⟨some (t + 2), .fad (.tmp (t + 1)) off, none⟩, ⟨none, .st (.tmp (t + 2)) 1 (.const v), none⟩] :: dfL r (t + 3)

def dfGen (l : List (Nat × Value)) : IC × List RV × Nat := (seqs (dfL l 2), [], 2 + 3 * l.length)

def dfRes : List (Nat × Value) → List Value → List Value
  | [], z => z
  | (off, v) :: r, z => dfRes r (z.set off v)

def dfOk (l : List (Nat × Value)) (n : Nat) : Prop := ∀ p ∈ l, p.1 < n ∧ p.2.cells = #[p.2] ∧ p.2.oneCell' = true

def dfOkB (l : List (Nat × Value)) (n : Nat) : Bool := l.all fun p => Nat.blt p.1 n && match p.2 with
  | .int .. | .bool _ | .string _ | .pointer _ => true
  | _ => false

theorem dfOk_of {l : List (Nat × Value)} {n : Nat} (h : dfOkB l n = true) : dfOk l n := by
  intro p hp
  unfold dfOkB at h
  rw [List.all_eq_true] at h
  have := h p hp
  simp only [Bool.and_eq_true] at this
  refine ⟨Nat.lt_of_succ_le (Nat.le_of_ble_eq_true this.1), ?_⟩
  have h2 := this.2
  cases hv : p.2 <;> rw [hv] at h2 <;> first | (simp at h2; done) | exact ⟨rfl, rfl⟩

section
variable {P : Program}

theorem set_splice1 (pre z post : List Value) (off : Nat) (v : Value) (h : off < z.length) : splice (pre ++ (z ++ post)) (pre.length + off) [v] = pre ++ (z.set off v ++ post) := by
  unfold splice
  rw [List.take_length_add_append, List.take_append_of_le_length (by omega)]
  have e : pre.length + off + [v].length = pre.length + (off + 1) := by simp; omega
  rw [e, List.drop_length_add_append, List.drop_append_of_le_length (by omega), List.set_eq_take_append_cons_drop, if_pos h]
  simp

theorem dfL_wp {B : Nat} {pre post : List Value} : ∀ (l : List (Nat × Value)) (t : Nat) (z : List Value) (σ : Sl) (w : World) (Q : Exit → Sl → World → Prop), 1 ≤ t → dfOk l z.length → σ 0 = .pointer (some ⟨B, pre.length, none⟩) →
    Blk w B (pre ++ (z ++ post)) → (∀ σ' w', Mod [B] w w' → Blk w' B (pre ++ (dfRes l z ++ post)) → Q .normal σ' w') → wpL P (dfL l t) Q σ w
  | [], t, z, σ, w, Q, ht, hok, h0, hb, hQ => hQ σ w (Mod.refl _ _) hb
  | (off, v) :: r, t, z, σ, w, Q, ht, hok, h0, hb, hQ => by
    obtain ⟨ho, hv, h1⟩ := hok (off, v) List.mem_cons_self
    simp only at ho hv h1
    simp only [dfL, wpL, wpC, wpR, RI.wp, gOk, if_true, RK.run, ev, updo]
    simp only [upd, if_true, h0, Addr.add_mk, hv]
    have hput : Mod [B] w (putCells w ⟨B, pre.length + off, none⟩ 0 [v]) := Mod.put (by simp)
    refine ⟨rfl, stOk_many hb (by simp; omega) (by simpa using h1), ?_⟩
    have hp := hb.put (o := pre.length + off) (vs := [v]) (by simp; omega)
    rw [set_splice1 _ _ _ _ _ ho] at hp
    simp only [thenC]
    refine dfL_wp r (t + 3) (z.set off v) _ _ Q (by omega) (fun p hp => by rw [List.length_set]; exact hok p (List.mem_cons_of_mem _ hp)) ?_ (by simpa using hp) fun σ' w' hm hb' => hQ σ' w' (hput.trans hm) hb'
    simp only [upd, show (0 : Nat) ≠ t by omega, show (0 : Nat) ≠ t + 1 by omega, show (0 : Nat) ≠ t + 2 by omega, if_false, h0]

theorem df_call (hm : P.follows .mixedOrders = true) {f : FuncId} {l : List (Nat × Value)} (h : liftF P f = some (dfGen l)) {z d : List Value} (hok : dfOk l z.length) (hd : dfRes l z = d) : DfC P f z d := by
  intro w B pre post hb
  refine call_of h hm (by simp; omega) ?_
  rw [wpC_seqs]
  refine dfL_wp l 2 z _ w _ (by omega) hok rfl hb fun σ' w' hm' hb' => ?_
  simp only [postC, rvals, List.mapM_nil, Option.pure_def, tup]
  exact ⟨trivial, hd ▸ hb', hm'⟩

end
end Go.Msk

/-! The small functions about a message: a new one, its versions, the two ways to read. -/
namespace Go.Msk
open Go.RowKit
set_option maxRecDepth 100000

def newCode (z : List Value) (dfl : FuncId) : IC × List RV × Nat :=
  (.seq (.blk [⟨some 0, .mv (.const (.pointer none)), none⟩]) (.seq (.blk [⟨some 1, .alloc z, none⟩]) (.seq (.blk [⟨some 2, .call dfl [.tmp 1], none⟩]) (.seq (.blk [⟨some 0, .mv (.tmp 1), none⟩]) .ret))), [.tmp 0], 3)

def maxCode (v : Int) : IC × List RV × Nat :=
  (.seq (.blk [⟨some 2, .mv (.const (.int .i16 0)), none⟩]) (.seq (.blk [⟨some 2, .mv (.const (.int .i16 v)), none⟩]) .ret), [.tmp 2], 3)

def setCode : IC × List RV × Nat :=
  (.blk [⟨some 4, .mv (.tmp 0), none⟩, ⟨some 5, .mv (.tmp 1), none⟩, ⟨some 6, .nilc (.tmp 4), none⟩, ⟨some 7, .fad (.tmp 6) 0, none⟩, ⟨none, .st (.tmp 7) 1 (.tmp 5), none⟩], [], 8)

def rfCode (f : FuncId) (u : Bool) : IC × List RV × Nat :=
  (.seq (.blk [⟨some 4, .mv (.const .nilIface), none⟩]) (.seq (.blk [⟨some 5, .mv (.tmp 0), none⟩, ⟨some 6, .mv (.tmp 1), none⟩, ⟨some 7, .call f [.tmp 5, .tmp 6, .const (.bool u)], none⟩, ⟨some 4, .mv (.tmp 7), none⟩]) .ret), [.tmp 4], 8)

def impMaxCode (newp mxv : FuncId) : IC × List RV × Nat :=
  (.seq (.blk [⟨some 0, .mv (.const (.int .i64 0)), none⟩]) (.seq (.blk [⟨some 1, .call newp [], none⟩, ⟨some 2, .call mxv [.tmp 1], none⟩, ⟨some 3, .conv .i64 (.tmp 2), none⟩, ⟨some 0, .mv (.tmp 3), none⟩]) .ret), [.tmp 0], 4)

section
variable {P : Program}
attribute [local simp] bnd wpC wpR RI.wp gOk RK.run thenC inBlockC updo upd ev args0 postC rvals RV.val tup_one isShift

theorem new_call (hm : P.follows .mixedOrders = true) {f dfl : FuncId} {z d : List Value} (h : liftF P f = some (newCode z dfl)) (hd : DfC P dfl z d) {w : World} :
    Calls P f #[] w fun e w' => e = .returned (.pointer (some ⟨w.heap.size, 0, none⟩)) ∧ Blk w' w.heap.size d ∧ Mod [] w w' := by
  refine call_of (args := []) h hm (by simp) ?_
  simp
  intro T
  have hb := Blk.new w z T
  have hm1 : Mod [] w (w.alloc (.cells z.toArray T)) := Mod.alloc _ _ _
  have := hd (w.alloc (.cells z.toArray T)) w.heap.size [] [] (by simpa using hb)
  refine (show Calls P dfl _ _ _ from this).mono ?_
  rintro e w' ⟨rfl, h1, h2⟩
  refine ⟨⟨_, rfl⟩, by simpa using h1, ?_⟩
  exact Mod.drop (b := w.heap.size) (S := []) (hm1.nil.trans h2) (Nat.le_refl _)

theorem max_call (hm : P.follows .mixedOrders = true) {f : FuncId} {v : Int} (h : liftF P f = some (maxCode v)) {w : World} {p : Value} :
    Calls P f [p].toArray w fun e w' => e = .returned (.int .i16 v) ∧ w' = w := by
  refine call_of h hm (by simp) ?_
  simp

theorem set_call (hm : P.follows .mixedOrders = true) {f : FuncId} (h : liftF P f = some setCode) {w : World} {b : Nat} {v : Int} {x : Value} {cs : List Value} (hb : Blk w b (x :: cs)) :
    Calls P f [.pointer (some ⟨b, 0, none⟩), .int .i16 v].toArray w fun e w' => e = .returned (.tuple #[]) ∧ Blk w' b (.int .i16 v :: cs) ∧ Mod [b] w w' := by
  refine call_of h hm (by simp) ?_
  have hput : Mod [b] w (putCells w ⟨b, 0, none⟩ 0 [.int .i16 v]) := Mod.put (by simp)
  have hp := hb.put (o := 0) (vs := [.int .i16 v]) (by simp)
  have e : splice (x :: cs) 0 [.int .i16 v] = .int .i16 v :: cs := by simp [splice]
  rw [e] at hp
  simp [Addr.add_mk, Value.cells]
  exact ⟨stOk_one hb (by simp) rfl, by simp [tup], hp, hput⟩

theorem rf_call (hm : P.follows .mixedOrders = true) {f g : FuncId} {u : Bool} (h : liftF P f = some (rfCode g u)) {w : World} {p s : Value} {R : Ending → World → Prop} (hR : ∀ e w', R e w' → ∃ v, e = .returned v)
    (hc : Calls P g [p, s, .bool u].toArray w R) : Calls P f [p, s].toArray w R := by
  refine call_of h hm (by simp) ?_
  simp
  refine hc.mono fun e w' he => ?_
  obtain ⟨v, rfl⟩ := hR e w' he
  exact ⟨v, rfl, he⟩

theorem impMax_call (hm : P.follows .mixedOrders = true) {f newp mxv dfl : FuncId} {z d : List Value} {v : Int} (h : liftF P f = some (impMaxCode newp mxv)) (hn : liftF P newp = some (newCode z dfl)) (hd : DfC P dfl z d) (hx : liftF P mxv = some (maxCode v)) (hv : 0 ≤ v ∧ v < 32768) {w : World} :
    Calls P f #[] w fun e w' => e = .returned (.int .i64 v) ∧ Mod [] w w' := by
  refine call_of (args := []) h hm (by simp) ?_
  simp
  refine (new_call hm hn hd).mono ?_
  rintro e w1 ⟨rfl, -, hm1⟩
  refine ⟨_, rfl, ?_⟩
  refine (show Calls P mxv _ _ _ from max_call hm hx).mono ?_
  rintro e w2 ⟨rfl, rfl⟩
  have e1 : IntKind.i64.wrap v = v := by simp [IntKind.wrap, IntKind.bits, IntKind.signed]; omega
  simp [e1, hm1]

end
end Go.Msk

/-! The doors that read octets and tell what they say. -/
namespace Go.Msk
open Go.RowKit
set_option maxRecDepth 100000

def tellCode (newp setv rf tell : FuncId) : IC × List RV × Nat :=
  (.seq (.blk [⟨some 4, .alloc tzero, none⟩, ⟨some 5, .mv (.const (.bool false)), none⟩]) (.seq (.blk [⟨some 7, .call newp [], none⟩, ⟨some 6, .mv (.tmp 7), none⟩])
    (.seq (.blk [⟨some 8, .mv (.tmp 6), none⟩, ⟨some 9, .mv (.tmp 0), none⟩, ⟨some 10, .conv .i16 (.tmp 9), none⟩, ⟨some 11, .call setv [.tmp 8, .tmp 10], none⟩])
    (.seq (.seq (.blk [⟨some 12, .mv (.tmp 6), none⟩, ⟨some 13, .mv (.tmp 1), none⟩, ⟨some 14, .append (.const (.slice none 0 0)) (.tmp 13) 1 1, none⟩, ⟨some 15, .call rf [.tmp 12, .tmp 14], none⟩, ⟨some 16, .isnil .ic true (.tmp 15), none⟩])
      (.cond (.tmp 16) (.seq (.blk [⟨some 17, .build tzero [], none⟩, ⟨none, .st (.tmp 4) 5 (.tmp 17), none⟩, ⟨some 5, .mv (.const (.bool false)), none⟩]) .ret) .skip))
    (.seq (.blk [⟨some 18, .mv (.tmp 6), none⟩, ⟨some 19, .call tell [.tmp 18], none⟩, ⟨none, .st (.tmp 4) 5 (.tmp 19), none⟩, ⟨some 5, .mv (.const (.bool true)), none⟩]) .ret)))),
   [.cells 4 5, .tmp 5], 20)

/-- What a message's octets are told as, if they can be read. -/
def Top.tells (T : Top) (D : Dec) (ver : Int) (src : List UInt8) : Option TR :=
  match T.dec D ver ⟨src, false, src.isEmpty⟩ with
  | none => none
  | some ((_, gs), s) => if s.bad then none else some (GV.rcd gs).told

section
variable {P : Program} {D : Dec}

end
end Go.Msk

/-! The doors that read octets and tell what they say: what they hand back. -/
namespace Go.Msk
open Go.RowKit
set_option maxRecDepth 100000

section
variable {P : Program} {D : Dec}

/-- The first half: a message is made, its version set, the octets copied. -/
theorem tell_first {T : Top} (hm : P.follows .mixedOrders = true) {newp setv : FuncId} {z : List Value} (hn : liftF P newp = some (newCode z T.dfl))
    (hz : DfC P T.dfl z (.int .i16 0 :: T.sc.dcs.flatten)) (hs : liftF P setv = some setCode) {w1 : World} {ver : Int} {_v : Value} (hver : IntKind.i16.wrap ver = ver) {σ : Sl} {rest : IC} {Q : Exit → Sl → World → Prop}
    (a0 : σ 0 = .int .i64 ver) (hQ : ∀ σ' w', (∀ j, j < 6 → σ' j = σ j) → σ' 6 = .pointer (some ⟨w1.heap.size, 0, none⟩) → Blk w' w1.heap.size (.int .i16 ver :: T.sc.dcs.flatten) → Mod [] w1 w' → wpC P rest Q σ' w') :
    wpC P (.seq (.blk [⟨some 7, .call newp [], none⟩, ⟨some 6, .mv (.tmp 7), none⟩])
      (.seq (.blk [⟨some 8, .mv (.tmp 6), none⟩, ⟨some 9, .mv (.tmp 0), none⟩, ⟨some 10, .conv .i16 (.tmp 9), none⟩, ⟨some 11, .call setv [.tmp 8, .tmp 10], none⟩]) rest)) Q σ w1 := by
  rw [wpC_seq, wpC_blk]
  refine wpR_call (vs := []) rfl (new_call hm hn hz) ?_
  rintro e w2 ⟨rfl, bS, m2⟩
  refine ⟨_, rfl, ?_⟩
  refine wpR_step (v := .pointer (some ⟨w1.heap.size, 0, none⟩)) rfl ?_
  simp only [wpR, thenC]
  rw [wpC_seq, wpC_blk]
  refine wpR_step (v := .pointer (some ⟨w1.heap.size, 0, none⟩)) rfl ?_
  refine wpR_step (v := .int .i64 ver) (congrArg some a0) ?_
  refine wpR_step (v := .int .i16 ver) (by simp only [RK.val?, ev, updo, upd_same, hver]) ?_
  refine wpR_call (vs := [.pointer (some ⟨w1.heap.size, 0, none⟩), .int .i16 ver]) rfl (set_call hm hs bS) ?_
  rintro e w3 ⟨rfl, bS3, m3⟩
  refine ⟨_, rfl, ?_⟩
  simp only [wpR, thenC]
  refine hQ _ w3 (fun j hj => ?_) rfl bS3 (Mod.drop (b := w1.heap.size) (S := []) (m2.nil.trans m3) (Nat.le_refl _))
  simp only [updo, upd, show j ≠ 6 by omega, show j ≠ 7 by omega, show j ≠ 8 by omega, show j ≠ 9 by omega, show j ≠ 10 by omega, show j ≠ 11 by omega, if_false]

end
end Go.Msk

/-! The doors that read octets and tell what they say: the reading. -/
namespace Go.Msk
open Go.RowKit
set_option maxRecDepth 100000

section
variable {P : Program} {D : Dec}

/-- The octets are copied and read; is there an error? -/
theorem tell_read {T : Top} {g : Nat} {u : Bool} (hm : P.follows .mixedOrders = true) {rf rd : FuncId} (hr : liftF P rf = some (rfCode rd u)) (hrd : liftF P rd = some T.gen) (hT : T.Ok P D g u) {w : World} {b0 : Nat} {ver : Int} {v : Value} {src : List UInt8} {ok : Nat → Prop}
    {Te : TypeId} {ve : Value} {σ : Sl} {A B : IC} {Q : Exit → Sl → World → Prop} (hb : Blk w b0 (.int .i16 ver :: T.sc.dcs.flatten)) (hsrc : SlC ok w v src.length (u8s src)) (hl : src.length ≤ 2147483647) (hg : GErr g w Te ve) (hgb : g ≠ b0)
    (a6 : σ 6 = .pointer (some ⟨b0, 0, none⟩)) (a1 : σ 1 = v)
    (hbad : ∀ σ' w', (∀ j, j < 12 → σ' j = σ j) → Mod [b0] w w' → (match T.dec D ver ⟨src, false, src.isEmpty⟩ with | none => True | some (_, s) => s.bad = true) → wpC P A Q σ' w')
    (hgood : ∀ σ' w' vr gs s css, (∀ j, j < 12 → σ' j = σ j) → Mod [b0] w w' → T.dec D ver ⟨src, false, src.isEmpty⟩ = some ((vr, gs), s) → s.bad = false → RepL [b0] w' gs css → Blk w' b0 (.int .i16 vr :: css.flatten) → wpC P B Q σ' w') :
    wpC P (.seq (.blk [⟨some 12, .mv (.tmp 6), none⟩, ⟨some 13, .mv (.tmp 1), none⟩, ⟨some 14, .append (.const (.slice none 0 0)) (.tmp 13) 1 1, none⟩, ⟨some 15, .call rf [.tmp 12, .tmp 14], none⟩, ⟨some 16, .isnil .ic true (.tmp 15), none⟩])
      (.cond (.tmp 16) A B)) Q σ w := by
  rw [wpC_seq, wpC_blk]
  refine wpR_step (v := .pointer (some ⟨b0, 0, none⟩)) (congrArg some a6) ?_
  refine wpR_step (v := v) (congrArg some a1) ?_
  refine wpR_run ?_
  refine appendNil_bytes (v := v) rfl hsrc hl fun base cap w1 hby hnil hblk hm1 => ?_
  have hb1 := hb.mod hm1 (by simp)
  have hg1 : GErr g w1 Te ve := cell_mod hg hm1 (by simp)
  have hread := Top.read_call hm hrd hT hb1 hby (fun a ha => ⟨by have := (hblk a ha).1; have := hb.lt; omega, (hblk a ha).2⟩) hl hg1 hgb
  rw [hnil] at hread
  refine wpR_call (vs := [.pointer (some ⟨b0, 0, none⟩), .slice base src.length cap]) rfl (rf_call hm hr (R := fun e w' => Mod [b0] w1 w' ∧
      match T.dec D ver ⟨src, false, src.isEmpty⟩ with
      | none => e = .returned (.iface Te ve)
      | some ((v, gs), s) => e = .returned (errVal s.bad Te ve) ∧ ∃ css, RepL [b0] w' gs css ∧ css.flatten.length = T.sc.dcs.flatten.length ∧ Blk w' b0 (.int .i16 v :: css.flatten)) (fun e w' he => ?_) hread) ?_
  · obtain ⟨-, he⟩ := he
    split at he
    · exact ⟨_, he⟩
    · exact ⟨_, he.1⟩
  rintro e w2 ⟨hm2, he⟩
  have hfr : ∀ (x y z t : Value) j, j < 12 → (updo (updo (updo (updo (updo σ (some 12) (.pointer (some ⟨b0, 0, none⟩))) (some 13) v) (some 14) x) (some 15) y) (some 16) z) j = σ j := fun x y z t j hj => by
    simp only [updo, upd, show j ≠ 12 by omega, show j ≠ 13 by omega, show j ≠ 14 by omega, show j ≠ 15 by omega, show j ≠ 16 by omega, if_false]
  have hm12 : Mod [b0] w w2 := hm1.nil.trans hm2
  cases hd : T.dec D ver ⟨src, false, src.isEmpty⟩ with
  | none =>
    rw [hd] at he hbad
    simp only at he
    refine ⟨_, he, ?_⟩
    refine wpR_step (v := .bool true) rfl ?_
    simp only [wpR, thenC]
    rw [wpC_cond_t rfl]
    exact hbad _ w2 (hfr _ _ _ undef) hm12 trivial
  | some q =>
    obtain ⟨⟨vr, gs⟩, s⟩ := q
    rw [hd] at he hbad
    obtain ⟨he, css, hrep, hlen, hblk2⟩ := he
    refine ⟨_, he, ?_⟩
    cases hbd : s.bad with
    | true =>
      refine wpR_step (v := .bool true) rfl ?_
      simp only [wpR, thenC]
      rw [wpC_cond_t rfl]
      exact hbad _ w2 (hfr _ _ _ undef) hm12 hbd
    | false =>
      refine wpR_step (v := .bool false) rfl ?_
      simp only [wpR, thenC]
      rw [wpC_cond_f rfl]
      exact hgood _ w2 vr gs s css (hfr _ _ _ undef) hm12 hd hbd hrep hblk2

end
end Go.Msk

/-! The doors that read octets and tell what they say: the whole. -/
namespace Go.Msk
open Go.RowKit
set_option maxRecDepth 100000

section
variable {P : Program} {D : Dec}


/-- A tree and a bool are handed back. -/
theorem doorRet {σ : Sl} {w w0 : World} {t b4 : Nat} {cs : List Value} {tr : TR} {b : Bool} (h4 : σ 4 = .pointer (some ⟨b4, 0, none⟩)) (hb : Blk w b4 tzero) (ht : σ t = .agg cs.toArray) (hrep : RepT (fun b => w0.heap.size ≤ b ∧ b ≠ b4) w tr cs)
    (hm : Mod [b4] w0 w) (hw0 : w0.heap.size ≤ b4) : wpR P [⟨none, .st (.tmp 4) 5 (.tmp t), none⟩, ⟨some 5, .mv (.const (.bool b)), none⟩] σ w
      (thenC (wpC P .ret (postC [.cells 4 5, .tmp 5] (fun e w' => Mod [] w0 w' ∧ ∃ cs, RepT (fun b => w0.heap.size ≤ b) w' tr cs ∧ e = .returned (.tuple #[.agg cs.toArray, .bool b]))))
        (postC [.cells 4 5, .tmp 5] (fun e w' => Mod [] w0 w' ∧ ∃ cs, RepT (fun b => w0.heap.size ≤ b) w' tr cs ∧ e = .returned (.tuple #[.agg cs.toArray, .bool b]))) .normal) := by
  have h5 := hrep.five
  have hput : Mod [b4] w (putCells w ⟨b4, 0, none⟩ 0 cs) := Mod.put (by simp)
  have hp := hb.put (o := 0) (vs := cs) (by simp [h5, tzero])
  rw [splice_all (by rw [h5]; rfl)] at hp
  have ec : (Value.agg cs.toArray).cells = cs.toArray := rfl
  refine wpR_run ?_
  simp only [RK.run, ev, h4, ht, ec]
  refine ⟨by simp [h5], stOk_many hb (by simp [h5, tzero]) (by simpa using hrep.oneCell), ?_⟩
  refine wpR_step (v := .bool b) rfl ?_
  refine wpR_done ?_
  simp only [wpC, postC, rvals, List.mapM_cons, List.mapM_nil, RV.val, updo, upd, show (4 : Nat) ≠ 5 by omega, if_false, if_true, h4, cellsAt_of' hp.cells h5, Option.bind_eq_bind, Option.map_some, Option.bind_some, Option.pure_def, tup]
  exact ⟨Mod.drop (b := b4) (S := []) (hm.trans hput) hw0, cs, hrep.mod hput (fun b hb hx => by simp only [List.mem_singleton] at hb; exact hx.2 hb) (fun b _ hb => hb.1), rfl⟩

theorem tells_none {T : Top} {ver : Int} {src : List UInt8} (h : match T.dec D ver ⟨src, false, src.isEmpty⟩ with | none => True | some (_, s) => s.bad = true) : T.tells D ver src = none := by
  unfold Top.tells
  revert h
  cases T.dec D ver ⟨src, false, src.isEmpty⟩ with
  | none => intro _; rfl
  | some q => obtain ⟨⟨vr, gs⟩, s⟩ := q; intro h; simp only at h; simp only [h, if_true]

theorem tell_call {T : Top} {g : Nat} {u : Bool} (hm : P.follows .mixedOrders = true) {f newp setv rf rd tell : FuncId} {z : List Value} {tl : Tl} (h : liftF P f = some (tellCode newp setv rf tell)) (hn : liftF P newp = some (newCode z T.dfl))
    (hz : DfC P T.dfl z (.int .i16 0 :: T.sc.dcs.flatten)) (hs : liftF P setv = some setCode) (hr : liftF P rf = some (rfCode rd u)) (hrd : liftF P rd = some T.gen) (hT : T.Ok P D g u) (htl : TellAt P tell 1 tl.ty)
    {w : World} {ver : Int} {v : Value} {src : List UInt8} {ok : Nat → Prop} {Te : TypeId} {ve : Value} (hty : ∀ vr gs s, T.dec D ver ⟨src, false, src.isEmpty⟩ = some ((vr, gs), s) → tl.ty gs)
    (hsrc : SlC ok w v src.length (u8s src)) (hl : src.length ≤ 2147483647) (hver : IntKind.i16.wrap ver = ver) (hg : GErr g w Te ve) :
    Calls P f [.int .i64 ver, v].toArray w fun e w' => Mod [] w w' ∧ ∃ cs, RepT (fun b => w.heap.size ≤ b) w' ((T.tells D ver src).getD .zero) cs ∧ e = .returned (.tuple #[.agg cs.toArray, .bool (T.tells D ver src).isSome]) := by
  unfold tellCode at h
  refine call_of h hm (by simp) ?_
  have a0 : args0 [.int .i64 ver, v] 0 = .int .i64 ver := rfl
  have a1 : args0 [.int .i64 ver, v] 1 = v := rfl
  generalize args0 [.int .i64 ver, v] = σ0 at a0 a1 ⊢
  rw [wpC_seq, wpC_blk]
  refine wpR_run ?_
  intro T1
  have bR := Blk.new w tzero T1
  have m1 : Mod [] w (w.alloc (.cells tzero.toArray T1)) := Mod.alloc _ _ _
  have z1 : (w.alloc (.cells tzero.toArray T1)).heap.size = w.heap.size + 1 := by simp
  generalize w.alloc (.cells tzero.toArray T1) = w1 at bR m1 z1 ⊢
  refine wpR_step (v := .bool false) rfl ?_
  refine wpR_done ?_
  refine tell_first (T := T) (_v := v) hm hn hz hs hver (show updo (updo σ0 (some 4) _) (some 5) _ 0 = _ from a0) fun σ3 w3 a3 s6 bS m13 => ?_
  have m03 := m1.trans m13
  have hsrc3 := hsrc.mod (ok' := ok) m03 (by simp) fun _ _ h => h
  have hgl : g < w.heap.size := World.block_lt_of_cell? w ⟨g, 0, none⟩ hg
  have s4 : σ3 4 = .pointer (some ⟨w.heap.size, 0, none⟩) := a3 4 (by omega)
  have s1 : σ3 1 = v := (a3 1 (by omega)).trans a1
  have bR3 := bR.mod m13 (by simp)
  rw [wpC_seq]
  refine tell_read hm hr hrd hT bS hsrc3 hl (cell_mod hg m03 (by simp)) (by omega) s6 s1 (fun σ4 w4 a4 m34 hbad => ?_) fun σ4 w4 vr gs s css a4 m34 hd hok hrep hblk => ?_
  · rw [tells_none hbad]
    have m04 : Mod [] w w4 := Mod.drop (b := w1.heap.size) (S := []) (m03.nil.trans m34) (by omega)
    have h4 : σ4 4 = .pointer (some ⟨w.heap.size, 0, none⟩) := (a4 4 (by omega)).trans s4
    rw [wpC_seq, wpC_blk]
    refine wpR_step (v := .agg tzero.toArray) rfl ?_
    exact doorRet (tr := .zero) (show updo σ4 (some 17) _ 4 = _ from h4) (bR3.mod m34 (by simp; omega)) rfl RepT.zero m04.nil (Nat.le_refl _)
  · have htells : T.tells D ver src = some (GV.rcd gs).told := by
      unfold Top.tells; rw [hd]; simp only [hok, Bool.false_eq_true, if_false]
    rw [htells]
    have m04 : Mod [] w w4 := Mod.drop (b := w1.heap.size) (S := []) (m03.nil.trans m34) (by omega)
    have h4 : σ4 4 = .pointer (some ⟨w.heap.size, 0, none⟩) := (a4 4 (by omega)).trans s4
    have h6 : σ4 6 = .pointer (some ⟨w1.heap.size, 0, none⟩) := (a4 6 (by omega)).trans s6
    have bR4 := bR3.mod m34 (by simp; omega)
    have hc : Cells w4 ⟨w1.heap.size, 0 + 1, none⟩ css.flatten := by simpa using hblk.cells.sub 1
    rw [wpC_skip]; simp only [thenC]
    rw [wpC_seq, wpC_blk]
    refine wpR_step (v := .pointer (some ⟨w1.heap.size, 0, none⟩)) (congrArg some h6) ?_
    refine wpR_call (vs := [.pointer (some ⟨w1.heap.size, 0, none⟩)]) rfl (htl [w1.heap.size] w4 w1.heap.size 0 gs css (hty _ _ _ hd) hrep hblk.lt hc) ?_
    rintro e w5 ⟨cs, rfl, hrt, m45⟩
    refine ⟨_, rfl, ?_⟩
    exact doorRet (show updo (updo σ4 (some 18) _) (some 19) _ 4 = _ from h4) (bR4.mod m45 (by simp)) rfl
      (hrt.mod (Mod.refl [] _) (by simp) fun b _ hb => by have := m04.size; have := bR4.lt; omega) ((m04.trans m45).nil) (Nat.le_refl _)

end
end Go.Msk
