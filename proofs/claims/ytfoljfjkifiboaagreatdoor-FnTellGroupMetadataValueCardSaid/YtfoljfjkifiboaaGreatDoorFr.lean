/- A small language of resolved operations, and what the generic and the generated functions do in it (part 18). -/
import Derived.Test.YtfoljfjkifiboaaGreatDoorFq
import Derived.Shelf.GgSortFunc.Whole
import Derived.Shelf.GgSortFunc.Tiny

namespace Go.Msk
open Go.RowKit
set_option maxRecDepth 100000
mutual
/-- Does a tree say what is so by default? -/
def FD.usB : FD → TR → Bool
  | .mk kind _ _ null _ dfl _ sub, x =>
    (!decide (kind = 8) || (x.null == decide (null ≥ 0) && x.s.isEmpty)) && (!decide (kind = 7) || x.s == List.replicate 16 0) && (!(decide (kind = 9) || decide (kind = 11)) || (x.s.isEmpty && x.l.isEmpty)) &&
    (!decide (kind = 10) || ((!decide (null ≥ 0) || x.null) && (!decide (null < 0) || (x.u.isEmpty && usBL sub 0 x)))) && (decide (kind = 7) || decide (kind = 8) || decide (kind = 9) || decide (kind = 10) || decide (kind = 11) || decide (x.n = numberP kind dfl))
def usBL : List FD → Nat → TR → Bool
  | [], _, _ => true
  | f :: fs, i, x => f.usB (x.at i) && usBL fs (i + 1) x
end
mutual
theorem FD.us_of : ∀ (f : FD) (x : TR), f.usB x = true → f.usualT x
  | .mk kind frm to null tag dfl of sub, x, h => by
    simp only [FD.usB, Bool.and_eq_true, Bool.or_eq_true, Bool.not_eq_true', decide_eq_false_iff_not, decide_eq_true_eq, beq_iff_eq, List.isEmpty_iff] at h
    obtain ⟨⟨⟨⟨h8, h7⟩, h9⟩, h10⟩, hn⟩ := h
    refine ⟨fun k => h8.resolve_left (absurd k), fun k => h7.resolve_left (absurd k), fun k => ?_, fun k => ?_, fun a b c d e => ?_⟩
    · rcases h9 with h9 | h9
      · simp only [Bool.or_eq_false_iff, decide_eq_false_iff_not] at h9
        rcases k with k | k
        · exact absurd k h9.1
        · exact absurd k h9.2
      · exact h9
    · obtain ⟨q1, q2⟩ := h10.resolve_left (absurd k)
      refine ⟨fun k => q1.resolve_left (absurd k), fun k => ?_⟩
      obtain ⟨q3, q4⟩ := q2.resolve_left (absurd k)
      exact ⟨q3, usL_of sub 0 x q4⟩
    · rcases hn with ((((hn | hn) | hn) | hn) | hn) | hn
      · exact absurd hn a
      · exact absurd hn b
      · exact absurd hn c
      · exact absurd hn d
      · exact absurd hn e
      · exact hn
theorem usL_of : ∀ (l : List FD) (i : Nat) (x : TR), usBL l i x = true → usualL l i x
  | [], _, _, _ => trivial
  | f :: fs, i, x, h => by
    simp only [usBL, Bool.and_eq_true] at h
    exact ⟨FD.us_of f _ h.1, usL_of fs (i + 1) x h.2⟩
end
def Sc.toB (ver : Int) : Sc → List FD → Bool
  | .nil, _ => true
  | .tags _, _ => true
  | .prm _ _ _ _ d rest, fds => match fds with
    | f :: fs => (if f.hasV ver then decide (f.kind = 8) || !f.nulB ver else f.usB d.gv.told) && rest.toB ver fs
    | [] => false
  | .enm _ _ _ _ d rest, fds => match fds with
    | f :: fs => (if f.hasV ver then decide (f.kind = 8) || !f.nulB ver else f.usB d.gv.told) && rest.toB ver fs
    | [] => false
  | .vst _ _ _ _ _, _ => false
  | .uid _ _ rest, fds => match fds with
    | f :: fs => (if f.hasV ver then !f.nulB ver else f.usB (GV.arr (List.replicate 16 0)).told) && rest.toB ver fs
    | [] => false
  | .lsp _ _ _ _ _ _ _ rest, fds => match fds with
    | f :: fs => (f.hasV ver || f.usB (GV.lst true 0 []).told) && rest.toB ver fs
    | [] => false
  | .lss _ _ _ _ _ body rest, fds => match fds with
    | f :: fs => (if f.hasV ver then body.toB ver f.sub else f.usB (GV.lst true 0 []).told) && rest.toB ver fs
    | [] => false
  | .sub _ _ body rest, fds => match fds with
    | f :: fs => (if f.hasV ver then body.toB ver f.sub else f.usB (GV.rcd body.dgv).told) && rest.toB ver fs
    | [] => false
theorem valG_told {p : PK} {kind : Int} {nul null may : Bool} {t : TR} {part : TR → TR → Prop} (hk : kindOk kind nul p = true) (hn : null = true → nul = true) (hm : kind = 8 ∨ may = false) (ht : IntKind.i64.wrap t.n = t.n) : valT kind part null may t (valG p null t).told := by
  cases p with
  | bool =>
    simp only [kindOk, decide_eq_true_eq] at hk
    subst hk
    have hm : may = false := hm.resolve_left (by decide)
    subst hm
    refine ⟨by simp, fun _ => ⟨by simp, by simp, by simp, fun _ _ _ _ _ => ?_⟩⟩
    have h2 : t.n % 2 = 0 ∨ t.n % 2 = 1 := by omega
    show (if decide (t.n % 2 ≠ 0) = true then (1 : Int) else 0) = t.n % 2
    rcases h2 with h2 | h2 <;> simp [h2]
  | i8 =>
    simp only [kindOk, decide_eq_true_eq] at hk
    subst hk
    have hm : may = false := hm.resolve_left (by decide)
    subst hm
    exact ⟨by simp, fun _ => ⟨by simp, by simp, by simp, fun _ _ _ _ _ => by simp [valG, GV.told, TR.n, numberP, wrap64_i8]⟩⟩
  | i16 =>
    simp only [kindOk, decide_eq_true_eq] at hk
    subst hk
    have hm : may = false := hm.resolve_left (by decide)
    subst hm
    exact ⟨by simp, fun _ => ⟨by simp, by simp, by simp, fun _ _ _ _ _ => by simp [valG, GV.told, TR.n, numberP, wrap64_i16]⟩⟩
  | i32 =>
    simp only [kindOk, decide_eq_true_eq] at hk
    subst hk
    have hm : may = false := hm.resolve_left (by decide)
    subst hm
    exact ⟨by simp, fun _ => ⟨by simp, by simp, by simp, fun _ _ _ _ _ => by simp [valG, GV.told, TR.n, numberP, wrap64_i32]⟩⟩
  | i64 =>
    simp only [kindOk, decide_eq_true_eq] at hk
    subst hk
    have hm : may = false := hm.resolve_left (by decide)
    subst hm
    refine ⟨by simp, fun _ => ⟨by simp, by simp, by simp, fun _ _ _ _ _ => ?_⟩⟩
    show IntKind.i64.wrap (IntKind.i64.wrap t.n) = t.n
    rw [ht, ht]
  | u16 =>
    simp only [kindOk, decide_eq_true_eq] at hk
    subst hk
    have hm : may = false := hm.resolve_left (by decide)
    subst hm
    refine ⟨by simp, fun _ => ⟨by simp, by simp, by simp, fun _ _ _ _ _ => ?_⟩⟩
    show IntKind.i64.wrap (t.n % 65536) = t.n % 65536
    simp only [IntKind.wrap, IntKind.bits, IntKind.signed]; simp; omega
  | uuid =>
    simp only [kindOk, decide_eq_true_eq] at hk
    subst hk
    have hm : may = false := hm.resolve_left (by decide)
    subst hm
    exact ⟨by simp, fun _ => ⟨by simp, fun _ => rfl, by simp, by simp⟩⟩
  | str =>
    simp only [kindOk, Bool.and_eq_true, decide_eq_true_eq, Bool.not_eq_true'] at hk
    obtain ⟨rfl, hnul⟩ := hk
    have hnull : null = false := by cases null <;> simp_all
    subst hnull
    refine ⟨fun _ => rfl, fun _ => ⟨fun _ => ?_, by simp, by simp, by simp⟩⟩
    simp [valG, GV.told, Msk.str, TR.s]
  | nstr =>
    simp only [kindOk, decide_eq_true_eq] at hk
    subst hk
    cases null with
    | true => exact ⟨fun _ => rfl, fun h => by simp at h⟩
    | false => exact ⟨fun _ => rfl, fun _ => ⟨fun _ => rfl, by simp, by simp, by simp⟩⟩
  | byt =>
    simp only [kindOk, Bool.and_eq_true, decide_eq_true_eq, Bool.not_eq_true'] at hk
    obtain ⟨rfl, hnul⟩ := hk
    have hnull : null = false := by cases null <;> simp_all
    subst hnull
    exact ⟨fun _ => rfl, fun _ => ⟨fun _ => rfl, by simp, by simp, by simp⟩⟩
  | u32 => simp [kindOk] at hk
  | nbyt => simp [kindOk] at hk
theorem valG_nt (p : PK) (null : Bool) (t : TR) : ∀ m, valG p null t ≠ .tag m := by intro m; cases p <;> simp [valG]
theorem df_nt (d : Df) : ∀ m, d.gv ≠ .tag m := by intro m; cases d <;> simp [Df.gv]
theorem tagsF_cons {g : GV} {l : List GV} (h : ∀ m, g ≠ .tag m) : GV.tagsF (g :: l) = GV.tagsF l := by
  cases g with
  | tag m => exact absurd rfl (h m)
  | _ => rfl
theorem toldL_cons {ver : Int} {x : Bool} {f : FD} {fs : List FD} {i : Nat} {t : TR} {g : GV} {l : List GV} (hg : ∀ m, g ≠ .tag m) (h1 : f.hasV ver = true → f.toldT ver x (t.at i) g.told) (h2 : f.hasV ver = false → f.usualT g.told) (h3 : toldL ver x fs (i + 1) t (GV.toldF l)) :
    toldL ver x (f :: fs) i t (GV.toldF (g :: l)) := by
  rw [GV.toldF_cons hg]
  exact ⟨_, _, rfl, h1, h2, h3⟩
section
variable {ver : Int} {x : Bool}
theorem told_prm {f : FD} {p : PK} {t : TR} (hk : kindOk f.kind (f.nulB ver) p = true) (hb : (decide (f.kind = 8) || !f.nulB ver) = true) (ht : IntKind.i64.wrap t.n = t.n) : f.toldT ver x t (valG p (f.nullV ver t) t).told := by
  obtain ⟨kind, frm, to, null, tag, dfl, of, sub⟩ := f
  simp only [FD.toldT]
  refine ⟨valG_told hk (fun h => ?_) ?_ ht, fun h11 => ?_⟩
  · simp only [FD.nullV, Bool.and_eq_true] at h
    simp only [FD.nulB, Bool.and_eq_true]
    exact h.2
  · simp only [Bool.or_eq_true, decide_eq_true_eq, Bool.not_eq_true'] at hb
    rcases hb with hb | hb
    · exact .inl hb
    · exact .inr hb
  · simp only [FD.kind] at hk
    subst h11
    cases p <;> simp [kindOk] at hk
theorem told_lst {f : FD} {sz : Nat} {val : TR → GV} {t : TR} (h11 : f.kind = 11) (hn : f.nulB ver = false) (hof : f.of ≠ 11) (h : ∀ y ∈ t.l.take 32767, valT f.of (partT ver x f.sub) false false y (val y).told) : f.toldT ver x t (lstG sz val (t.l.take 32767)).told := by
  obtain ⟨kind, frm, to, null, tag, dfl, of, sub⟩ := f
  simp only [FD.kind, FD.of, FD.sub] at h11 hof h
  subst h11
  simp only [FD.toldT]
  have hnv : FD.nullV (.mk 11 frm to null tag dfl of sub) ver t = false := by
    simp only [FD.nulB, FD.null] at hn
    simp only [FD.nullV, FD.null, hn, Bool.and_false]
  have hm : mayV null ver = false := hn
  rw [hnv, hm]
  refine ⟨⟨by simp, fun _ => ⟨by simp, by simp, by simp, by simp⟩⟩, fun _ _ => ⟨hof, ?_, fun i y z hy hz => ?_⟩⟩
  · show (GV.toldL ((t.l.take 32767).map val)).length = _
    rw [GV.toldL_map]; simp
  · have hz : (GV.toldL ((t.l.take 32767).map val))[i]? = some z := hz
    rw [GV.toldL_map, List.map_map, List.getElem?_map, hy] at hz
    simp only [Option.map_some, Option.some.injEq, Function.comp] at hz
    subst hz
    exact h y (List.mem_of_getElem? hy)
theorem vals_told : ∀ (sc : Sc) (fds : List FD) (i : Nat) (t : TR), sc.rvB ver x fds = true → sc.toB ver fds = true → t.kok → t.nok → toldL ver x fds i t (GV.toldF (sc.vals ver x fds i t)) ∧ GV.tagsF (sc.vals ver x fds i t) = (if x then wholeU (unk t.u) else []) := by
  intro sc
  induction sc with
  | nil =>
    intro fds i t h hb hk hn
    cases fds <;> simp [Sc.rvB] at h
    subst h
    exact ⟨rfl, rfl⟩
  | tags f =>
    intro fds i t h hb hk hn
    cases fds <;> simp [Sc.rvB] at h
    refine ⟨rfl, ?_⟩
    have hku : ∀ p ∈ t.u, p.1 < 4294967296 := by cases t; exact hk.1
    obtain ⟨h1, -⟩ := unk_ok hku
    cases x with
    | false => rfl
    | true =>
      simp only [Sc.vals, if_true, GV.tagsF]
      refine sortT_ris ?_
      unfold wholeU; rw [List.pairwise_map]; exact h1.1
  | prm vc init rr p d rest ih =>
    intro fds i t h hb hk hn
    cases fds with
    | nil => simp [Sc.rvB] at h
    | cons f fs =>
      simp only [Sc.rvB, Bool.and_eq_true] at h
      simp only [Sc.toB, Bool.and_eq_true] at hb
      obtain ⟨k1, k2⟩ := ih fs (i + 1) t h.2 hb.2 hk hn
      have hnt : ∀ m, (if f.hasV ver = true then valG p (f.nullV ver (t.at i)) (t.at i) else d.gv) ≠ .tag m := fun m => by split <;> first | exact valG_nt _ _ _ m | exact df_nt d m
      refine ⟨toldL_cons hnt (fun hh => ?_) (fun hh => ?_) k1, by rw [Sc.vals, tagsF_cons hnt]; exact k2⟩
      · rw [if_pos hh]
        have q1 := h.1.2
        have q2 := hb.1
        rw [hh] at q1 q2
        exact told_prm (by simpa using q1) (by simpa using q2) (by have := hn.at i; cases hy : t.at i; rw [hy] at this; exact this.1)
      · have q2 := hb.1
        rw [hh] at q2
        rw [if_neg (by simp [hh])]
        exact FD.us_of f _ (by simpa using q2)
  | enm vc init rr p d rest ih =>
    intro fds i t h hb hk hn
    cases fds with
    | nil => simp [Sc.rvB] at h
    | cons f fs =>
      simp only [Sc.rvB, Bool.and_eq_true] at h
      simp only [Sc.toB, Bool.and_eq_true] at hb
      obtain ⟨k1, k2⟩ := ih fs (i + 1) t h.2 hb.2 hk hn
      have hnt : ∀ m, (if f.hasV ver = true then valG p (f.nullV ver (t.at i)) (t.at i) else d.gv) ≠ .tag m := fun m => by split <;> first | exact valG_nt _ _ _ m | exact df_nt d m
      refine ⟨toldL_cons hnt (fun hh => ?_) (fun hh => ?_) k1, by rw [Sc.vals, tagsF_cons hnt]; exact k2⟩
      · rw [if_pos hh]
        have q1 := h.1.2
        have q2 := hb.1
        rw [hh] at q1 q2
        exact told_prm (by simpa using q1) (by simpa using q2) (by have := hn.at i; cases hy : t.at i; rw [hy] at this; exact this.1)
      · have q2 := hb.1
        rw [hh] at q2
        rw [if_neg (by simp [hh])]
        exact FD.us_of f _ (by simpa using q2)
  | vst _ _ _ _ rest ih => intro fds i t h; simp [Sc.rvB] at h
  | uid vc ff rest ih =>
    intro fds i t h hb hk hn
    cases fds with
    | nil => simp [Sc.rvB] at h
    | cons f fs =>
      simp only [Sc.rvB, Bool.and_eq_true] at h
      simp only [Sc.toB, Bool.and_eq_true] at hb
      obtain ⟨k1, k2⟩ := ih fs (i + 1) t h.2 hb.2 hk hn
      have hnt : ∀ m, (if f.hasV ver = true then GV.arr (uuidP (t.at i).s) else .arr (List.replicate 16 0)) ≠ .tag m := fun m => by split <;> simp
      refine ⟨toldL_cons hnt (fun hh => ?_) (fun hh => ?_) k1, by rw [Sc.vals, tagsF_cons hnt]; exact k2⟩
      · rw [if_pos hh]
        have q1 := h.1.2
        have q2 := hb.1
        rw [hh] at q1 q2
        have e7 : f.kind = 7 := by simpa using q1
        exact told_prm (p := .uuid) (by simp [kindOk, e7]) (by simp at q2; simp [q2]) (by have := hn.at i; cases hy : t.at i; rw [hy] at this; exact this.1)
      · have q2 := hb.1
        rw [hh] at q2
        rw [if_neg (by simp [hh])]
        exact FD.us_of f _ (by simpa using q2)
  | lsp vc ln bytes d init rr p rest ih =>
    intro fds i t h hb hk hn
    cases fds with
    | nil => simp [Sc.rvB] at h
    | cons f fs =>
      simp only [Sc.rvB, Bool.and_eq_true] at h
      simp only [Sc.toB, Bool.and_eq_true] at hb
      obtain ⟨k1, k2⟩ := ih fs (i + 1) t h.2 hb.2 hk hn
      have hnt : ∀ m, (if f.hasV ver = true then lstG d.size (valG p false) ((t.at i).l.take 32767) else .lst true 0 []) ≠ .tag m := fun m => by split <;> simp [lstG]
      refine ⟨toldL_cons hnt (fun hh => ?_) (fun hh => ?_) k1, by rw [Sc.vals, tagsF_cons hnt]; exact k2⟩
      · rw [if_pos hh]
        have q1 := h.1.2
        rw [hh] at q1
        simp only [Bool.not_true, Bool.false_or, Bool.and_eq_true, decide_eq_true_eq, Bool.not_eq_true'] at q1
        obtain ⟨⟨e1, e2⟩, e3⟩ := q1
        refine told_lst e1.2 e3 (fun e => ?_) fun y hy => valG_told e2 (by simp) (.inr rfl) ?_
        · rw [e] at e2; cases p <;> simp [kindOk] at e2
        · have hat := hn.at i
          have : y.nok := by
            cases ht : t.at i with
            | mk n s b l u => rw [ht] at hat hy; exact TR.nokL_mem hat.2 y (List.mem_of_mem_take hy)
          cases y; exact this.1
      · have q2 := hb.1
        rw [hh] at q2
        rw [if_neg (by simp [hh])]
        exact FD.us_of f _ (by simpa using q2)
  | lss vc ln bytes z dfl body rest ihb ih =>
    intro fds i t h hb hk hn
    cases fds with
    | nil => simp [Sc.rvB] at h
    | cons f fs =>
      simp only [Sc.rvB, Bool.and_eq_true] at h
      simp only [Sc.toB, Bool.and_eq_true] at hb
      obtain ⟨k1, k2⟩ := ih fs (i + 1) t h.2 hb.2 hk hn
      have hnt : ∀ m, (if f.hasV ver = true then lstG body.size (fun y => .rcd (body.vals ver x f.sub 0 y)) ((t.at i).l.take 32767) else .lst true 0 []) ≠ .tag m := fun m => by split <;> simp [lstG]
      refine ⟨toldL_cons hnt (fun hh => ?_) (fun hh => ?_) k1, by rw [Sc.vals, tagsF_cons hnt]; exact k2⟩
      · rw [if_pos hh]
        have q1 := h.1.2
        have q2 := hb.1
        rw [hh] at q1 q2
        simp only [Bool.not_true, Bool.false_or, Bool.and_eq_true, decide_eq_true_eq, Bool.not_eq_true'] at q1
        simp only [if_true] at q2
        obtain ⟨⟨⟨⟨⟨e1, e2⟩, e3⟩, e4⟩, e5⟩, e6⟩ := q1
        refine told_lst e1.2 e3 (by rw [e2]; decide) fun y hy => ?_
        have hat := hn.at i
        have hyn : y.nok := by
          cases ht : t.at i with
          | mk n s b l u => rw [ht] at hat hy; exact TR.nokL_mem hat.2 y (List.mem_of_mem_take hy)
        obtain ⟨r1, r2⟩ := ihb f.sub 0 y e6 q2 (TR.kok_mem (hk.at i) (List.mem_of_mem_take hy)) hyn
        rw [e2]
        refine ⟨fun _ => rfl, fun _ => ⟨by simp, by simp, fun _ => ⟨r1, ?_⟩, by simp⟩⟩
        show GV.tagsF _ = _
        rw [r2, unknownP_plain e5]
      · have q2 := hb.1
        rw [hh] at q2
        rw [if_neg (by simp [hh])]
        exact FD.us_of f _ (by simpa using q2)
  | sub vc dfl body rest ihb ih =>
    intro fds i t h hb hk hn
    cases fds with
    | nil => simp [Sc.rvB] at h
    | cons f fs =>
      simp only [Sc.rvB, Bool.and_eq_true] at h
      simp only [Sc.toB, Bool.and_eq_true] at hb
      obtain ⟨k1, k2⟩ := ih fs (i + 1) t h.2 hb.2 hk hn
      have hnt : ∀ m, (if f.hasV ver = true then GV.rcd (body.vals ver x f.sub 0 (t.at i)) else .rcd body.dgv) ≠ .tag m := fun m => by split <;> simp
      refine ⟨toldL_cons hnt (fun hh => ?_) (fun hh => ?_) k1, by rw [Sc.vals, tagsF_cons hnt]; exact k2⟩
      · rw [if_pos hh]
        have q1 := h.1.2
        have q2 := hb.1
        rw [hh] at q1 q2
        simp only [Bool.not_true, Bool.false_or, Bool.and_eq_true, decide_eq_true_eq] at q1
        simp only [if_true] at q2
        obtain ⟨⟨⟨e1, e2⟩, e3⟩, e4⟩ := q1
        obtain ⟨r1, r2⟩ := ihb f.sub 0 (t.at i) e4 q2 (hk.at i) (hn.at i)
        obtain ⟨kind, frm, to, null, tag, dfl', of, sub⟩ := f
        simp only [FD.kind, FD.null, FD.sub] at e1 e2 e3 r1 r2
        subst e1
        simp only [FD.toldT]
        have hnv : FD.nullV (.mk 10 frm to null tag dfl' of sub) ver (t.at i) = false := by
          simp only [FD.nullV, FD.null]
          simp; omega
        have hmv : mayV null ver = false := by simp only [mayV]; simp; omega
        rw [hnv, hmv]
        refine ⟨⟨fun _ => rfl, fun _ => ⟨by simp, by simp, fun _ => ⟨r1, ?_⟩, by simp⟩⟩, by simp⟩
        show GV.tagsF (body.vals ver x sub 0 (t.at i)) = _
        rw [r2, unknownP_plain e3]
      · have q2 := hb.1
        rw [hh] at q2
        rw [if_neg (by simp [hh])]
        exact FD.us_of f _ (by simpa using q2)
end
end Go.Msk

namespace Go.Msk
open Go.RowKit
set_option maxRecDepth 100000
structure TellFs where
  mx : FuncId
  newp : FuncId
  maxv : FuncId
  setv : FuncId
  rf : FuncId
  rd : FuncId
  tell : FuncId
  door : FuncId
  sm : FuncId
structure TellOk (P : Program) (F : Nat → Nat) (has : Nat → Bool) (M : TellFs) (T : Top) (tl : Tl) (fx : List FX) (flex : Int) (z : List Value) (most : Nat) : Prop where
  mx : liftF P M.mx = some (impMaxCode M.newp M.maxv)
  maxv : liftF P M.maxv = some (maxCode most)
  newp : liftF P M.newp = some (newCode z T.dfl)
  setv : liftF P M.setv = some setCode
  rf : liftF P M.rf = some (rfCode M.rd false)
  rd : liftF P M.rd = some T.gen
  tell : liftF P M.tell = some (tl.code 1)
  door : liftF P M.door = some (tellCode M.newp M.setv M.rf M.tell)
  sm : liftF P M.sm = some (FX.genMsg fx flex)
  fxs : FX.OkL P fx
  cnt : Nat.blt fx.length 1000 = true
  dfl : ∃ l, liftF P T.dfl = some (dfGen l) ∧ dfOk l (T.sc.dcs.flatten.length + 1) ∧ z.length = T.sc.dcs.flatten.length + 1 ∧ dfRes l z = .int .i16 0 :: T.sc.dcs.flatten ∧ ∀ ver, dfRes l (.int .i16 ver :: T.sc.dcs.flatten) = .int .i16 ver :: T.sc.dcs.flatten
  dfs : DfsOk P T.sc.dfs
  okT : T.okB F has = true
  okL : tl.okB F has = true
  subs : SubsOk P tl.subs
  cbs : CbsOk P tl.cbs
  fits : fit T.sc tl = true
  small : T.sc.smallB = true
  len : T.sc.len ≤ 1000
  tlen : tl.len ≤ 1000
  rv : rvOk T ⟨FX.fds fx, flex⟩ most = true
  told : ((List.range (most + 1)).all fun v => T.sc.toB (v : Nat) (FX.fds fx)) = true
  most : most < 32768
section
variable {P : Program} {F : Nat → Nat} {has : Nat → Bool} {M : TellFs} {T : Top} {tl : Tl} {fx : List FX} {flex : Int} {z : List Value} {most : Nat}
theorem TellOk.plain (h : TellOk P F has M T tl fx flex z most) : FD.plainL (FX.fds fx) = true := by
  have := h.rv; simp only [rvOk, Bool.and_eq_true] at this; exact this.1
def tellR (T : Top) (fx : List FX) (flex : Int) (ver : Int) (t : TR) : TR := (GV.rcd (T.sc.vals ver (MD.isFlex ⟨FX.fds fx, flex⟩ ver) (FX.fds fx) 0 t)).told
end
end Go.Msk

namespace Go.Msk
open Go.RowKit
set_option maxRecDepth 100000
def newvCode (z : List Value) (dfl : FuncId) : IC × List RV × Nat :=
  (.seq (.blk [⟨some 0, .alloc z, none⟩]) (.seq (.blk [⟨some 1, .alloc z, none⟩]) (.seq (.blk [⟨some 2, .call dfl [.tmp 1], none⟩]) (.seq (.blk [⟨some 3, .ldn (.tmp 1) z.length, none⟩, ⟨none, .st (.tmp 0) z.length (.tmp 3), none⟩]) .ret))), [.cells 0 z.length], 4)
def keptCode (newv rf tell : FuncId) (z : List Value) : IC × List RV × Nat :=
  (.seq (.blk [⟨some 2, .alloc tzero, none⟩, ⟨some 3, .mv (.const (.bool false)), none⟩])
   (.seq (.blk [⟨some 6, .call newv [], none⟩, ⟨some 4, .alloc z, none⟩, ⟨none, .st (.tmp 4) z.length (.tmp 6), none⟩])
   (.seq (.seq (.blk [⟨some 7, .mv (.tmp 0), none⟩, ⟨some 8, .append (.const (.slice none 0 0)) (.tmp 7) 1 1, none⟩, ⟨some 9, .call rf [.tmp 4, .tmp 8], none⟩, ⟨some 10, .isnil .ic true (.tmp 9), none⟩])
     (.cond (.tmp 10) (.seq (.blk [⟨some 11, .build tzero [], none⟩, ⟨none, .st (.tmp 2) 5 (.tmp 11), none⟩, ⟨some 3, .mv (.const (.bool false)), none⟩]) .ret) .skip))
   (.seq (.blk [⟨some 12, .call tell [.tmp 4], none⟩, ⟨some 5, .alloc tzero, none⟩, ⟨none, .st (.tmp 5) 5 (.tmp 12), none⟩])
   (.seq (.blk [⟨some 13, .fad (.tmp 4) 0, none⟩, ⟨some 14, .ld (.tmp 13), none⟩, ⟨some 15, .conv .i64 (.tmp 14), none⟩, ⟨some 16, .fad (.tmp 5) 0, none⟩, ⟨none, .st (.tmp 16) 1 (.tmp 15), none⟩])
   (.seq (.blk [⟨some 17, .ldn (.tmp 5) 5, none⟩, ⟨none, .st (.tmp 2) 5 (.tmp 17), none⟩, ⟨some 3, .mv (.const (.bool true)), none⟩]) .ret))))), [.cells 2 5, .tmp 3], 18)
def TR.setN (n : Int) : TR → TR
  | .mk _ s b l u => .mk n s b l u
def Top.tellsK (T : Top) (D : Dec) (src : List UInt8) : Option TR :=
  match T.dec D 0 ⟨src, false, src.isEmpty⟩ with
  | none => none
  | some ((v, gs), s) => if s.bad then none else some ((GV.rcd gs).told.setN v)
section
variable {P : Program} {D : Dec}
attribute [local simp] gOk updo upd ev RK.val? isShift intBin Addr.add_mk Value.cells undef
theorem newv_call (hm : P.follows .mixedOrders = true) {f dfl : FuncId} {z d : List Value} (h : liftF P f = some (newvCode z dfl)) (hd : DfC P dfl z d) (hl : d.length = z.length) (h1 : ∀ v ∈ d, v.oneCell' = true) {w : World} :
    Calls P f #[] w fun e w' => e = .returned (.agg d.toArray) ∧ Mod [] w w' := by
  unfold newvCode at h
  refine call_of (args := []) h hm (by simp) ?_
  clear h
  generalize args0 [] = σ0
  rw [wpC_seq, wpC_blk]
  refine wpR_run ?_
  intro T0
  have b0 := Blk.new w z T0
  have m0 : Mod [] w (w.alloc (.cells z.toArray T0)) := Mod.alloc _ _ _
  generalize w.alloc (.cells z.toArray T0) = w0 at b0 m0 ⊢
  refine wpR_done ?_
  rw [wpC_seq, wpC_blk]
  refine wpR_run ?_
  intro T1
  have b1 := Blk.new w0 z T1
  have m1 : Mod [] w0 (w0.alloc (.cells z.toArray T1)) := Mod.alloc _ _ _
  have hlt : w.heap.size < w0.heap.size := b0.lt
  generalize w0.alloc (.cells z.toArray T1) = w1 at b1 m1 ⊢
  refine wpR_done ?_
  rw [wpC_seq, wpC_blk]
  have hc := hd w1 w0.heap.size [] [] (by simpa using b1)
  refine wpR_call (vs := [.pointer (some ⟨w0.heap.size, 0, none⟩)]) rfl hc ?_
  rintro e w2 ⟨rfl, b2, m2⟩
  have b2 : Blk w2 w0.heap.size d := by simpa using b2
  refine ⟨_, rfl, ?_⟩
  refine wpR_done ?_
  rw [wpC_seq, wpC_blk]
  refine wpR_step (v := .agg d.toArray) (by
    simp only [RK.val?, ev, updo, upd, show (1 : Nat) ≠ 2 by omega, if_false, if_true, cellsAt_of' b2.cells hl, Option.map_some]) ?_
  have b02 : Blk w2 w.heap.size z := (b0.mod m1 (by simp)).mod m2 (by simp; omega)
  refine wpR_run ?_
  have ec : (Value.agg d.toArray).cells = d.toArray := rfl
  simp only [RK.run, ev, updo, upd, show (0 : Nat) ≠ 1 by omega, show (0 : Nat) ≠ 2 by omega, show (0 : Nat) ≠ 3 by omega, if_false, if_true, ec]
  have hput : Mod [w.heap.size] w2 (putCells w2 ⟨w.heap.size, 0, none⟩ 0 d) := Mod.put (by simp)
  have hp := b02.put (o := 0) (vs := d) (by simp [hl])
  rw [splice_all hl] at hp
  refine ⟨by simp [hl], stOk_many b02 (by simp [hl]) (by simpa using h1), ?_⟩
  refine wpR_done ?_
  simp only [wpC, postC, rvals, List.mapM_cons, List.mapM_nil, RV.val, updo, upd, show (0 : Nat) ≠ 1 by omega, show (0 : Nat) ≠ 2 by omega, show (0 : Nat) ≠ 3 by omega, if_false, if_true, cellsAt_of' hp.cells hl, Option.bind_eq_bind, Option.map_some, Option.bind_some, Option.pure_def, tup_one]
  refine ⟨trivial, ?_⟩
  have m02 : Mod [] w w2 := Mod.drop (b := w0.heap.size) (S := []) (((m0.trans m1).nil).trans m2) (by omega)
  exact Mod.drop (b := w.heap.size) (S := []) (m02.nil.trans hput) (Nat.le_refl _)
theorem RepT.setN {ok : Nat → Prop} {w : World} {t : TR} {cs : List Value} (h : RepT ok w t cs) (n : Int) : RepT ok w (t.setN n) (.int .i64 n :: cs.drop 1) := by
  cases h with
  | mk h1 h2 h3 h4 h5 => exact .mk h1 h2 h3 h4 h5
theorem RepT.head {ok : Nat → Prop} {w : World} {t : TR} {cs : List Value} (h : RepT ok w t cs) : ∃ n c, cs = .int .i64 n :: c ∧ c.length = 4 := by
  cases h with
  | mk h1 h2 h3 h4 h5 => exact ⟨_, _, rfl, rfl⟩
end
end Go.Msk

namespace Go.Msk
open Go.RowKit
set_option maxRecDepth 100000
section
variable {P : Program} {D : Dec}
attribute [local simp] gOk updo upd ev RK.val? isShift intBin Addr.add_mk Value.cells undef
theorem tellsK_none {T : Top} {src : List UInt8} (h : match T.dec D 0 ⟨src, false, src.isEmpty⟩ with | none => True | some (_, s) => s.bad = true) : T.tellsK D src = none := by
  unfold Top.tellsK
  revert h
  cases T.dec D 0 ⟨src, false, src.isEmpty⟩ with
  | none => intro _; rfl
  | some q => obtain ⟨⟨vr, gs⟩, s⟩ := q; intro h; simp only at h; simp only [h, if_true]
theorem keptRet {σ : Sl} {w w0 : World} {t b4 : Nat} {cs : List Value} {tr : TR} {b : Bool} (h4 : σ 2 = .pointer (some ⟨b4, 0, none⟩)) (hb : Blk w b4 tzero) (ht : σ t = .agg cs.toArray) (hrep : RepT (fun b => w0.heap.size ≤ b ∧ b ≠ b4) w tr cs)
    (hm : Mod [b4] w0 w) (hw0 : w0.heap.size ≤ b4) : wpR P [⟨none, .st (.tmp 2) 5 (.tmp t), none⟩, ⟨some 3, .mv (.const (.bool b)), none⟩] σ w
      (thenC (wpC P .ret (postC [.cells 2 5, .tmp 3] (fun e w' => Mod [] w0 w' ∧ ∃ cs, RepT (fun b => w0.heap.size ≤ b) w' tr cs ∧ e = .returned (.tuple #[.agg cs.toArray, .bool b]))))
        (postC [.cells 2 5, .tmp 3] (fun e w' => Mod [] w0 w' ∧ ∃ cs, RepT (fun b => w0.heap.size ≤ b) w' tr cs ∧ e = .returned (.tuple #[.agg cs.toArray, .bool b]))) .normal) := by
  have h5 := hrep.five
  have hput : Mod [b4] w (putCells w ⟨b4, 0, none⟩ 0 cs) := Mod.put (by simp)
  have hp := hb.put (o := 0) (vs := cs) (by simp [h5, tzero])
  rw [splice_all (by rw [h5]; rfl)] at hp
  have ec : (Value.agg cs.toArray).cells = cs.toArray := rfl
  refine wpR_run ?_
  simp only [RK.run, ev, h4, ht, ec]
  refine ⟨by simp [h5], stOk_many hb (by simp [h5, tzero]) (by simpa using hrep.oneCell), ?_⟩
  refine wpR_step (v := .bool b) rfl ?_
  refine wpR_done ?_
  simp only [wpC, postC, rvals, List.mapM_cons, List.mapM_nil, RV.val, updo, upd, show (2 : Nat) ≠ 3 by omega, if_false, if_true, h4, cellsAt_of' hp.cells h5, Option.bind_eq_bind, Option.map_some, Option.bind_some, Option.pure_def, tup]
  exact ⟨Mod.drop (b := b4) (S := []) (hm.trans hput) hw0, cs, hrep.mod hput (fun b hb hx => by simp only [List.mem_singleton] at hb; exact hx.2 hb) (fun b _ hb => hb.1), rfl⟩
theorem kept_call {T : Top} {g : Nat} {u : Bool} (hm : P.follows .mixedOrders = true) {f newv rf rd tell : FuncId} {z : List Value} {tl : Tl} (h : liftF P f = some (keptCode newv rf tell z)) (hn : liftF P newv = some (newvCode z T.dfl))
    (hz : DfC P T.dfl z (.int .i16 0 :: T.sc.dcs.flatten)) (hzl : T.sc.dcs.flatten.length + 1 = z.length) (hr : liftF P rf = some (rfCode rd u)) (hrd : liftF P rd = some T.gen) (hT : T.Ok P D g u) (htl : TellAt P tell 1 tl.ty)
    {w : World} {v : Value} {src : List UInt8} {ok : Nat → Prop} {Te : TypeId} {ve : Value} (hty : ∀ vr gs s, T.dec D 0 ⟨src, false, src.isEmpty⟩ = some ((vr, gs), s) → tl.ty gs)
    (hsrc : SlC ok w v src.length (u8s src)) (hl : src.length ≤ 70368744177664) (hg : GErr g w Te ve) (hi16 : ∀ vr gs s, T.dec D 0 ⟨src, false, src.isEmpty⟩ = some ((vr, gs), s) → IntKind.i64.wrap vr = vr) :
    Calls P f [v].toArray w fun e w' => Mod [] w w' ∧ ∃ cs, RepT (fun b => w.heap.size ≤ b) w' ((T.tellsK D src).getD .zero) cs ∧ e = .returned (.tuple #[.agg cs.toArray, .bool (T.tellsK D src).isSome]) := by
  unfold keptCode at h
  refine call_of h hm (by simp) ?_
  clear h
  have a0 : args0 [v] 0 = v := rfl
  generalize args0 [v] = σ0 at a0 ⊢
  have hone : ∀ y ∈ (Value.int .i16 0 :: T.sc.dcs.flatten), y.oneCell' = true := by
    have h := (Rep.rcd (Sc.drep [] w T.sc)).oneCell
    intro y hy
    rcases List.mem_cons.1 hy with rfl | hy
    · rfl
    · exact h y hy
  have hgl : g < w.heap.size := World.block_lt_of_cell? w ⟨g, 0, none⟩ hg
  rw [wpC_seq, wpC_blk]
  refine wpR_run ?_
  intro T1
  have bR := Blk.new w tzero T1
  have m1 : Mod [] w (w.alloc (.cells tzero.toArray T1)) := Mod.alloc _ _ _
  have z1 : (w.alloc (.cells tzero.toArray T1)).heap.size = w.heap.size + 1 := by simp
  generalize w.alloc (.cells tzero.toArray T1) = w1 at bR m1 z1 ⊢
  refine wpR_step (v := .bool false) rfl ?_
  refine wpR_done ?_
  -- the message
  rw [wpC_seq, wpC_blk]
  refine wpR_call (vs := []) rfl (newv_call hm hn hz (by simpa using hzl) hone) ?_
  rintro e w2 ⟨rfl, m12⟩
  refine ⟨_, rfl, ?_⟩
  refine wpR_run ?_
  intro T2
  obtain ⟨k1, k2, k3⟩ := new_put w2 z (.int .i16 0 :: T.sc.dcs.flatten) T2 (by simpa using hzl) hone
  generalize hw3 : w2.alloc (.cells z.toArray T2) = w3 at k1 k2 k3 ⊢
  refine wpR_run ?_
  have ec : (Value.agg (Value.int .i16 0 :: T.sc.dcs.flatten).toArray).cells = (Value.int .i16 0 :: T.sc.dcs.flatten).toArray := rfl
  simp only [RK.run, ev, updo, upd, if_true, show (6 : Nat) ≠ 4 by omega, if_false, ec]
  refine ⟨by simpa using hzl, k1, ?_⟩
  generalize putCells w3 ⟨w2.heap.size, 0, none⟩ 0 (Value.int .i16 0 :: T.sc.dcs.flatten) = w4 at k2 k3 ⊢
  refine wpR_done ?_
  have m14 : Mod [] w1 w4 := m12.trans k3
  have hs12 := m12.size
  have bR4 := bR.mod m14 (by simp)
  have m04 : Mod [] w w4 := m1.trans m14
  -- the octets
  rw [wpC_seq]
  rw [wpC_seq, wpC_blk]
  refine wpR_step (v := v) (by simp only [RK.val?, ev, upd, show (0 : Nat) ≠ 4 by omega, show (0 : Nat) ≠ 6 by omega, show (0 : Nat) ≠ 3 by omega, show (0 : Nat) ≠ 2 by omega, if_false, a0]) ?_
  refine wpR_run ?_
  refine appendNil_big (v := v) (by simp only [ev, updo, upd_same]) (hsrc.mod (ok' := ok) m04 (by simp) fun _ _ h => h) hl fun base cap w5 hby hnil hblk m45 => ?_
  have hb5 := k2.mod m45 (by simp)
  have hg5 : GErr g w5 Te ve := cell_mod (cell_mod hg m04 (by simp)) m45 (by simp)
  have hlt4 := k2.lt
  have hread := Top.read_call hm hrd hT hb5 hby (fun a ha => ⟨by have := (hblk a ha).1; omega, (hblk a ha).2⟩) (by omega) hg5 (by omega)
  rw [hnil] at hread
  refine wpR_call (vs := [.pointer (some ⟨w2.heap.size, 0, none⟩), .slice base src.length cap]) (by simp) (rf_call hm hr (R := fun e w' => Mod [w2.heap.size] w5 w' ∧
      match T.dec D 0 ⟨src, false, src.isEmpty⟩ with
      | none => e = .returned (.iface Te ve)
      | some ((v, gs), s) => e = .returned (errVal s.bad Te ve) ∧ ∃ css, RepL [w2.heap.size] w' gs css ∧ css.flatten.length = T.sc.dcs.flatten.length ∧ Blk w' w2.heap.size (.int .i16 v :: css.flatten)) (fun e w' he => ?_) hread) ?_
  · obtain ⟨-, he⟩ := he
    split at he
    · exact ⟨_, he⟩
    · exact ⟨_, he.1⟩
  rintro e w6 ⟨hm6, he⟩
  have m06 : Mod [] w w6 := Mod.drop (b := w2.heap.size) (S := []) ((m04.trans m45).nil.trans hm6) (by omega)
  have bR6 : Blk w6 w.heap.size tzero := (bR4.mod m45 (by simp)).mod hm6 (by simp; omega)
  have hs46 : w4.heap.size ≤ w6.heap.size := by have := m45.size; have := hm6.size; omega
  -- in vain
  have hbad : ∀ σ : Sl, σ 2 = .pointer (some ⟨w.heap.size, 0, none⟩) → (match T.dec D 0 ⟨src, false, src.isEmpty⟩ with | none => True | some (_, s) => s.bad = true) → ∀ N : Sl → World → Prop,
      wpC P (.seq (.blk [⟨some 11, .build tzero [], none⟩, ⟨none, .st (.tmp 2) 5 (.tmp 11), none⟩, ⟨some 3, .mv (.const (.bool false)), none⟩]) .ret)
        (thenC N (postC [.cells 2 5, .tmp 3] fun e w' => Mod [] w w' ∧ ∃ cs, RepT (fun b => w.heap.size ≤ b) w' ((T.tellsK D src).getD .zero) cs ∧ e = .returned (.tuple #[.agg cs.toArray, .bool (T.tellsK D src).isSome]))) σ w6 := by
    intro σ h2 hb N
    rw [tellsK_none hb]
    rw [wpC_seq, wpC_blk]
    refine wpR_step (v := .agg tzero.toArray) rfl ?_
    exact keptRet (tr := .zero) (by simp [h2]) bR6 (by simp) RepT.zero m06.nil (Nat.le_refl _)
  cases hd : T.dec D 0 ⟨src, false, src.isEmpty⟩ with
  | none =>
    rw [hd] at he hbad
    simp only at he
    refine ⟨_, he, ?_⟩
    refine wpR_step (v := .bool true) rfl ?_
    refine wpR_done ?_
    rw [wpC_cond_t rfl]
    exact hbad _ (by simp) trivial _
  | some q =>
    obtain ⟨⟨vr, gs⟩, s⟩ := q
    rw [hd] at he
    obtain ⟨he, css, hrep, hlen, hblk2⟩ := he
    refine ⟨_, he, ?_⟩
    cases hbd : s.bad with
    | true =>
      refine wpR_step (v := .bool true) rfl ?_
      refine wpR_done ?_
      rw [wpC_cond_t rfl]
      refine hbad _ (by simp) ?_ _
      rw [hd]; exact hbd
    | false =>
      clear hbad
      have htells : T.tellsK D src = some ((GV.rcd gs).told.setN vr) := by
        unfold Top.tellsK; rw [hd]; simp only [hbd, Bool.false_eq_true, if_false]
      rw [htells]
      refine wpR_step (v := .bool false) rfl ?_
      refine wpR_done ?_
      rw [wpC_cond_f rfl, wpC_skip]
      simp only [thenC]
      have hc : Cells w6 ⟨w2.heap.size, 0 + 1, none⟩ css.flatten := by simpa using hblk2.cells.sub 1
      generalize hσ : updo _ (some 10) _ = σ1
      have s4 : σ1 4 = .pointer (some ⟨w2.heap.size, 0, none⟩) := by rw [← hσ]; simp
      have s2 : σ1 2 = .pointer (some ⟨w.heap.size, 0, none⟩) := by rw [← hσ]; simp
      clear hσ
      rw [wpC_seq, wpC_blk]
      refine wpR_call (vs := [.pointer (some ⟨w2.heap.size, 0, none⟩)]) (by simp [s4]) (htl [w2.heap.size] w6 w2.heap.size 0 gs css (hty _ _ _ hd) hrep hblk2.lt hc) ?_
      rintro e w7 ⟨cs, rfl, hrt, m67⟩
      refine ⟨_, rfl, ?_⟩
      refine wpR_run ?_
      intro T3
      obtain ⟨q1, q2, q3⟩ := new_put w7 tzero cs T3 (by rw [hrt.five]; rfl) hrt.oneCell
      generalize hw8 : w7.alloc (.cells tzero.toArray T3) = w8 at q1 q2 q3 ⊢
      refine wpR_run ?_
      have ec : (Value.agg cs.toArray).cells = cs.toArray := rfl
      simp only [RK.run, ev, updo, upd, if_true, show (12 : Nat) ≠ 5 by omega, if_false, ec]
      refine ⟨by simp [hrt.five], q1, ?_⟩
      generalize putCells w8 ⟨w7.heap.size, 0, none⟩ 0 cs = w9 at q2 q3 ⊢
      refine wpR_done ?_
      have m69 : Mod [] w6 w9 := m67.trans q3
      have hblk9 := hblk2.mod m69 (by simp)
      have bR9 := bR6.mod m69 (by simp)
      have hs67 := m67.size
      obtain ⟨n0, c4, rfl, hc4⟩ := hrt.head
      rw [wpC_seq, wpC_blk]
      refine wpR_step (v := .pointer (some ⟨w2.heap.size, 0, none⟩)) (by simp [s4]) ?_
      refine wpR_step (v := .int .i16 vr) (by simp [hblk9.cell 0]) ?_
      refine wpR_step (v := .int .i64 vr) (by simp [hi16 _ _ _ hd]) ?_
      refine wpR_step (v := .pointer (some ⟨w7.heap.size, 0, none⟩)) (by simp) ?_
      refine wpR_run ?_
      have e1 : (Value.int .i64 vr).cells = #[.int .i64 vr] := rfl
      simp only [RK.run, ev, updo, upd, if_true, show (15 : Nat) ≠ 16 by omega, if_false, e1]
      have hput : Mod [w7.heap.size] w9 (putCells w9 ⟨w7.heap.size, 0, none⟩ 0 [.int .i64 vr]) := Mod.put (by simp)
      have hp := q2.put (o := 0) (vs := [.int .i64 vr]) (by simp)
      have e2 : splice (Value.int .i64 n0 :: c4) 0 [.int .i64 vr] = .int .i64 vr :: c4 := by simp [splice]
      rw [e2] at hp
      refine ⟨rfl, stOk_many q2 (by simp) (by simp [Value.oneCell']), ?_⟩
      generalize putCells w9 ⟨w7.heap.size, 0, none⟩ 0 [.int .i64 vr] = w10 at hp hput ⊢
      refine wpR_done ?_
      have m710 : Mod [] w7 w10 := Mod.drop (b := w7.heap.size) (S := []) (q3.nil.trans hput) (Nat.le_refl _)
      rw [wpC_seq, wpC_blk]
      refine wpR_step (v := .agg (Value.int .i64 vr :: c4).toArray) (by
        simp only [RK.val?, ev, updo, upd, show (5 : Nat) ≠ 16 by omega, show (5 : Nat) ≠ 15 by omega, show (5 : Nat) ≠ 14 by omega, show (5 : Nat) ≠ 13 by omega, show (5 : Nat) ≠ 12 by omega, if_false, if_true, cellsAt_of' hp.cells (show _ = 5 by simp [hc4]), Option.map_some]) ?_
      have hrt10 : RepT (fun b => w6.heap.size ≤ b) w10 ((GV.rcd gs).told.setN vr) (.int .i64 vr :: c4) := (hrt.mod m710 (by simp) fun _ _ h => h).setN vr
      refine keptRet (by simp [s2]) (bR6.mod (m67.trans m710) (by simp)) (by simp) (hrt10.mod (Mod.refl [] _) (by simp) fun b _ hb => ?_) ((m06.trans (m67.trans m710)).nil) (Nat.le_refl _)
      have := bR6.lt; omega
end
end Go.Msk

namespace Go.Msk
open Go.RowKit
set_option maxRecDepth 100000
def ziP : PK → List Value
  | .bool => [.bool false]
  | .i8 => [.int .i8 0]
  | .i16 => [.int .i16 0]
  | .u16 => [.int .u16 0]
  | .i32 => [.int .i32 0]
  | .i64 => [.int .i64 0]
  | .str => [.string .empty]
  | .uuid => u8s (List.replicate 16 0)
  | _ => [.int .i64 0]
inductive Fl where
  | nil
  | prm (p : PK) (rest : Fl)
  | lsp (p : PK) (bytes : Nat) (rest : Fl)
  | lss (f : FuncId) (bytes : Nat) (body rest : Fl)
  | tags (set : FuncId)
  deriving Inhabited
def Fl.zs : Fl → List (List Value)
  | .nil => []
  | .prm p rest => ziP p :: rest.zs
  | .lsp _ _ rest => [.slice none 0 0] :: rest.zs
  | .lss _ _ _ rest => [.slice none 0 0] :: rest.zs
  | .tags _ => [[.map none]]
def Fl.loops : Fl → Nat
  | .nil => 0
  | .prm _ rest => rest.loops
  | .lsp _ _ rest => 1 + rest.loops
  | .lss _ _ _ rest => 1 + rest.loops
  | .tags _ => 1
end Go.Msk

namespace Go.Msk
open Go.RowKit
set_option maxRecDepth 100000
def keptP (m : MD) (ver : Int) (t : TR) : List UInt8 := beI 2 ver ++ writeP m ver t
theorem keptP_length (m : MD) (ver : Int) (t : TR) : (keptP m ver t).length = 2 + (writeP m ver t).length := by
  simp [keptP, beI_length]
section
variable {P : Program} {F : Nat → Nat}
attribute [local simp] gOk updo upd ev RK.val? isShift intBin Addr.add_mk args0 Value.cells undef
theorem skept_call (hm : P.follows .mixedOrders = true) (h : liftF P (F sKept) = some (ir_sKept F)) (hf : liftF P (F sFixed) = some (ir_sFixed F)) {m : MD} {ver : Int} (hw : WriteC P F m ver) {w : World} {ms : List Value} {t : TR} {ts : List Value}
    (hms : RepM anyB w m ms) (ht : RepT anyB w t ts) (hk : t.kok) (hlen : (writeP m ver t).length + 1000 ≤ lim) :
    Calls P (F sKept) [.agg ms.toArray, .int .i64 ver, .agg ts.toArray].toArray w (BytesR w (keptP m ver t)) := by
  have h5 := ht.five
  unfold ir_sKept at h
  refine call_of h hm (by simp) ?_
  clear h
  have hm2 : ms.length = 2 := by cases hms; rfl
  rw [wpC_seq, wpC_blk]
  refine goBox (v := .agg ms.toArray) (by simp) fun w1 hb1 hm1 => ?_
  refine goBox (v := .agg ts.toArray) (by simp) fun w2 hb2 hm2' => ?_
  have hb1 : Blk w2 w.heap.size ms := Blk.mod (by simpa using hb1) hm2' (by simp)
  have hb2 : Blk w2 w1.heap.size ts := by simpa using hb2
  have hm02 := hm1.trans hm2'
  refine go1 (v := .slice none 0 0) rfl (by simp) (goEnd ?_)
  simp only [thenC]
  rw [wpC_seq]
  show wpD P _ _ _ w2.drew _
  have hmd : Mod [] w2 w2.drew := Mod.drew _ _
  have hm0d := hm02.trans hmd
  have hb1d := hb1.mod hmd (by simp)
  have hb2d := hb2.mod hmd (by simp)
  have hl1 := cellsAt_of' hb1d.cells hm2
  have hl2 := cellsAt_of' hb2d.cells h5
  refine wpD_of_B (fun i v w' => match i with | 1 => DRaw w' w.heap.size v (beI 2 ver) | 5 => DRaw w' w.heap.size v (writeP m ver t) | _ => True) (by
    intro i v w w' h hm
    split at h
    · exact h.keep hm
    · exact h.keep hm
    · trivial) ?_
  refine bo1 (v := .int .i64 ver) rfl (by simp) ?_
  refine boCall (vs := [.int .i64 ver, .int .i64 (2 : Nat)]) (by simp) (by simp) (fun w' hm' _ => (fixed_call hm hf (n := ver) (k := 2) (by omega)).mono ?_) ?_
  · rintro e w'' ⟨v, rfl, hd, hmm⟩
    exact ⟨_, rfl, hmm, hd.low (hm0d.trans hm').size⟩
  rintro v1 ⟨wv1, -⟩
  refine bo1 (v := .agg ms.toArray) rfl (by simp [hl1]) ?_
  refine bo1 (v := .int .i64 ver) rfl (by simp) ?_
  refine bo1 (v := .agg ts.toArray) rfl (by simp [hl2]) ?_
  refine boCall (vs := [.agg ms.toArray, .int .i64 ver, .agg ts.toArray]) (by simp) (by simp) (fun w' hm' _ => (hw w' ms t ts (hms.keep (hm0d.trans hm')) (ht.keep (hm0d.trans hm')) hk (by omega)).mono ?_) ?_
  · rintro e w'' ⟨v, rfl, hd, hmm⟩
    exact ⟨_, rfl, hmm, hd.low (hm0d.trans hm').size⟩
  rintro v2 ⟨wv2, -⟩
  intro w' hm' hkn
  have k1 : DRaw w' w.heap.size v1 (beI 2 ver) := by
    have := known_get (j := 1) (t := 8) hkn (by simp) rfl rfl (by simp) rfl
    simpa using this
  have k2 : DRaw w' w.heap.size v2 (writeP m ver t) := by
    have := known_get (j := 5) (t := 12) hkn (by simp) rfl rfl (by simp) rfl
    simpa using this
  refine goC rfl (append_run (n0 := w.heap.size) (v := v1) (l := beI 2 ver) (k := writeP m ver t) (by simp) k1 (hm0d.trans hm').size (by simpa using k2.src) (by rw [beI_length]; omega) fun v3 w3 ha => ?_)
  refine go1 (v := v3) rfl (by simp) (goEnd ?_)
  simp only [thenC]
  exact ret1 (v := v3) (by simp) ⟨v3, rfl, ha.raw, ha.mod0 k1 (hm0d.trans hm')⟩
end
end Go.Msk

namespace Go.Msk
open Go.RowKit
set_option maxRecDepth 100000
def keptLaw (zz sm kept door flx got tol : FuncId) (most : Int) : IC × List RV × Nat :=
  (.seq (.blk [⟨some 3, .box (.tmp 1), none⟩, ⟨some 4, .mv (.const (.bool false)), none⟩])
  (.seq (.seq (.blk [⟨some 9, .ldn (.tmp 3) 5, none⟩, ⟨some 10, .call zz [.tmp 9], none⟩, ⟨some 11, .lnot (.tmp 10), none⟩])
    (.cond (.tmp 11) (.seq (.blk [⟨some 4, .mv (.const (.bool true)), none⟩]) .ret) .skip))
  (.seq (.blk [⟨some 12, .call sm [], none⟩, ⟨some 13, .mv (.tmp 0), none⟩, ⟨some 14, .conv .i64 (.tmp 13), none⟩, ⟨some 15, .bin .rem (.tmp 14) (.const (.int .i64 (most + 1))), none⟩, ⟨some 5, .alloc [.slice none 0 0, .int .i64 0], none⟩, ⟨none, .st (.tmp 5) 2 (.tmp 12), none⟩, ⟨some 6, .mv (.tmp 15), none⟩])
  (.seq (.blk [⟨some 17, .ldn (.tmp 5) 2, none⟩, ⟨some 18, .mv (.tmp 6), none⟩, ⟨some 19, .ldn (.tmp 3) 5, none⟩, ⟨some 20, .call kept [.tmp 17, .tmp 18, .tmp 19], none⟩, ⟨some 21, .call door [.tmp 20], none⟩,
      ⟨some 16, .mv (.tmp 21), none⟩, ⟨some 22, .ext (.tmp 16) 0, none⟩, ⟨some 23, .ext (.tmp 16) 1, none⟩, ⟨some 7, .alloc tzero, none⟩, ⟨none, .st (.tmp 7) 5 (.tmp 22), none⟩, ⟨some 8, .mv (.tmp 23), none⟩])
  (.seq (.drw [⟨⟨some 24, .mv (.tmp 8), none⟩, false, []⟩, ⟨⟨some 25, .mv (.tmp 24), none⟩, false, []⟩, ⟨⟨some 26, .fad (.tmp 7) 0, some (25, true)⟩, false, []⟩, ⟨⟨some 27, .ld (.tmp 26), some (25, true)⟩, false, []⟩, ⟨⟨some 28, .mv (.tmp 6), some (25, true)⟩, false, []⟩,
      ⟨⟨some 29, .bin .eql (.tmp 27) (.tmp 28), some (25, true)⟩, false, []⟩, ⟨⟨some 30, .pick (.tmp 25) (.tmp 29) (.const (.bool false)), none⟩, false, []⟩, ⟨⟨some 31, .mv (.tmp 30), none⟩, false, []⟩,
      ⟨⟨some 32, .fad (.tmp 5) 0, some (31, true)⟩, false, []⟩, ⟨⟨some 33, .ld (.tmp 32), some (31, true)⟩, false, []⟩, ⟨⟨some 34, .mv (.tmp 6), some (31, true)⟩, false, []⟩,
      ⟨⟨some 35, .ldn (.tmp 5) 2, some (31, true)⟩, false, []⟩, ⟨⟨some 36, .mv (.tmp 6), some (31, true)⟩, false, []⟩, ⟨⟨some 37, .call flx [.tmp 35, .tmp 36], some (31, true)⟩, true, []⟩, ⟨⟨some 38, .ldn (.tmp 3) 5, some (31, true)⟩, false, []⟩, ⟨⟨some 39, .ldn (.tmp 7) 5, some (31, true)⟩, false, []⟩,
      ⟨⟨some 40, .call got [.tmp 39], some (31, true)⟩, true, [13]⟩, ⟨⟨some 41, .call tol [.tmp 33, .tmp 34, .tmp 37, .tmp 38, .tmp 40], some (31, true)⟩, true, [13, 16]⟩, ⟨⟨some 42, .pick (.tmp 31) (.tmp 41) (.const (.bool false)), none⟩, false, [13, 16, 17]⟩, ⟨⟨some 4, .mv (.tmp 42), none⟩, false, [13, 16, 17]⟩] [])
  .ret)))), [.tmp 4], 43)
def KDoorOf (P : Program) (door : FuncId) (m : MD) (most : Int) (g : Nat) (Te : TypeId) (ve : Value) (R : Int → TR → TR) : Prop :=
  ∀ (w : World) (ver : Int) (t : TR) (sv : Value), t.kok → (writeP m ver t).length + 1000 ≤ lim → 0 ≤ ver → ver ≤ most → SlC anyB w sv (keptP m ver t).length (u8s (keptP m ver t)) → GErr g w Te ve →
    Calls P door [sv].toArray w (DoorR w ((R ver t).setN ver))
section
variable {P : Program} {F : Nat → Nat}
attribute [local simp] gOk updo upd ev RK.val? isShift intBin Addr.add_mk args0 Value.cells undef
theorem kept_law (hm : P.follows .mixedOrders = true) {f zz sm kept door flx got tol g : FuncId} {most : Int} (h : liftF P f = some (keptLaw zz sm kept door flx got tol most)) {m : MD} (hmost : 0 ≤ most ∧ most < 32768)
    (hzz : ∀ (w : World) (t : TR) (ts : List Value), RepT anyB w t ts → Calls P zz [.agg ts.toArray].toArray w (BoolR w))
    (hsm : ∀ w, Calls P sm #[] w fun e w' => ∃ cs, e = .returned (.agg cs.toArray) ∧ RepM anyB w' m cs ∧ Mod [] w w')
    (hwr : ∀ (v : Int) (w : World) (ms : List Value) (t : TR) (ts : List Value), RepM anyB w m ms → RepT anyB w t ts → t.kok → (writeP m v t).length + 1000 ≤ lim → Calls P kept [.agg ms.toArray, .int .i64 v, .agg ts.toArray].toArray w (BytesR w (keptP m v t)))
    {Te : TypeId} {ve : Value} {R : Int → TR → TR} (hdoor : KDoorOf P door m most g Te ve R)
    {w : World} {n : Int} (hn : 0 ≤ n ∧ n < 256) {t : TR} {ts : List Value} (hgot : ∀ v, 0 ≤ v → v ≤ most → GotAt P got ((R v t).setN v))
    (hflx : ∀ (v : Int) (w : World) (ms : List Value), RepM anyB w m ms → Calls P flx [.agg ms.toArray, .int .i64 v].toArray w fun e w' => e = .returned (.bool (m.isFlex v)) ∧ Mod [] w w')
    (htol : ∀ (v : Int) (w : World) (sv : Value) (css : List (List Value)) (xs us : List Value), 0 ≤ v → v ≤ most → SlC anyB w sv m.fs.length css.flatten → RepFL anyB w m.fs css → RepT anyB w t xs → RepT anyB w ((R v t).setN v) us → Calls P tol [sv, .int .i64 v, .bool (m.isFlex v), .agg xs.toArray, .agg us.toArray].toArray w (TrueR w))
    (ht : RepT anyB w t ts) (hk : t.kok) (hlen : ∀ v, (writeP m v t).length + 1000 ≤ lim) (hg : GErr g w Te ve) :
    Calls P f [.int .u8 n, .agg ts.toArray].toArray w fun e w' => e = .returned (.bool true) ∧ Mod [] w w' := by
  unfold keptLaw at h
  refine call_of h hm (by simp) ?_
  clear h
  have h5 := ht.five
  rw [wpC_seq, wpC_blk]
  refine goBox (v := .agg ts.toArray) (by simp) fun w1 hb1 hm1 => ?_
  have hb1 : Blk w1 w.heap.size ts := by simpa using hb1
  refine go1 (v := .bool false) rfl (by simp) (goEnd ?_)
  simp only [thenC]
  have hload1 := cellsAt_of' hb1.cells h5
  rw [wpC_seq, wpC_seq, wpC_blk]
  refine go1 (v := .agg ts.toArray) rfl (by simp [hload1]) ?_
  refine goCall rfl (vs := [.agg ts.toArray]) (by simp) (hzz w1 t ts (ht.keep hm1)) ?_
  rintro e w2 ⟨zb, rfl, hm2⟩
  have hm02 := hm1.trans hm2
  refine ⟨_, rfl, ?_⟩
  refine go1 (v := .bool !zb) rfl (by simp) (goEnd ?_)
  simp only [thenC]
  cases zb with
  | false =>
    rw [wpC_cond_t (by simp), wpC_seq, wpC_blk]
    refine go1 (v := .bool true) rfl (by simp) (goEnd ?_)
    simp only [thenC]
    repeat first | refine retThen ?_ | refine retBlk ?_
    exact ret1 (v := .bool true) (by simp) ⟨rfl, hm02⟩
  | true =>
  rw [wpC_cond_f (by simp), wpC_skip]
  simp only [thenC]
  have hm3 : Mod [] w2 w2 := Mod.refl _ _
  have hm03 := hm02
  rw [wpC_seq, wpC_blk]
  refine goCall rfl (vs := []) rfl (hsm w2) ?_
  rintro e w4 ⟨cs, rfl, hrm, hm4⟩
  have hm04 := hm03.trans hm4
  refine ⟨_, rfl, ?_⟩
  obtain ⟨cv, cfl, rfl, hone, fcss, hfs, hfl⟩ : ∃ a b, cs = [a, .int .i64 b] ∧ a.oneCell' = true ∧ ∃ css, SlC anyB w4 a m.fs.length css.flatten ∧ RepFL anyB w4 m.fs css := by cases hrm with | mk q1 q2 => exact ⟨_, _, rfl, q1.one, _, q1, q2⟩
  have hw8 : IntKind.i64.wrap n = n := by simp only [IntKind.wrap, IntKind.bits, IntKind.signed]; simp; omega
  have hrem : n.tmod (most + 1) = n % (most + 1) := Int.tmod_eq_emod_of_nonneg hn.1
  refine go1 (v := .int .u8 n) rfl (by simp) ?_
  refine go1 (v := .int .i64 n) rfl (by simp [hw8]) ?_
  refine go1 (v := .int .i64 (n % (most + 1))) rfl (by
    have hne : most + 1 ≠ 0 := by omega
    have hw : IntKind.i64.wrap (n % (most + 1)) = n % (most + 1) := by
      have q1 : 0 ≤ n % (most + 1) := Int.emod_nonneg _ (by omega)
      have q2 : n % (most + 1) < most + 1 := Int.emod_lt_of_pos _ (by omega)
      simp only [IntKind.wrap, IntKind.bits, IntKind.signed]; simp; omega
    simp [hne, hrem, hw]) ?_
  refine goAlloc fun w6 hb6 hm6 => ?_
  refine goSt (b := w4.heap.size) (v := .agg #[cv, .int .i64 cfl]) (by simp) (by simp) hb6 (by simp) (by simp) (by
    intro y hy
    simp only [Value.cells, List.mem_cons, List.not_mem_nil, or_false] at hy
    rcases hy with rfl | rfl
    · exact hone
    · rfl) fun w7 hb7 hm7 => ?_
  have hb7 : Blk w7 w4.heap.size [cv, .int .i64 cfl] := by simpa using hb7
  have hm57 : Mod [] w4 w7 := Mod.drop (b := w4.heap.size) (S := []) (hm6.nil.trans hm7) (Nat.le_refl _)
  have hm07 := hm04.trans hm57
  have hv0 : 0 ≤ n % (most + 1) := Int.emod_nonneg _ (by omega)
  have hv1 : n % (most + 1) ≤ most := by have := Int.emod_lt_of_pos n (show 0 < most + 1 by omega); omega
  generalize n % (most + 1) = vr at hv0 hv1 ⊢
  refine go1 (v := .int .i64 vr) rfl (by simp) (goEnd ?_)
  simp only [thenC]
  have hld7 := cellsAt_of' hb7.cells (show [cv, Value.int .i64 cfl].length = 2 from rfl)
  have hb17 : Blk w7 w.heap.size ts := hb1.mod (((hm2.trans hm3).trans hm4).trans hm57) (by simp)
  have hload7 := cellsAt_of' hb17.cells h5
  rw [wpC_seq, wpC_blk]
  refine go1 (v := .agg #[cv, .int .i64 cfl]) rfl (by simp [hld7]) ?_
  refine go1 (v := .int .i64 vr) rfl (by simp) ?_
  refine go1 (v := .agg ts.toArray) rfl (by simp [hload7]) ?_
  refine goCall rfl (vs := [.agg [cv, .int .i64 cfl].toArray, .int .i64 vr, .agg ts.toArray]) (by simp) (hwr vr w7 _ t ts (hrm.keep hm57) (ht.keep hm07) hk (hlen vr)) ?_
  rintro e w8 ⟨sv, rfl, hsd, hm8⟩
  have hm08 := hm07.trans hm8
  refine ⟨_, rfl, ?_⟩
  have hsl : SlC anyB w8 sv (keptP m vr t).length (u8s (keptP m vr t)) := hsd.slc.any
  refine goCall rfl (vs := [sv]) (by simp) (hdoor w8 vr t sv hk (hlen vr) hv0 hv1 hsl (cell_mod hg hm08 (by simp))) ?_
  rintro e w9 ⟨xs, rfl, hx, hm9⟩
  have hm09 := hm08.trans hm9
  refine ⟨_, rfl, ?_⟩
  refine go1 (v := .tuple #[.agg xs.toArray, .bool true]) rfl (by simp) ?_
  refine go1 (v := .agg xs.toArray) rfl (by simp) ?_
  refine go1 (v := .bool true) rfl (by simp) ?_
  refine goAlloc fun w10 hb10 hm10 => ?_
  refine goSt (b := w9.heap.size) (v := .agg xs.toArray) (by simp) (by simp) hb10 (by simpa using hx.five) rfl (by simpa using hx.oneCell) fun w11 hb11 hm11 => ?_
  have hb11 : Blk w11 w9.heap.size xs := by simpa using hb11
  have hm911 : Mod [] w9 w11 := Mod.drop (b := w9.heap.size) (S := []) (hm10.nil.trans hm11) (Nat.le_refl _)
  refine go1 (v := .bool true) rfl (by simp) (goEnd ?_)
  simp only [thenC]
  rw [wpC_seq]
  show wpD P _ [] _ w11.drew _
  have hmd : Mod [] w9 w11.drew := hm911.trans (Mod.drew _ _)
  have hm0d := hm09.trans hmd
  have hb7d : Blk w11.drew w4.heap.size [cv, .int .i64 cfl] := hb7.mod ((hm8.trans hm9).trans hmd) (by simp)
  have c7 := fun k => hb7d.cell k
  have hb11d := hb11.mod (Mod.drew [] w11) (by simp)
  have hldx := cellsAt_of' hb11d.cells hx.five
  have hsz : w11.drew.heap.size = w11.heap.size := rfl
  have hxd : RepT (fun b => b < w11.drew.heap.size) w11.drew ((R vr t).setN vr) xs := (hx.mod (ok' := fun _ => True) hmd (by simp) fun _ _ _ => trivial).mod (Mod.refl [] _) (by simp) fun b hb _ => hb
  have hm5d : Mod [] w4 w11.drew := ((hm57.trans hm8).trans hm9).trans hmd
  have hld7d := cellsAt_of' hb7d.cells (show [cv, Value.int .i64 cfl].length = 2 from rfl)
  have hld1d := cellsAt_of' (hb17.mod ((hm8.trans hm9).trans hmd) (by simp)).cells h5
  have hrmd := hrm.keep hm5d
  refine wpD_of_B (fun i v w' => match i with | 13 => v = .bool (m.isFlex vr) | 16 => ∃ cs, v = .agg cs.toArray ∧ RepT anyB w' ((R vr t).setN vr) cs | 17 => v = .bool true | _ => True) (by
    intro i v w w' h hm
    split at h
    · exact h
    · obtain ⟨cs, e, h⟩ := h; exact ⟨cs, e, h.keep hm⟩
    · exact h
    · trivial) ?_
  obtain ⟨c11, e11⟩ : ∃ c, xs = .int .i64 vr :: c := by
    generalize (R vr t) = tr at hx
    cases tr; cases hx; exact ⟨_, rfl⟩
  have c11k := (e11 ▸ hb11d).cell 0
  refine bo1 (v := .bool true) rfl (by simp) ?_
  refine bo1 (v := .bool true) rfl (by simp) ?_
  refine bo1 (v := .pointer (some ⟨w9.heap.size, 0, none⟩)) (by simp) (by simp) ?_
  refine bo1 (v := .int .i64 vr) (by simp) (by simp [c11k]) ?_
  refine bo1 (v := .int .i64 vr) (by simp) (by simp) ?_
  refine bo1 (v := .bool true) (by simp) (by simp) ?_
  refine bo1 (v := .bool true) rfl (by simp) ?_
  refine bo1 (v := .bool true) rfl (by simp) ?_
  refine bo1 (v := .pointer (some ⟨w4.heap.size, 0, none⟩)) (by simp) (by simp) ?_
  refine bo1 (v := cv) (by simp) (by simp [c7]) ?_
  refine bo1 (v := .int .i64 vr) (by simp) (by simp) ?_
  refine bo1 (v := .agg #[cv, .int .i64 cfl]) (by simp) (by simp [hld7d]) ?_
  refine bo1 (v := .int .i64 vr) (by simp) (by simp) ?_
  refine boCall (vs := [.agg [cv, .int .i64 cfl].toArray, .int .i64 vr]) (by simp) (by simp) (fun w' hm' _ => (hflx vr w' _ (hrmd.keep hm')).mono ?_) ?_
  · rintro e w'' ⟨rfl, hmm⟩
    exact ⟨_, rfl, hmm, rfl⟩
  rintro v7 ⟨wv7, ev7⟩
  have ev7 : v7 = .bool (m.isFlex vr) := ev7
  subst ev7
  refine bo1 (v := .agg ts.toArray) (by simp) (by simp [hld1d]) ?_
  refine bo1 (v := .agg xs.toArray) (by simp) (by simp [hldx]) ?_
  refine boCall (vs := [.agg xs.toArray]) (by simp) (by simp) (fun w' hm' _ => (hgot vr hv0 hv1 w11.drew.heap.size w' xs hm'.size (hxd.mod hm' (by simp) fun _ _ h => h)).mono ?_) ?_
  · rintro e w'' ⟨us, rfl, hru, hmm⟩
    exact ⟨_, rfl, hmm, us, rfl, hru.any⟩
  rintro v ⟨wv, us, rfl, -⟩
  refine boCall (vs := [cv, .int .i64 vr, .bool (m.isFlex vr), .agg ts.toArray, .agg us.toArray]) (by simp) (by simp) (fun w' hm' hkn => ?_) ?_
  · have k5 := known_get (j := 16) (t := 40) hkn (by simp) rfl rfl (by simp) rfl
    obtain ⟨us', eu, hru⟩ : ∃ cs, Value.agg us.toArray = .agg cs.toArray ∧ RepT anyB w' ((R vr t).setN vr) cs := by simpa using k5
    have hm4w : Mod [] w4 w' := hm5d.trans hm'
    rw [show ([cv, .int .i64 vr, .bool (m.isFlex vr), .agg ts.toArray, Value.agg us.toArray] : List Value) = [cv, .int .i64 vr, .bool (m.isFlex vr), .agg ts.toArray, .agg us'.toArray] by rw [eu]]
    refine (htol vr w' cv fcss ts us' hv0 hv1 (hfs.keep hm4w) (hfl.keep hm4w) (ht.keep (hm0d.trans hm')) hru).mono ?_
    rintro e w'' ⟨rfl, hmm⟩
    exact ⟨_, rfl, hmm, rfl⟩
  rintro v ⟨wv', ev'⟩
  have ev' : v = .bool true := ev'
  subst ev'
  refine bo1 (v := .bool true) rfl (by simp) ?_
  refine bo1 (v := .bool true) rfl (by simp) ?_
  intro w' hm' hkn
  refine goEnd ?_
  simp only [thenC]
  exact ret1 (v := .bool true) (by simp) ⟨rfl, hm0d.trans hm'⟩
end
end Go.Msk

namespace Go.Msk
open Go.RowKit
set_option maxRecDepth 100000
def rvVk (T : Top) (m : MD) (ver : Int) : Bool := T.rv.isSome && (T.x ver == m.isFlex ver) && neB ver (m.isFlex ver) m.fs && T.sc.rvB ver (m.isFlex ver) m.fs
def rvOkK (T : Top) (m : MD) (most : Nat) : Bool := FD.plainL m.fs && (List.range (most + 1)).all fun v => rvVk T m (v : Nat)
theorem top_rvk {T : Top} {m : MD} {most : Nat} (h : rvOkK T m most = true) (hmost : most < 32768) {ver : Int} (h0 : 0 ≤ ver) (h1 : ver ≤ most) {t : TR} (hk : t.kok) :
    T.sc.rvB ver (m.isFlex ver) m.fs = true ∧ T.dec decStd 0 (at_ (keptP m ver t)) = some ((ver, T.sc.vals ver (m.isFlex ver) m.fs 0 t), at_ []) := by
  simp only [rvOkK, Bool.and_eq_true] at h
  obtain ⟨hp, h⟩ := h
  rw [List.all_eq_true] at h
  have hv := h ver.toNat (by rw [List.mem_range]; omega)
  rw [Int.toNat_of_nonneg h0] at hv
  simp only [rvVk, Bool.and_eq_true, beq_iff_eq] at hv
  obtain ⟨⟨⟨hrv, hx⟩, hne⟩, hsc⟩ := hv
  have e : writeP m ver t = bodyP ver (m.isFlex ver) m.fs 0 t ++ tailP (m.isFlex ver) t.u := by
    unfold writeP partP
    rw [unknownP_plain hp]; rfl
  refine ⟨hsc, ?_⟩
  have := T.sc.rv m.fs 0 t hsc hk []
  rw [← e, List.append_nil] at this
  obtain ⟨k1, k2⟩ := rdN_beI 2 ver (writeP m ver t)
  have k3 : IntKind.i16.wrap (ver % 256 ^ 2) = ver := by
    rw [show (256 : Int) ^ 2 = 65536 by decide]
    simp only [IntKind.wrap, IntKind.bits, IntKind.signed]; simp; omega
  unfold Top.dec keptP
  rw [hrv]
  simp only [if_true, k1, k2, k3, hx, this]
structure KeptFs where
  newv : FuncId
  rf : FuncId
  rd : FuncId
  tell : FuncId
  door : FuncId
  sm : FuncId
structure KeptOk (P : Program) (F : Nat → Nat) (has : Nat → Bool) (M : KeptFs) (T : Top) (tl : Tl) (fx : List FX) (flex : Int) (z : List Value) (most : Nat) : Prop where
  newv : liftF P M.newv = some (newvCode z T.dfl)
  rf : liftF P M.rf = some (rfCode M.rd false)
  rd : liftF P M.rd = some T.gen
  tell : liftF P M.tell = some (tl.code 1)
  door : liftF P M.door = some (keptCode M.newv M.rf M.tell z)
  sm : liftF P M.sm = some (FX.genMsg fx flex)
  fxs : FX.OkL P fx
  cnt : Nat.blt fx.length 1000 = true
  dfl : ∃ l, liftF P T.dfl = some (dfGen l) ∧ dfOk l (T.sc.dcs.flatten.length + 1) ∧ z.length = T.sc.dcs.flatten.length + 1 ∧ dfRes l z = .int .i16 0 :: T.sc.dcs.flatten ∧ ∀ ver, dfRes l (.int .i16 ver :: T.sc.dcs.flatten) = .int .i16 ver :: T.sc.dcs.flatten
  dfs : DfsOk P T.sc.dfs
  okT : T.okB F has = true
  okL : tl.okB F has = true
  subs : SubsOk P tl.subs
  cbs : CbsOk P tl.cbs
  fits : fit T.sc tl = true
  small : T.sc.smallB = true
  len : T.sc.len ≤ 1000
  tlen : tl.len ≤ 1000
  rv : rvOkK T ⟨FX.fds fx, flex⟩ most = true
  told : ((List.range (most + 1)).all fun v => T.sc.toB (v : Nat) (FX.fds fx)) = true
  most : most < 32768
theorem TR.setN_small {t : TR} {n : Int} (h : t.small) : (t.setN n).small := by
  cases t; simpa [TR.setN, TR.small] using h
section
variable {P : Program} {F : Nat → Nat} {has : Nat → Bool} {M : KeptFs} {T : Top} {tl : Tl} {fx : List FX} {flex : Int} {z : List Value} {most : Nat}
theorem KeptOk.plain (h : KeptOk P F has M T tl fx flex z most) : FD.plainL (FX.fds fx) = true := by
  have := h.rv; simp only [rvOkK, Bool.and_eq_true] at this; exact this.1
theorem KeptOk.doorOf (L : Lib P F has) (LI : LibI P F has) (h : KeptOk P F has M T tl fx flex z most) {Te : TypeId} {ve : Value} : KDoorOf P M.door ⟨FX.fds fx, flex⟩ most (F gErr) Te ve (tellR T fx flex) := by
  intro w ver t sv hk hlen h0 h1 hs hg
  obtain ⟨l, e1, e2, e3, e4, e5⟩ := h.dfl
  have hz : DfC P T.dfl z (.int .i16 0 :: T.sc.dcs.flatten) := df_call L.mixed e1 (by rw [e3]; exact e2) e4
  have htl : TellAt P M.tell 1 tl.ty := Tl.call L.mixed h.tell (Tl.ok_of L.mixed LI tl h.okL h.subs h.cbs) h.tlen
  obtain ⟨hrv, hdec⟩ := top_rvk h.rv h.most h0 h1 hk
  have hne : (keptP ⟨FX.fds fx, flex⟩ ver t).isEmpty = false := by
    have := keptP_length ⟨FX.fds fx, flex⟩ ver t
    cases hl : keptP ⟨FX.fds fx, flex⟩ ver t with
    | nil => rw [hl] at this; simp at this; omega
    | cons a b => rfl
  have hty : ∀ vr gs s, T.dec decStd 0 ⟨keptP ⟨FX.fds fx, flex⟩ ver t, false, (keptP ⟨FX.fds fx, flex⟩ ver t).isEmpty⟩ = some ((vr, gs), s) → vr = ver ∧ tl.ty gs := by
    intro vr gs s hd
    rw [hne, show (⟨keptP ⟨FX.fds fx, flex⟩ ver t, false, false⟩ : RS) = at_ (keptP ⟨FX.fds fx, flex⟩ ver t) from rfl, hdec] at hd
    simp only [Option.some.injEq, Prod.mk.injEq] at hd
    obtain ⟨⟨rfl, rfl⟩, -⟩ := hd
    exact ⟨rfl, vals_ty _ _ _ _ _ hrv h.fits hk⟩
  have hT : T.tellsK decStd (keptP ⟨FX.fds fx, flex⟩ ver t) = some ((tellR T fx flex ver t).setN ver) := by
    unfold Top.tellsK
    rw [hne, show (⟨keptP ⟨FX.fds fx, flex⟩ ver t, false, false⟩ : RS) = at_ (keptP ⟨FX.fds fx, flex⟩ ver t) from rfl, hdec]
    rfl
  have hl := keptP_length ⟨FX.fds fx, flex⟩ ver t
  refine (kept_call L.mixed h.door h.newv hz e3.symm h.rf h.rd (Top.ok_of L h.okT h.dfs e1 e2 e5 false) htl (fun vr gs s hd => (hty vr gs s hd).2) hs (by have h2 := hlen; unfold lim at h2; omega) hg (fun vr gs s hd => ?_)).mono ?_
  · rw [(hty vr gs s hd).1]
    have := h.most
    simp only [IntKind.wrap, IntKind.bits, IntKind.signed]; simp; omega
  · rintro e w' ⟨hm, cs, hrt, rfl⟩
    rw [hT] at hrt ⊢
    exact ⟨cs, rfl, hrt, hm⟩
theorem kept_msg (L : Lib P F has) (LI : LibI P F has) (TL : TLib P F) (h : KeptOk P F has M T tl fx flex z most) {f zz z2 z3 : FuncId} (hf : liftF P f = some (keptLaw zz M.sm (F sKept) M.door (F sFlexible) (F lGot) (F sTold) most)) (hz1 : liftF P zz = some (zz1Code z2)) (hz2 : liftF P z2 = some (zz2Code z3)) (hz3 : liftF P z3 = some zz3Code)
    (hks : liftF P (F sKept) = some (ir_sKept F)) (hfx : liftF P (F sFixed) = some (ir_sFixed F)) (hg : liftF P (F lGot) = some (ir_lGot F)) {Te : TypeId} {ve : Value} {w : World} {b : Int} (hb : 0 ≤ b ∧ b < 256) {t : TR} {ts : List Value}
    (ht : RepT anyB w t ts) (hk : t.kok) (hn : t.nok) (hlen : ∀ v, (writeP ⟨FX.fds fx, flex⟩ v t).length + 1000 ≤ lim) (hge : GErr (F gErr) w Te ve) : Calls P f [.int .u8 b, .agg ts.toArray].toArray w fun e w' => e = .returned (.bool true) ∧ Mod [] w w' := by
  have hmost : (0 : Int) ≤ most ∧ (most : Int) < 32768 := ⟨by omega, by have := h.most; omega⟩
  have hcnt : (FX.fds fx).length < 1000 := by
    rw [FX.fds_length]
    have := h.cnt
    exact Nat.lt_of_succ_le (Nat.le_of_ble_eq_true this)
  refine kept_law L.mixed hf hmost (fun w t ts ht => zz1_call L.mixed hz1 hz2 hz3 ht) (fun w => msg_call L.mixed h.sm h.fxs)
    (fun v w ms t ts a b c d => skept_call L.mixed hks hfx (writeC_plain TL.sl (m := ⟨FX.fds fx, flex⟩) (ver := v) h.plain hcnt) a b c d) (h.doorOf L LI) hb (fun v h0 h1 => ?_) (fun v w ms hms => flexible_call TL hms) (fun v w sv css xs us h0 h1 a b c d => ?_) ht hk hlen hge
  · obtain ⟨hrv, -⟩ := top_rvk (t := t) h.rv h.most h0 h1 hk
    exact got_call L.mixed hg _ (TR.setN_small (rcd_small (by rw [vals_len _ _ _ _ hrv]; exact h.len) (vals_sm _ _ _ _ hrv h.small hk)).1)
  · obtain ⟨hrv, -⟩ := top_rvk (t := t) h.rv h.most h0 h1 hk
    have ht2 := h.told
    rw [List.all_eq_true] at ht2
    have hto := ht2 v.toNat (by rw [List.mem_range]; omega)
    rw [Int.toNat_of_nonneg h0] at hto
    obtain ⟨q1, q2⟩ := vals_told _ _ 0 t hrv hto hk hn
    refine partT_plain TL v _ h.plain hcnt w sv css t xs _ us a b c d ⟨q1, ?_⟩
    show GV.tagsF _ = _
    rw [q2, unknownP_plain h.plain]
end
end Go.Msk

namespace Go.Msk
open Go.RowKit Go.Shelf Go.Proofs
set_option maxRecDepth 100000
def ltN (x y : Nat) : Bool := decide (x < y)
theorem swo_ltN : Go.Sort.SWO ltN where
  irrefl := fun x => by simp [ltN]
  trans := fun x y z => by simp only [ltN, decide_eq_true_eq]; omega
  ntrans := fun x y z => by simp only [ltN, decide_eq_false_iff_not]; omega
theorem sortWorld_ok {w : World} {B m : Nat} {cs : List Value} {dk : Array Nat} {os : Array Obj} (h : Blk w B cs) (hl : cs.length = dk.size) :
    Mod [B] w (Go.Sort.grow (Go.Sort.putRow u32v (Go.Sort.ahead w m) B 0 dk) os) ∧ Blk (Go.Sort.grow (Go.Sort.putRow u32v (Go.Sort.ahead w m) B 0 dk) os) B (dk.toList.map u32v) := by
  obtain ⟨T, fr, hb, hfr⟩ := h
  have hlt : B < w.heap.size := (Array.getElem?_eq_some_iff.1 hb).1
  have hsz : (w.heap.modify B (Go.Sort.onCells (Go.Sort.putCells u32v 0 dk))).size = w.heap.size := by simp
  have hget : ∀ k, k < w.heap.size → (Go.Sort.grow (Go.Sort.putRow u32v (Go.Sort.ahead w m) B 0 dk) os).heap[k]? = (w.heap.modify B (Go.Sort.onCells (Go.Sort.putCells u32v 0 dk)))[k]? := fun k hk => by
    show ((w.heap.modify B (Go.Sort.onCells (Go.Sort.putCells u32v 0 dk))) ++ os)[k]? = _
    rw [Array.getElem?_append_left (by omega)]
  refine ⟨⟨rfl, rfl, rfl, ?_, fun k hk hn => ?_⟩, T, fr, ?_, ?_⟩
  · show w.heap.size ≤ ((w.heap.modify B (Go.Sort.onCells (Go.Sort.putCells u32v 0 dk))) ++ os).size
    simp
  · rw [hget k hk, Array.getElem?_modify, if_neg (by simp only [List.mem_singleton] at hn; omega)]
  · rw [hget B hlt, Array.getElem?_modify, if_pos rfl, hb]
    simp only [Option.map_some, Go.Sort.onCells, Option.some.injEq, Obj.cells.injEq, and_true]
    apply Array.ext_getElem?
    intro k
    simp only [Go.Sort.putCells, Array.getElem?_mapIdx, List.getElem?_toArray, List.getElem?_map, Array.getElem?_toList, Nat.zero_add, Nat.zero_le, true_and, Nat.sub_zero]
    by_cases hk : k < dk.size
    · have e1 : cs[k]? = some cs[k] := List.getElem?_eq_getElem (by omega)
      have e2 : dk[k]? = some dk[k] := Array.getElem?_eq_getElem hk
      rw [e1, e2]
      simp only [Option.map_some, if_pos hk]
      rw [getElem!_pos dk k hk]
    · rw [List.getElem?_eq_none (by omega), Array.getElem?_eq_none (by omega)]
      rfl
  · simp only [List.length_map, Array.length_toList]
    rw [← hl]; exact hfr
section
variable {P : Program} {F : Nat → Nat}
theorem each1_call (hm : P.follows .mixedOrders = true) (h : liftF P (F tEach1) = some (ir_tEach1 F)) {w : World} {B Bs n : Nat} {G : Nat → Nat} (hs : w.cell? ⟨Bs, 0, none⟩ = some (.slice (some ⟨B, 0, none⟩) n n))
    (hc : ∀ t, t < n → w.cell? ⟨B, t, none⟩ = some (u32v (G t))) {i j : Nat} (hi : i < n) (hj : j < n) :
    Calls P (F tEach1) [.int .i64 i, .int .i64 j, .pointer (some ⟨Bs, 0, none⟩)].toArray w fun e w' => e = .returned (.bool (ltN (G i) (G j))) ∧ w' = w.drew := by
  unfold ir_tEach1 at h
  refine call_of h hm (by simp) ?_
  have a0 : args0 [.int .i64 i, .int .i64 j, .pointer (some ⟨Bs, 0, none⟩)] 0 = .int .i64 i := rfl
  have a1 : args0 [.int .i64 i, .int .i64 j, .pointer (some ⟨Bs, 0, none⟩)] 1 = .int .i64 j := rfl
  have a2 : args0 [.int .i64 i, .int .i64 j, .pointer (some ⟨Bs, 0, none⟩)] 2 = .pointer (some ⟨Bs, 0, none⟩) := rfl
  generalize args0 [.int .i64 i, .int .i64 j, .pointer (some ⟨Bs, 0, none⟩)] = σ at a0 a1 a2 ⊢
  rw [wpC_seq, wpC_blk]
  refine wpR_step (v := .bool false) rfl ?_
  refine wpR_done ?_
  rw [wpC_seq]
  show wpD P _ [] _ w.drew _
  have hs' : w.drew.cell? ⟨Bs, 0, none⟩ = some (.slice (some ⟨B, 0, none⟩) n n) := hs
  have hi' : w.drew.cell? ⟨B, i, none⟩ = some (u32v (G i)) := hc i hi
  have hj' : w.drew.cell? ⟨B, j, none⟩ = some (u32v (G j)) := hc j hj
  refine wpD_pure rfl ?_
  simp only [List.map_cons, List.map_nil, List.cons_append, List.nil_append]
  refine wpR_step (v := .slice (some ⟨B, 0, none⟩) n n) (by simp only [RK.val?, ev, updo, upd]; simp [a2, hs']) ?_
  refine wpR_step (v := .int .i64 i) (by simp only [RK.val?, ev, updo, upd]; simp [a0]) ?_
  refine wpR_step (v := .pointer (some ⟨B, i, none⟩)) (by
    simp only [RK.val?, ev, updo, upd, show (6 : Nat) ≠ 7 by decide, if_false, if_true]
    rw [if_pos (by omega)]; simp [Addr.add_mk]) ?_
  refine wpR_step (v := u32v (G i)) (by simp only [RK.val?, ev, updo, upd, if_true, hi']) ?_
  refine wpR_step (v := .slice (some ⟨B, 0, none⟩) n n) (by simp only [RK.val?, ev, updo, upd]; simp [a2, hs']) ?_
  refine wpR_step (v := .int .i64 j) (by simp only [RK.val?, ev, updo, upd]; simp [a1]) ?_
  refine wpR_step (v := .pointer (some ⟨B, j, none⟩)) (by
    simp only [RK.val?, ev, updo, upd, show (10 : Nat) ≠ 11 by decide, if_false, if_true]
    rw [if_pos (by omega)]; simp [Addr.add_mk]) ?_
  refine wpR_step (v := u32v (G j)) (by simp only [RK.val?, ev, updo, upd, if_true, hj']) ?_
  refine wpR_step (v := .bool (ltN (G i) (G j))) (by
    simp only [RK.val?, ev, updo, upd, show (9 : Nat) ≠ 13 by decide, show (9 : Nat) ≠ 12 by decide, show (9 : Nat) ≠ 11 by decide, show (9 : Nat) ≠ 10 by decide, if_false, if_true, u32v, isShift, decide_true, Bool.or_true, intBin, ltN]
    congr 2; exact decide_eq_decide.2 (by omega)) ?_
  refine wpR_step (v := .bool (ltN (G i) (G j))) (by simp only [RK.val?, ev, updo, upd, if_true]) ?_
  refine wpR_done ?_
  simp only [wpC, postC, rvals, List.mapM_cons, List.mapM_nil, RV.val, updo, upd, if_true, Option.bind_eq_bind, Option.bind_some, Option.pure_def, tup_one]
  exact ⟨trivial, trivial⟩
theorem sortC_of {ρ : Ren} (L : LaysGg.n6 P ρ) (hm : P.follows .mixedOrders = true) (hl : liftF P (F tEach1) = some (ir_tEach1 F)) (hf : ρ.f 6 = F sortSlice) {e : TypeId} {i ie : TypeInfo} (hi : P.info? (F tyU32s) = some i) (hd : i.desc = .slice e)
    (hpk : P.packed (F tyU32s) = false) (hie : P.info? e = some ie) (ke : Nat) (hke : ∀ w, (Extern.Rtype.kind e).run P w = .ok ke w) (hs1 : ie.size = 1) (hagg : ∀ w, (isAgg e).run P w = .ok false w) (hp : ie.hasPointers = false) (hb : ie.bytes = 4)
    (eg : ∀ args w, (callFunc (F tEach1) args).run P w = .ok (.enter (F tEach1) args) w) (f1 f2 f6 : Nat) (h1 : P.funcs.findIdx? (·.name == "internal/reflectlite" ++ ".Swapper$" ++ toString 1) = some f1) (h2 : P.funcs.findIdx? (·.name == "internal/reflectlite" ++ ".Swapper$" ++ toString 2) = some f2)
    (h6 : P.funcs.findIdx? (·.name == "internal/reflectlite" ++ ".Swapper$" ++ toString 6) = some f6) (gS : Bool) (hx : ∀ args W, (callFunc f6 args).run P W = ((Extern.ReflectliteSwapper.swap gS args).run P W).andThen fun v w' => .ok (.value v) w') :
    SortC P (F sortSlice) (F tEach1) (F tyU32s) := by
  intro w B Bs ks hB hBs hne hlen hk32
  rw [← hf]
  by_cases hn : 2 ≤ ks.length
  · have hK : Go.Lib.swapperK ks.toArray.size ie ke = 6 := by
      have c : (ks.toArray.size == 0) = false := by simp; intro h; rw [h] at hn; simp at hn
      have d : (ks.toArray.size == 1) = false := by simp; omega
      simp only [Go.Lib.swapperK, hp, hb, c, d, Bool.false_and, Bool.false_eq_true, if_false]
    have hH : Go.Sort.Holds u32v w B 0 ks.toArray := by
      intro j hj
      have hj' : j < ks.length := by simpa using hj
      refine ⟨?_, ?_⟩
      · rw [Nat.zero_add, hB.cell j, List.getElem?_map, List.getElem?_eq_getElem hj', getElem!_pos ks.toArray j hj]
        simp
      · obtain ⟨T, fr, hb, hfr⟩ := hB
        obtain ⟨lo, hi⟩ := fr
        simp only [World.frozen?, hb, Nat.zero_add]
        simp only [List.length_map] at hfr
        simp only [Bool.and_eq_false_iff, decide_eq_false_iff_not]
        omega
    have hless : LessReads P (F tEach1) #[.pointer (some ⟨Bs, 0, none⟩)] u32v ltN B 0 ks.toArray.size w := by
      intro m os dk hs a b ha hb
      have hs' : dk.size = ks.length := by simpa using hs
      obtain ⟨q1, q2⟩ := sortWorld_ok (w := w) (B := B) (m := m) (dk := dk) (os := os) hB (by simpa using hs'.symm)
      have q3 := hBs.mod q1 (by simpa using hne)
      refine (each1_call hm hl (w := sortWorld u32v w B 0 m dk os) (B := B) (Bs := Bs) (n := ks.length) (G := fun t => dk[t]!) (q3.cell 0) (fun t ht => ?_) (i := a) (j := b) (by simpa using ha) (by simpa using hb)).mono fun en w' hh => ⟨hh.1, 1, hh.2⟩
      have := q2.cell t
      rw [List.getElem?_map] at this
      have ht' : t < dk.size := by omega
      rw [show (sortWorld u32v w B 0 m dk os).cell? ⟨B, t, none⟩ = _ from this, getElem!_pos dk t ht']
      simp [Array.getElem?_eq_getElem ht']
    have hS := Any.sort_Slice_sorted L (F tyU32s) e i ie hi hd hpk hie ke hke hs1 hagg u32v (fun _ => rfl) ltN swo_ltN (F tEach1) #[.pointer (some ⟨Bs, 0, none⟩)] eg B 0 ks.length ks.toArray (by simpa using hn) (by simp; omega) f6 (by rw [hK]; exact h6) gS hx w hless hH hB.lt
    have hsz : ks.toArray.size = ks.length := by simp
    rw [hsz] at hS
    refine hS.mono ?_
    rintro en w' ⟨rfl, d', n, os, ⟨p1, -, p3⟩, hso, rfl⟩
    have hd' : d'.size = ks.length := by simpa using p1
    obtain ⟨q1, q2⟩ := sortWorld_ok (w := w) (B := B) (m := n) (dk := d') (os := os) hB (by simpa using hd'.symm)
    refine ⟨rfl, d'.toList, ?_, ?_, q2, q1⟩
    · have x1 : d'.extract 0 ks.length = d' := by rw [← hd']; exact Array.extract_size
      have x2 : ks.toArray.extract 0 ks.length = ks.toArray := by rw [← hsz]; exact Array.extract_size
      rw [x1, x2] at p3
      exact p3
    · rw [List.pairwise_iff_getElem]
      intro a b ha hb hab
      have ha' : a < d'.size := by simpa using ha
      have hb' : b < d'.size := by simpa using hb
      have := hso a b (Nat.zero_le _) hab (by omega)
      rw [getElem!_pos d' a ha', getElem!_pos d' b hb'] at this
      simp only [ltN, decide_eq_false_iff_not] at this
      simp only [Array.getElem_toList]
      omega
  · have hks : ks.length = 0 ∨ ks.length = 1 := by omega
    have hfn : ∃ f, P.funcs.findIdx? (·.name == "internal/reflectlite" ++ ".Swapper$" ++ toString (Go.Lib.swapperK ks.length ie ke)) = some f := by
      rcases hks with h | h
      · rw [h]; exact ⟨f1, h1⟩
      · rw [h]; exact ⟨f2, h2⟩
    obtain ⟨f0, hf0⟩ := hfn
    refine (Any.sort_Slice_tiny L (F tyU32s) e i ie hi hd hpk hie ke hke (some ⟨B, 0, none⟩) ks.length ks.length (by omega) f0 hf0 (.func (F tEach1)) #[] #[.pointer (some ⟨Bs, 0, none⟩)] w).mono ?_
    rintro en w' ⟨rfl, os, rfl⟩
    have hm' : Mod [] w (Go.Sort.grow w os) := ⟨rfl, rfl, rfl, by show w.heap.size ≤ (w.heap ++ os).size; simp, fun k hk _ => by show (w.heap ++ os)[k]? = _; rw [Array.getElem?_append_left hk]⟩
    refine ⟨rfl, ks, .refl _, ?_, hB.mod hm' (by simp), hm'.nil⟩
    match ks, hks with
    | [], _ => exact .nil
    | [x], _ => simp
end
end Go.Msk
