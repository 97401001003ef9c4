/- A small language of resolved operations, and what the generic and the generated functions do in it (part 15). -/
import Derived.Test.YtebigehbjfnfjaaFn
import Derived.Shelf.GgSortFunc.Whole
import Derived.Shelf.GgSortFunc.Tiny

namespace Go.Msk
open Go.RowKit
set_option maxRecDepth 100000
theorem fill_enc {p : PK} {kind : Int} {nul null x : Bool} {part : TR → List UInt8} {pt : TR → TR} {t : TR} (hp : fOk p = true) (hk : kindOk kind nul p = true) (hn : null = true → nul = true) :
    encP p x (fillP p (fitV kind pt null t)) = valP x kind part null t ∧ FitP p (fillP p (fitV kind pt null t)) := by
  have hw := wholeP_le t.s
  cases p <;> simp only [fOk, Bool.false_eq_true] at hp
  case bool =>
    simp only [kindOk, decide_eq_true_eq] at hk
    subst hk
    have h2 : t.n % 2 = 0 ∨ t.n % 2 = 1 := by omega
    refine ⟨?_, ⟨_, rfl⟩⟩
    have e : fillP .bool (fitV 0 pt null t) = .num (.bool (decide (t.n % 2 = 1))) := rfl
    rw [e]
    rcases h2 with h2 | h2 <;> simp [valP, encP, h2]
  case i8 => simp only [kindOk, decide_eq_true_eq] at hk; subst hk; exact ⟨beI_mod 1 _ _ (by rw [show (256 : Int) ^ 1 = 256 by decide]; exact wrap_mod_i8 t.n), ⟨_, rfl⟩⟩
  case i16 => simp only [kindOk, decide_eq_true_eq] at hk; subst hk; exact ⟨beI_mod 2 _ _ (by rw [show (256 : Int) ^ 2 = 65536 by decide]; exact wrap_mod_i16 t.n), ⟨_, rfl⟩⟩
  case i32 => simp only [kindOk, decide_eq_true_eq] at hk; subst hk; exact ⟨beI_mod 4 _ _ (by rw [show (256 : Int) ^ 4 = 4294967296 by decide]; exact wrap_mod_i32 t.n), ⟨_, rfl⟩⟩
  case i64 => simp only [kindOk, decide_eq_true_eq] at hk; subst hk; exact ⟨rfl, ⟨_, rfl⟩⟩
  case u16 =>
    simp only [kindOk, decide_eq_true_eq] at hk; subst hk
    have hwr : IntKind.u16.wrap t.n = t.n % 65536 := by simp only [IntKind.wrap, IntKind.bits, IntKind.signed]; simp
    refine ⟨beI_mod 2 _ _ ?_, ⟨_, rfl, ?_, ?_⟩⟩
    · show IntKind.u16.wrap t.n % _ = _
      rw [show (256 : Int) ^ 2 = 65536 by decide, hwr]; omega
    · show 0 ≤ IntKind.u16.wrap t.n
      rw [hwr]; omega
    · show IntKind.u16.wrap t.n < 65536
      rw [hwr]; omega
  case uuid => simp only [kindOk, decide_eq_true_eq] at hk; subst hk; exact ⟨rfl, ⟨_, rfl, by simp [uuidP, fitV, TR.s]; omega⟩⟩
  case str =>
    simp only [kindOk, Bool.and_eq_true, decide_eq_true_eq, Bool.not_eq_true'] at hk
    obtain ⟨rfl, hnul⟩ := hk
    have hnull : null = false := by cases null <;> simp_all
    subst hnull
    have e : valP x 8 part false t = if x then uvE ((wholeP t.s).length + 1) ++ wholeP t.s else beI 2 (wholeP t.s).length ++ wholeP t.s := by
      simp [valP, countedP]; cases x <;> simp
    rw [e]
    exact ⟨rfl, ⟨wholeP t.s, rfl, by omega⟩⟩
theorem setU_ris : ∀ (u m : List (Nat × List UInt8)), u.Pairwise (fun a b => a.1 < b.1) → (∀ p ∈ m, ∀ q ∈ u, p.1 < q.1) → u.foldl (fun m p => putTag m p.1 p.2) m = m ++ u
  | [], m, _, _ => by simp
  | (k, b) :: u, m, h, hm => by
    simp only [List.foldl_cons]
    rw [putTag_new fun p hp => hm p hp (k, b) (by simp), setU_ris u _ (List.pairwise_cons.1 h).2 fun p hp q hq => ?_]
    · simp
    · rcases List.mem_append.1 hp with hp | hp
      · exact hm p hp q (by simp [hq])
      · simp only [List.mem_singleton] at hp; subst hp
        exact (List.pairwise_cons.1 h).1 q hq
theorem fitU_plain {fs : List FD} (h : FD.plainL fs = true) (u : List (Nat × List UInt8)) : fitU fs u = wholeU (unk u) := by unfold fitU wholeU; rw [unknownP_plain h]
theorem tags_enc {u : List (Nat × List UInt8)} (h : ∀ p ∈ u, p.1 < 4294967296) : uvE (setU (wholeU (unk u))).length ++ tagsR (sortT (setU (wholeU (unk u)))) = tailP true u ∧ (setU (wholeU (unk u))).length ≤ 2147483647 ∧ ∀ p ∈ setU (wholeU (unk u)), p.2.length ≤ 2147483647 := by
  obtain ⟨h1, h2⟩ := unk_ok h
  have hs : (wholeU (unk u)).Pairwise (fun a b => a.1 < b.1) := by
    unfold wholeU; rw [List.pairwise_map]; exact h1.1
  have e : setU (wholeU (unk u)) = wholeU (unk u) := by unfold setU; rw [setU_ris _ [] hs (by simp)]; simp
  rw [e]
  refine ⟨?_, by simp [wholeU]; omega, fun p hp => ?_⟩
  · rw [sortT_ris hs]
    simp only [tailP, if_true]
    have : tagsR (wholeU (unk u)) = tagsP (unk u) := by simp [tagsR, tagsP, wholeU, List.flatMap_map]
    rw [this]
    simp [wholeU]
  · simp only [wholeU, List.mem_map] at hp
    obtain ⟨q, -, rfl⟩ := hp
    have := wholeP_le q.2
    show (wholeP q.2).length ≤ _
    omega
def Fl.mkB (ver : Int) (x : Bool) : Fl → List FD → Ap → Bool
  | .nil, fds, ap => match fds, ap with
    | [], .nil => !x
    | _, _ => false
  | .tags _, fds, ap => match fds, ap with
    | [], .tags _ _ _ => true
    | _, _ => false
  | .prm p rest, fds, ap => match fds, ap with
    | f :: fs, .prm vc _ p' _ rest' => decide (f.tag < 0) && fOk p && !p.eqB .uuid && (vc.holds ver == f.hasV ver) && (!f.hasV ver || (kindOk f.kind (f.nulB ver) p && p.eqB p')) && rest.mkB ver x fs rest'
    | f :: fs, .uid vc _ rest' => decide (f.tag < 0) && p.eqB .uuid && (vc.holds ver == f.hasV ver) && (!f.hasV ver || decide (f.kind = 7)) && rest.mkB ver x fs rest'
    | _, _ => false
  | .lsp p _ rest, fds, ap => match fds, ap with
    | f :: fs, .lsp vc nul _ p' _ rest' => decide (f.tag < 0) && decide (f.kind = 11) && fOk p && (vc.holds ver == f.hasV ver) && (!f.hasV ver || ((nul == f.nulB ver) && kindOk f.of false p && p.eqB p' && !p.eqB .uuid)) && rest.mkB ver x fs rest'
    | _, _ => false
  | .lss _ _ body rest, fds, ap => match fds, ap with
    | f :: fs, .lss vc nul _ sz body' rest' => decide (f.tag < 0) && decide (f.kind = 11) && (vc.holds ver == f.hasV ver) && (!f.hasV ver || ((nul == f.nulB ver) && decide (f.of = 10) && decide (body.z.length = sz) && FD.plainL f.sub && body.mkB ver x f.sub body')) && rest.mkB ver x fs rest'
    | _, _ => false
theorem FD.fit_eq (ver : Int) (f : FD) (t : TR) : f.fit ver t = if f.kind = 11 then .mk 0 [] (f.nullV ver t || (decide (f.tag ≥ 0) && decide (t.l.length = 0))) ((t.l.take 32767).map (fitV f.of (fun y => .mk 0 [] false (fitL ver f.sub 0 y) (fitU f.sub y.u)) false)) []
    else fitV f.kind (fun y => .mk 0 [] false (fitL ver f.sub 0 y) (fitU f.sub y.u)) (f.nullV ver t) t := by
  obtain ⟨k, a, b, c, tag, d, e, sub⟩ := f
  rw [FD.fit]
  rfl
theorem FD.null_nul {f : FD} {ver : Int} {t : TR} (h : f.nullV ver t = true) : f.nulB ver = true := by
  simp only [FD.nullV, FD.nulB, Bool.and_eq_true] at h ⊢
  exact h.2
theorem TR.l_mk (n : Int) (s : List UInt8) (b : Bool) (l : List TR) (u : List (Nat × List UInt8)) : (TR.mk n s b l u).l = l := rfl
theorem TR.null_mk (n : Int) (s : List UInt8) (b : Bool) (l : List TR) (u : List (Nat × List UInt8)) : (TR.mk n s b l u).null = b := rfl
theorem lst_enc {ver : Int} {x nul : Bool} {f : FD} {t : TR} {sz : Nat} {val : TR → GV} {encg : GV → List UInt8} {Pg : GV → Prop} (h11 : f.kind = 11) (htag : f.tag < 0) (hn : nul = f.nulB ver)
    (he : ∀ y ∈ t.l, encg (val (fitV f.of (fun y => .mk 0 [] false (fitL ver f.sub 0 y) (fitU f.sub y.u)) false y)) = valP x f.of (fun y => joinP x (bodyP ver x f.sub 0 y) (unknownP f.sub y.u)) false y ∧ Pg (val (fitV f.of (fun y => .mk 0 [] false (fitL ver f.sub 0 y) (fitU f.sub y.u)) false y))) :
    (match lstV sz val (f.fit ver t) with | .lst isnil _ es => encLen nul x isnil es.length ++ es.flatMap encg | _ => []) = f.enc ver x t ∧ FitL sz Pg (lstV sz val (f.fit ver t)) := by
  have ht : decide (f.tag ≥ 0) = false := by simp; omega
  rw [FD.fit_eq, if_pos h11, ht, FD.enc_eq']
  unfold fieldP
  rw [if_pos h11]
  simp only [Bool.false_and, Bool.or_false, lstV, TR.null_mk, TR.l_mk]
  cases hnv : f.nullV ver t with
  | true =>
    have := FD.null_nul hnv
    simp only [if_true]
    refine ⟨?_, ⟨true, sz, [], rfl, by simp, by simp, by simp⟩⟩
    rw [hn, this]
    cases x <;> simp [encLen, countedP]
  | false =>
    simp only [Bool.false_eq_true, if_false]
    have hl := take_le t.l
    refine ⟨?_, ⟨false, sz, _, rfl, fun _ => rfl, by simp; omega, fun g hg => ?_⟩⟩
    · have e1 : ∀ (l : List TR), (∀ y ∈ l, y ∈ t.l) → ((l.map (fitV f.of (fun y => .mk 0 [] false (fitL ver f.sub 0 y) (fitU f.sub y.u)) false)).map val).flatMap encg = l.flatMap (valP x f.of (fun y => joinP x (bodyP ver x f.sub 0 y) (unknownP f.sub y.u)) false) := by
        intro l
        induction l with
        | nil => intro _; rfl
        | cons a l ih =>
          intro hm
          simp only [List.map_cons, List.flatMap_cons, (he a (hm a (by simp))).1, ih fun y hy => hm y (by simp [hy])]
      rw [e1 _ fun y hy => List.mem_of_mem_take hy]
      simp only [List.length_map]
      cases x <;> simp [encLen, countedP]
    · rw [List.map_map, List.mem_map] at hg
      obtain ⟨y, hy, rfl⟩ := hg
      exact (he y (List.mem_of_mem_take hy)).2
theorem Fl.mk_enc {ver : Int} {x : Bool} : ∀ (fl : Fl) (fds : List FD) (ap : Ap) (i : Nat) (t T : TR), fl.mkB ver x fds ap = true → t.kok → (∀ j f, fds[j]? = some f → T.at (i + j) = f.fit ver (t.at (i + j))) → T.u = wholeU (unk t.u) →
    ap.enc ver x (fl.vals i T) = bodyP ver x fds i t ++ tailP x t.u ∧ ap.Fit ver (fl.vals i T) := by
  intro fl
  induction fl with
  | nil =>
    intro fds ap i t T h hk _ _
    cases fds <;> cases ap <;> simp [Fl.mkB] at h
    subst h
    exact ⟨rfl, rfl⟩
  | tags f =>
    intro fds ap i t T h hk _ hu
    cases fds <;> cases ap <;> simp [Fl.mkB] at h
    have hku : ∀ p ∈ t.u, p.1 < 4294967296 := by cases t; exact hk.1
    obtain ⟨h1, h2, h3⟩ := tags_enc hku
    simp only [Fl.vals, hu]
    refine ⟨?_, ⟨_, rfl, _, rfl, h2, h3⟩⟩
    cases x with
    | true => simpa [Ap.enc, bodyP] using h1
    | false => rfl
  | prm p rest ih =>
    intro fds ap i t T h hk hT hu
    cases fds with
    | nil => cases ap <;> simp [Fl.mkB] at h
    | cons f fs =>
    have h0 := hT 0 f rfl
    rw [Nat.add_zero] at h0
    have hT' : ∀ j g, fs[j]? = some g → T.at (i + 1 + j) = g.fit ver (t.at (i + 1 + j)) := fun j g hg => by
      have := hT (j + 1) g (by simpa using hg)
      rwa [show i + (j + 1) = i + 1 + j by omega] at this
    cases ap with
    | prm vc cp p' a rest' =>
      simp only [Fl.mkB, Bool.and_eq_true, decide_eq_true_eq, beq_iff_eq] at h
      obtain ⟨⟨⟨⟨⟨htag, hfo⟩, hnu⟩, hv⟩, hfld⟩, hrest⟩ := h
      have hpu : p ≠ .uuid := neB_of hnu
      obtain ⟨k1, k2⟩ := ih fs rest' (i + 1) t T hrest hk hT' hu
      rw [body_cons htag]
      simp only [Fl.vals, Ap.enc, hv, k1, h0]
      have hw : (fillP p (f.fit ver (t.at i))).wid = 1 := by rw [fillP_wid]; exact ziP_one hfo hpu
      by_cases hh : f.hasV ver = true
      · rw [hh] at hfld
        simp only [Bool.not_true, Bool.false_or, Bool.and_eq_true] at hfld
        obtain ⟨hko, hpp⟩ := hfld
        have hpp := eqB_of hpp
        subst hpp
        have h11 : f.kind ≠ 11 := by cases p <;> simp [kindOk] at hko <;> omega
        have h10 : f.kind ≠ 10 := by cases p <;> simp [kindOk] at hko <;> omega
        obtain ⟨e1, e2⟩ := fill_enc (x := x) (t := t.at i) (part := fun y => joinP x (bodyP ver x f.sub 0 y) (unknownP f.sub y.u)) (pt := fun y => .mk 0 [] false (fitL ver f.sub 0 y) (fitU f.sub y.u)) (null := f.nullV ver (t.at i)) hfo hko FD.null_nul
        have ef : f.fit ver (t.at i) = fitV f.kind (fun y => .mk 0 [] false (fitL ver f.sub 0 y) (fitU f.sub y.u)) (f.nullV ver (t.at i)) (t.at i) := by rw [FD.fit_eq, if_neg h11]
        have ee : fE ver x f t i = valP x f.kind (fun y => joinP x (bodyP ver x f.sub 0 y) (unknownP f.sub y.u)) (f.nullV ver (t.at i)) (t.at i) := by
          unfold fE; rw [if_pos hh, FD.enc_eq']; unfold fieldP; rw [if_neg h11, if_neg (by simp [h10])]
        refine ⟨?_, ⟨_, _, rfl, hw, fun _ => ⟨by rw [ef]; exact e2, hpu⟩, k2⟩⟩
        rw [if_pos hh, ef, e1, ee]
      · refine ⟨?_, ⟨_, _, rfl, hw, fun hv2 => absurd (hv ▸ hv2) hh, k2⟩⟩
        rw [if_neg hh]; unfold fE; rw [if_neg hh]
    | uid vc a rest' =>
      simp only [Fl.mkB, Bool.and_eq_true, decide_eq_true_eq, beq_iff_eq] at h
      obtain ⟨⟨⟨⟨htag, hpu⟩, hv⟩, hfld⟩, hrest⟩ := h
      have hpu : p = .uuid := eqB_of hpu
      subst hpu
      obtain ⟨k1, k2⟩ := ih fs rest' (i + 1) t T hrest hk hT' hu
      rw [body_cons htag]
      simp only [Fl.vals, Ap.enc, hv, k1, h0]
      have hw : (fillP .uuid (f.fit ver (t.at i))).wid = 16 := by rw [fillP_wid]; rfl
      by_cases hh : f.hasV ver = true
      · rw [hh] at hfld
        simp only [Bool.not_true, Bool.false_or, decide_eq_true_eq] at hfld
        obtain ⟨e1, e2⟩ := fill_enc (p := .uuid) (kind := f.kind) (nul := true) (x := x) (t := t.at i) (part := fun y => joinP x (bodyP ver x f.sub 0 y) (unknownP f.sub y.u)) (pt := fun y => .mk 0 [] false (fitL ver f.sub 0 y) (fitU f.sub y.u)) (null := f.nullV ver (t.at i)) rfl (by simp [kindOk, hfld]) (fun _ => rfl)
        have ef : f.fit ver (t.at i) = fitV f.kind (fun y => .mk 0 [] false (fitL ver f.sub 0 y) (fitU f.sub y.u)) (f.nullV ver (t.at i)) (t.at i) := by rw [FD.fit_eq, if_neg (by omega)]
        have ee : fE ver x f t i = valP x f.kind (fun y => joinP x (bodyP ver x f.sub 0 y) (unknownP f.sub y.u)) (f.nullV ver (t.at i)) (t.at i) := by
          unfold fE; rw [if_pos hh, FD.enc_eq']; unfold fieldP; rw [if_neg (by omega), if_neg (by omega)]
        refine ⟨?_, ⟨_, _, rfl, hw, fun _ => by rw [ef]; exact e2, k2⟩⟩
        rw [if_pos hh, ef, e1, ee]
      · refine ⟨?_, ⟨_, _, rfl, hw, fun hv2 => absurd (hv ▸ hv2) hh, k2⟩⟩
        rw [if_neg hh]; unfold fE; rw [if_neg hh]
    | _ => simp [Fl.mkB] at h
  | lsp p bytes rest ih =>
    intro fds ap i t T h hk hT hu
    cases fds with
    | nil => cases ap <;> simp [Fl.mkB] at h
    | cons f fs =>
    have h0 := hT 0 f rfl
    rw [Nat.add_zero] at h0
    have hT' : ∀ j g, fs[j]? = some g → T.at (i + 1 + j) = g.fit ver (t.at (i + 1 + j)) := fun j g hg => by
      have := hT (j + 1) g (by simpa using hg)
      rwa [show i + (j + 1) = i + 1 + j by omega] at this
    cases ap with
    | lsp vc nul ln p' a rest' =>
      simp only [Fl.mkB, Bool.and_eq_true, decide_eq_true_eq, beq_iff_eq] at h
      obtain ⟨⟨⟨⟨⟨htag, h11⟩, hfo⟩, hv⟩, hfld⟩, hrest⟩ := h
      obtain ⟨k1, k2⟩ := ih fs rest' (i + 1) t T hrest hk hT' hu
      rw [body_cons htag]
      simp only [Fl.vals, Ap.enc, hv, k1, h0]
      have hw : (lstV (ziP p).length (fillP p) (f.fit ver (t.at i))).wid = 1 := lstV_wid _ _ _
      by_cases hh : f.hasV ver = true
      · rw [hh] at hfld
        simp only [Bool.not_true, Bool.false_or, Bool.and_eq_true, beq_iff_eq] at hfld
        obtain ⟨⟨⟨hn, hko⟩, hpp⟩, hnu⟩ := hfld
        have hpp := eqB_of hpp
        have hpu : p ≠ .uuid := neB_of hnu
        subst hpp
        obtain ⟨e1, e2⟩ := lst_enc (x := x) (nul := nul) (t := t.at i) (sz := (ziP p).length) (val := fillP p) (encg := encP p x) (Pg := FitP p) h11 htag hn fun y _ => fill_enc hfo hko (by simp)
        refine ⟨?_, ⟨_, _, rfl, hw, fun _ => ⟨?_, hpu⟩, k2⟩⟩
        · rw [if_pos hh]
          exact congrArg (· ++ (bodyP ver x fs (i + 1) t ++ tailP x t.u)) (e1.trans (by unfold fE; rw [if_pos hh]))
        · rw [ziP_one hfo hpu] at e2 ⊢; exact e2
      · refine ⟨?_, ⟨_, _, rfl, hw, fun hv2 => absurd (hv ▸ hv2) hh, k2⟩⟩
        rw [if_neg hh]; unfold fE; rw [if_neg hh]
    | _ => simp [Fl.mkB] at h
  | lss f0 bytes body rest ihb ih =>
    intro fds ap i t T h hk hT hu
    cases fds with
    | nil => cases ap <;> simp [Fl.mkB] at h
    | cons f fs =>
    have h0 := hT 0 f rfl
    rw [Nat.add_zero] at h0
    have hT' : ∀ j g, fs[j]? = some g → T.at (i + 1 + j) = g.fit ver (t.at (i + 1 + j)) := fun j g hg => by
      have := hT (j + 1) g (by simpa using hg)
      rwa [show i + (j + 1) = i + 1 + j by omega] at this
    cases ap with
    | lss vc nul ln sz body' rest' =>
      simp only [Fl.mkB, Bool.and_eq_true, decide_eq_true_eq, beq_iff_eq] at h
      obtain ⟨⟨⟨⟨htag, h11⟩, hv⟩, hfld⟩, hrest⟩ := h
      obtain ⟨k1, k2⟩ := ih fs rest' (i + 1) t T hrest hk hT' hu
      rw [body_cons htag]
      simp only [Fl.vals, Ap.enc, hv, k1, h0]
      have hw : (lstV body.z.length (fun y => GV.rcd (body.vals 0 y)) (f.fit ver (t.at i))).wid = 1 := lstV_wid _ _ _
      by_cases hh : f.hasV ver = true
      · rw [hh] at hfld
        simp only [Bool.not_true, Bool.false_or, Bool.and_eq_true, beq_iff_eq, decide_eq_true_eq] at hfld
        obtain ⟨⟨⟨⟨hn, hof⟩, hsz⟩, hpl⟩, hbody⟩ := hfld
        obtain ⟨e1, e2⟩ := lst_enc (x := x) (nul := nul) (t := t.at i) (sz := body.z.length) (val := fun y => GV.rcd (body.vals 0 y)) (encg := fun g => match g with | .rcd l => body'.enc ver x l | _ => []) (Pg := fun y => ∃ l, y = .rcd l ∧ body'.Fit ver l) h11 htag hn fun y hy => by
          rw [hof]
          have hky : y.kok := TR.kok_l (hk.at i) y hy
          have ev1 : fitV 10 (fun y => .mk 0 [] false (fitL ver f.sub 0 y) (fitU f.sub y.u)) false y = .mk 0 [] false (fitL ver f.sub 0 y) (fitU f.sub y.u) := rfl
          obtain ⟨q1, q2⟩ := ihb f.sub body' 0 y (.mk 0 [] false (fitL ver f.sub 0 y) (fitU f.sub y.u)) hbody hky (fun j g hg => by
            have := fitL_get ver y f.sub 0 j g hg
            show ((fitL ver f.sub 0 y)[0 + j]?).getD .zero = _
            rw [Nat.zero_add, this, Nat.zero_add]; rfl) (by show fitU f.sub y.u = _; exact fitU_plain hpl y.u)
          rw [ev1]
          refine ⟨?_, ⟨_, rfl, q2⟩⟩
          show body'.enc ver x _ = joinP x (bodyP ver x f.sub 0 y) (unknownP f.sub y.u)
          rw [q1, kok_body hpl]
        refine ⟨?_, ⟨_, _, rfl, hw, fun _ => by rw [← hsz]; exact e2, k2⟩⟩
        rw [if_pos hh]
        exact congrArg (· ++ (bodyP ver x fs (i + 1) t ++ tailP x t.u)) (e1.trans (by unfold fE; rw [if_pos hh]))
      · refine ⟨?_, ⟨_, _, rfl, hw, fun hv2 => absurd (hv ▸ hv2) hh, k2⟩⟩
        rw [if_neg hh]; unfold fE; rw [if_neg hh]
    | _ => simp [Fl.mkB] at h
def mkOk (fl : Fl) (A : ATop) (m : MD) (most : Nat) : Bool := FD.plainL m.fs && FD.fitBL m.fs && (List.range (most + 1)).all fun v => (A.x (v : Nat) == m.isFlex (v : Nat)) && fl.mkB (v : Nat) (m.isFlex (v : Nat)) m.fs A.ap
theorem top_mk {fl : Fl} {A : ATop} {m : MD} {most : Nat} (h : mkOk fl A m most = true) {ver : Int} (h0 : 0 ≤ ver) (h1 : ver ≤ most) {t : TR} (hk : t.kok) :
    A.ap.enc ver (A.x ver) (fl.vals 0 (fitT ver m.fs t)) = writeP m ver t ∧ A.ap.Fit ver (fl.vals 0 (fitT ver m.fs t)) := by
  simp only [mkOk, Bool.and_eq_true] at h
  obtain ⟨⟨hp, -⟩, h⟩ := h
  rw [List.all_eq_true] at h
  have hv := h ver.toNat (by rw [List.mem_range]; omega)
  rw [Int.toNat_of_nonneg h0] at hv
  simp only [Bool.and_eq_true, beq_iff_eq] at hv
  obtain ⟨hx, hb⟩ := hv
  have e : writeP m ver t = bodyP ver (m.isFlex ver) m.fs 0 t ++ tailP (m.isFlex ver) t.u := by
    unfold writeP partP
    rw [unknownP_plain hp]; rfl
  rw [e, hx]
  refine fl.mk_enc m.fs A.ap 0 t (fitT ver m.fs t) hb hk (fun j g hg => ?_) (fitU_plain hp t.u)
  have := fitL_get ver t m.fs 0 j g hg
  show ((fitL ver m.fs 0 t)[0 + j]?).getD .zero = _
  rw [Nat.zero_add, this, Nat.zero_add]; rfl
end Go.Msk

namespace Go.Msk
open Go.RowKit
set_option maxRecDepth 100000
def FillC (P : Program) (f : FuncId) (z : List Value) (vals : TR → List GV) : Prop :=
  ∀ (w : World) (B : Nat) (ver : Int) (T : TR) (ts : List Value), T.sml → T.kok → RepT (fun b => b ≠ B) w T ts → Blk w B (.int .i16 ver :: z) →
    Calls P f [.pointer (some ⟨B, 0, none⟩), .agg ts.toArray].toArray w fun e w' => e = .returned (.tuple #[]) ∧ ∃ css, Blk w' B (.int .i16 ver :: css.flatten) ∧ RepL [] w' (vals T) css ∧ Mod [B] w w'
section
variable {P : Program} {F : Nat → Nat}
attribute [local simp] gOk updo upd ev RK.val? isShift intBin Addr.add_mk args0 Value.cells undef
theorem Fl.fill_call (hm : P.follows .mixedOrders = true) {fl : Fl} {fat sx f : FuncId} (h : liftF P f = some (fl.genTop fat sx)) (hat : AtC P fat) (hok : fl.Ok P sx) : FillC P f fl.z (fl.vals 0) := by
  intro w B ver T ts hs hk hT hB
  unfold Fl.genTop at h
  refine call_of h hm (by simp only [List.length_cons, List.length_nil]; omega) ?_
  clear h
  have h5 := hT.five
  rw [wpC_seqs]
  simp only [wpL]
  rw [wpC_blk]
  refine goBox (v := .agg ts.toArray) (by simp) fun w1 hb1 hm1 => ?_
  have e1 : (Value.agg ts.toArray).cells.toList = ts := by simp
  rw [e1] at hb1
  refine wpR_done ?_
  try simp only [thenC]
  have l0 := hB.lt
  have l1 := hm1.size
  refine Fl.sound (E := ⟨true, fat, sx⟩) hat fl hok 0 1 _ 0 5 B w.heap.size T ts [B] [.int .i16 ver] [] _ w1 _ hs hk (by omega) (by omega) (by omega) ⟨by simp [FE.tr], fun _ => by simp, (fun e => by cases e), hb1, ?_, by simp, by omega, by simp; omega⟩ rfl (by simpa using hB.mod hm1 (by simp)) fun σ' w' css _ m2 r2 l2 b2 => ?_
  · exact hT.mod hm1 (by simp) fun b _ hb => by simpa using hb
  · simp only [postC, rvals, List.mapM_nil, Option.pure_def, tup]
    exact ⟨trivial, css, by simpa using b2, r2.weaken (by simp), hm1.nil.trans m2⟩
theorem Fl.make_call (hm : P.follows .mixedOrders = true) {fl : Fl} {fat sx f : FuncId} (h : liftF P f = some (fl.genMake fat sx)) (hat : AtC P fat) (hok : fl.Ok P sx) (hone : ∀ v ∈ fl.z, v.oneCell' = true) : MakeC P f (fun T => fl.vals 0 T) := by
  intro O w T ts hO hs hk hT
  unfold Fl.genMake at h
  refine call_of h hm (by simp only [List.length_cons, List.length_nil]; omega) ?_
  clear h
  have h5 := hT.five
  rw [wpC_seqs]
  simp only [List.cons_append, List.nil_append, wpL]
  rw [wpC_blk]
  refine goBox (v := .agg ts.toArray) (by simp) fun w1 hb1 hm1 => ?_
  have e1 : (Value.agg ts.toArray).cells.toList = ts := by simp
  rw [e1] at hb1
  have l1 := hb1.lt
  have s1 := hm1.size
  refine goAlloc fun w2 hb2 hm2 => ?_
  have l2 := hb2.lt
  have s2 := hm2.size
  refine wpR_done ?_
  try simp only [thenC]
  rw [wpC_blk]
  refine goAlloc fun w3 hb3 hm3 => ?_
  have l3 := hb3.lt
  have s3 := hm3.size
  refine wpR_done ?_
  try simp only [thenC]
  have hm03 : Mod [] w w3 := (hm1.trans hm2).trans hm3
  have hT3 : RepT (fun b => b ∉ w2.heap.size :: w1.heap.size :: O) w3 T ts := hT.mod hm03 (by simp) fun b hb hx => by
    simp only [List.mem_cons, not_or]; exact ⟨by omega, by omega, hx⟩
  rw [wpL_append]
  refine Fl.sound (E := ⟨false, fat, sx⟩) hat fl hok 0 0 _ 0 5 w2.heap.size w.heap.size T ts (w2.heap.size :: w1.heap.size :: O) [] [] _ w3 _ hs hk (by omega) (by omega) (by omega) ⟨by simp [FE.tr], (fun e => by cases e), fun _ => by simp, (hb1.mod hm2 (by simp)).mod hm3 (by simp), hT3, by simp, by omega, ?_⟩ rfl (by simpa using hb3) fun σ4 w4 css f4 m4 r4 l4 b4 => ?_
  · intro b hb
    simp only [List.mem_cons] at hb
    rcases hb with rfl | rfl | hb
    · omega
    · omega
    · have := hO b hb; omega
  have b4 : Blk w4 w2.heap.size css.flatten := by simpa using b4
  have hm04 : Mod [] w w4 := Mod.drop (b := w2.heap.size) (S := []) (hm03.nil.trans m4) (by omega)
  have b2 : Blk w4 w1.heap.size fl.z := (hb2.mod hm3 (by simp)).mod m4 (by simp; omega)
  have one4 : ∀ v ∈ css.flatten, v.oneCell' = true := (Rep.rcd r4).oneCell
  simp only [thenC, wpL]
  rw [wpC_blk]
  have hld : cellsAt w4 ⟨w2.heap.size, 0, none⟩ 0 fl.z.length = some css.flatten := cellsAt_of' b4.cells l4
  have e3 : σ4 3 = .pointer (some ⟨w2.heap.size, 0, none⟩) := by rw [f4 3 (by omega)]; simp
  refine go1 (v := .agg css.flatten.toArray) rfl (by simp only [RK.val?, ev, e3, hld, Option.map_some]) ?_
  refine goSt (b := w1.heap.size) (v := .agg css.flatten.toArray) (by
    simp only [ev, updo, upd]
    rw [if_neg (by omega), f4 2 (by omega)]; simp) (by simp) b2 (by simp [l4]) rfl (by simpa using one4) fun w5 hb5 hm5 => ?_
  have hb5 : Blk w5 w1.heap.size css.flatten := by simpa using hb5
  refine wpR_done ?_
  try simp only [thenC, wpL]
  have fin : ∀ σ' : Sl, σ' 2 = .pointer (some ⟨w1.heap.size, 0, none⟩) → wpC P .ret (postC [.cells 2 fl.z.length] fun e w' => ∃ css, e = Ending.returned (.agg (List.flatten css).toArray) ∧ RepL O w' (fl.vals 0 T) css ∧ Mod [] w w') σ' w5 := fun σ' h2 =>
    retN h2 hb5 l4 ⟨css, rfl, (r4.mod hm5 (by simp)).weaken fun x hx => by simp [hx], Mod.drop (b := w1.heap.size) (S := []) (hm04.nil.trans hm5) (by omega)⟩
  refine fin _ ?_
  · simp only [updo, upd]
    rw [if_neg (by omega), f4 2 (by omega)]; simp
theorem makeX_call (hm : P.follows .mixedOrders = true) {z : List Value} {setv fill app f : FuncId} {vals : TR → List GV} (h : liftF P f = some (makeCode (.int .i16 0 :: z) setv fill app)) (hset : liftF P setv = some setCode) (hfill : FillC P fill z vals) (hz : ∀ v ∈ z, v.oneCell' = true)
    {w : World} {ver : Int} {T : TR} {ts : List Value} {out : List UInt8} (hv : IntKind.i16.wrap ver = ver) (hs : T.sml) (hk : T.kok) (hT : RepT anyB w T ts)
    (happ : ∀ (w1 : World) (B : Nat) (css : List (List Value)), w.heap.size ≤ w1.heap.size → Blk w1 B (.int .i16 ver :: css.flatten) → RepL [] w1 (vals T) css → Calls P app [.pointer (some ⟨B, 0, none⟩), .slice none 0 0].toArray w1 fun e w' => ∃ v', e = .returned v' ∧ DRaw w' w.heap.size v' out ∧ Mod [] w1 w') :
    Calls P f [.int .i64 ver, .agg ts.toArray].toArray w fun e w' => ∃ v', e = .returned v' ∧ DRaw w' w.heap.size v' out ∧ Mod [] w w' := by
  unfold makeCode at h
  refine call_of h hm (by simp only [List.length_cons, List.length_nil]; omega) ?_
  clear h
  have h5 := hT.five
  rw [wpC_seqs]
  simp only [wpL]
  rw [wpC_blk]
  refine goBox (v := .agg ts.toArray) (by simp) fun w1 hb1 hm1 => ?_
  have e1 : (Value.agg ts.toArray).cells.toList = ts := by simp
  rw [e1] at hb1
  refine go1 rfl rfl (wpR_done ?_)
  try simp only [thenC]
  have l1 := hb1.lt
  have s1 := hm1.size
  rw [wpC_blk]
  refine go1 (v := .agg (.int .i16 0 :: z).toArray) rfl (by simp [fillL]) ?_
  refine goBox (v := .agg (.int .i16 0 :: z).toArray) (by simp) fun w2 hb2 hm2 => ?_
  have e2 : (Value.agg (.int .i16 0 :: z).toArray).cells.toList = .int .i16 0 :: z := by simp
  rw [e2] at hb2
  refine go1 (v := .pointer (some ⟨w1.heap.size, 0, none⟩)) rfl (by simp) (wpR_done ?_)
  try simp only [thenC]
  rw [wpC_blk]
  refine go1 (v := .pointer (some ⟨w1.heap.size, 0, none⟩)) rfl (by simp) ?_
  refine go1 (v := .int .i64 ver) rfl (by simp) ?_
  refine go1 (v := .int .i16 ver) rfl (by simp [hv]) ?_
  refine goCall rfl (vs := [.pointer (some ⟨w1.heap.size, 0, none⟩), .int .i16 ver]) (by simp) (set_call hm hset hb2) ?_
  rintro e w3 ⟨rfl, hb3, hm3⟩
  refine ⟨_, rfl, wpR_done ?_⟩
  try simp only [thenC]
  have l2 := hb2.lt
  have s2 := hm2.size
  have s3 := hm3.size
  have hb13 : Blk w3 w.heap.size ts := (hb1.mod hm2 (by simp)).mod hm3 (by simp; omega)
  have hm13 : Mod [] w1 w3 := Mod.drop (b := w1.heap.size) (S := []) (hm2.nil.trans hm3) (Nat.le_refl _)
  have hm03 : Mod [] w w3 := hm1.trans hm13
  have hT3 : RepT (fun b => b ≠ w1.heap.size) w3 T ts := hT.mod hm03 (by simp) fun b hb _ => by omega
  rw [wpC_blk]
  refine go1 (v := .pointer (some ⟨w1.heap.size, 0, none⟩)) rfl (by simp) ?_
  refine go1 (v := .agg ts.toArray) rfl (by simp [cellsAt_of' hb13.cells h5]) ?_
  refine goCall rfl (vs := [.pointer (some ⟨w1.heap.size, 0, none⟩), .agg ts.toArray]) (by simp) (hfill w3 w1.heap.size ver T ts hs hk hT3 hb3) ?_
  rintro e w4 ⟨rfl, css, hb4, hr4, hm4⟩
  refine ⟨_, rfl, wpR_done ?_⟩
  try simp only [thenC]
  have hm14 : Mod [] w1 w4 := Mod.drop (b := w1.heap.size) (S := []) (hm13.nil.trans hm4) (Nat.le_refl _)
  have s4 := hm14.size
  rw [wpC_blk]
  refine go1 (v := .pointer (some ⟨w1.heap.size, 0, none⟩)) rfl (by simp) ?_
  refine goCall rfl (vs := [.pointer (some ⟨w1.heap.size, 0, none⟩), .slice none 0 0]) (by simp) (happ w4 w1.heap.size css (by omega) hb4 hr4) ?_
  rintro e w5 ⟨v', rfl, hd, hm5⟩
  refine ⟨v', rfl, go1 (v := v') rfl (by simp) (wpR_done ?_)⟩
  try simp only [thenC, wpL]
  have fin : ∀ σ' : Sl, σ' 4 = v' → wpC P .ret (postC [.tmp 4] fun e w' => ∃ v', e = Ending.returned v' ∧ DRaw w' w.heap.size v' out ∧ Mod [] w w') σ' w5 := fun σ' h4 => ret1 (v := v') h4 ⟨v', rfl, hd, (hm1.trans hm14).trans hm5⟩
  exact fin _ (by simp)
end
end Go.Msk

namespace Go.Msk
open Go.RowKit
set_option maxRecDepth 100000
theorem TR.kokL_of : ∀ {l : List TR}, (∀ t ∈ l, t.kok) → TR.kokL l
  | [], _ => trivial
  | a :: l, h => ⟨h a (by simp), TR.kokL_of fun t ht => h t (by simp [ht])⟩
theorem fitU_kok {fs : List FD} (hp : FD.plainL fs = true) {u : List (Nat × List UInt8)} (h : ∀ p ∈ u, p.1 < 4294967296) : ∀ p ∈ fitU fs u, p.1 < 4294967296 := by
  rw [fitU_plain hp]
  obtain ⟨h1, -⟩ := unk_ok h
  intro p hp
  simp only [wholeU, List.mem_map] at hp
  obtain ⟨q, hq, rfl⟩ := hp
  exact h1.2 q hq
mutual
theorem FD.fit_kok (ver : Int) : ∀ (f : FD) (t : TR), f.plain = true → t.kok → (f.fit ver t).kok
  | .mk kind frm to null tag dfl of sub, t, h, hk => by
    simp only [FD.plain, Bool.and_eq_true, decide_eq_true_eq] at h
    have hv : ∀ k nl (x : TR), x.kok → (fitV k (fun y => .mk 0 [] false (fitL ver sub 0 y) (fitU sub y.u)) nl x).kok := by
      intro k nl x hx
      unfold fitV
      split
      · exact ⟨by simp, trivial⟩
      · split
        · exact ⟨fitU_kok h.2.2 (TR.kok_u hx), fitL_kok ver sub 0 x h.2.2 hx⟩
        · exact ⟨by simp, trivial⟩
    simp only [FD.fit]
    split
    · refine ⟨by simp, TR.kokL_of fun y hy => ?_⟩
      obtain ⟨x, hx, rfl⟩ := List.mem_map.1 hy
      exact hv _ _ x (TR.kok_l hk x (List.mem_of_mem_take hx))
    · exact hv _ _ t hk
theorem fitL_kok (ver : Int) : ∀ (l : List FD) (i : Nat) (t : TR), FD.plainL l = true → t.kok → TR.kokL (fitL ver l i t)
  | [], _, _, _, _ => trivial
  | f :: l, i, t, h, hk => by
    simp only [FD.plainL, Bool.and_eq_true] at h
    exact ⟨FD.fit_kok ver f (t.at i) h.1 (hk.at i), fitL_kok ver l (i + 1) t h.2 hk⟩
end
theorem fitT_kok {ver : Int} {fs : List FD} {t : TR} (h : FD.plainL fs = true) (hk : t.kok) : (fitT ver fs t).kok := ⟨fitU_kok h (TR.kok_u hk), fitL_kok ver fs 0 t h hk⟩
structure LibM (P : Program) (F : Nat → Nat) (has : Nat → Bool) : Prop where
  mixed : P.follows .mixedOrders = true
  iAt : liftF P (F iAt) = some (ir_iAt F)
  iSixteen : has iSixteen = true → liftF P (F iSixteen) = some (ir_iSixteen F)
  tSet : has tSet = true → liftF P (F tSet) = some (ir_tSet F)
def Fl.okB (F : Nat → Nat) (has : Nat → Bool) : Fl → Bool
  | .nil => true
  | .prm p rest => fOk p && (!p.eqB .uuid || has iSixteen) && rest.okB F has
  | .lsp p bytes rest => fOk p && !p.eqB .uuid && Nat.ble bytes 32768 && rest.okB F has
  | .lss _ bytes body rest => Nat.ble bytes 32768 && body.z.all (fun v => v.oneCell') && body.okB F has && rest.okB F has
  | .tags set => set == F tSet && has tSet
def Fl.Mks (P : Program) (F : Nat → Nat) : Fl → Prop
  | .nil => True
  | .prm _ rest => rest.Mks P F
  | .lsp _ _ rest => rest.Mks P F
  | .lss f _ body rest => liftF P f = some (body.genMake (F iAt) (F iSixteen)) ∧ body.Mks P F ∧ rest.Mks P F
  | .tags _ => True
theorem Fl.ok_of {P : Program} {F : Nat → Nat} {has : Nat → Bool} (L : LibM P F has) : ∀ fl : Fl, fl.okB F has = true → fl.Mks P F → fl.Ok P (F iSixteen) := by
  intro fl
  induction fl with
  | nil => intro _ _; trivial
  | prm p rest ih =>
    intro h hm
    simp only [Fl.okB, Bool.and_eq_true, Bool.or_eq_true] at h
    refine ⟨h.1.1, fun e => ?_, ih h.2 hm⟩
    subst e
    exact iSx_call L.mixed (L.iSixteen (h.1.2.resolve_left (by simp [PK.eqB])))
  | lsp p bytes rest ih =>
    intro h hm
    simp only [Fl.okB, Bool.and_eq_true] at h
    exact ⟨h.1.1.1, neB_of h.1.1.2, Nat.le_of_ble_eq_true h.1.2, ih h.2 hm⟩
  | lss f bytes body rest ihb ih =>
    intro h hm
    simp only [Fl.okB, Bool.and_eq_true] at h
    exact ⟨Nat.le_of_ble_eq_true h.1.1.1, Fl.make_call L.mixed hm.1 (iAt_call L.mixed L.iAt) (ihb h.1.2 hm.2.1) (fun v hv => List.all_eq_true.1 h.1.1.2 v hv), ih h.2 hm.2.2⟩
  | tags set =>
    intro h _
    simp only [Fl.okB, Bool.and_eq_true, beq_iff_eq] at h
    obtain ⟨rfl, h2⟩ := h
    exact set_of L.mixed (L.tSet h2)
structure MakeFs where
  mx : FuncId
  newp : FuncId
  maxv : FuncId
  dfl : FuncId
  setv : FuncId
  fill : FuncId
  ap : FuncId
  make : FuncId
  sm : FuncId
structure MakeOk (P : Program) (F : Nat → Nat) (has : Nat → Bool) (M : MakeFs) (fl : Fl) (A : ATop) (fx : List FX) (flex : Int) (most : Nat) : Prop where
  mx : liftF P M.mx = some (impMaxCode M.newp M.maxv)
  maxv : liftF P M.maxv = some (maxCode most)
  newp : liftF P M.newp = some (newCode (.int .i16 0 :: fl.z) M.dfl)
  dfl : ∃ l, liftF P M.dfl = some (dfGen l) ∧ dfOk l (fl.z.length + 1)
  setv : liftF P M.setv = some setCode
  fill : liftF P M.fill = some (fl.genTop (F iAt) (F iSixteen))
  ap : liftF P M.ap = some A.gen
  make : liftF P M.make = some (makeCode (.int .i16 0 :: fl.z) M.setv M.fill M.ap)
  sm : liftF P M.sm = some (FX.genMsg fx flex)
  fxs : FX.OkL P fx
  cnt : Nat.blt fx.length 1000 = true
  okF : fl.okB F has = true
  mks : fl.Mks P F
  one : fl.z.all (fun v => v.oneCell') = true
  okA : (A.ap.okB F has A.flex.isSome false && (A.flex.isNone || A.ap.okB F has A.flex.isSome true)) = true
  agree : mkOk fl A ⟨FX.fds fx, flex⟩ most = true
  most : most < 32768
section
variable {P : Program} {F : Nat → Nat} {has : Nat → Bool} {M : MakeFs} {fl : Fl} {A : ATop} {fx : List FX} {flex : Int} {most : Nat}
theorem MakeOk.plain (h : MakeOk P F has M fl A fx flex most) : FD.plainL (FX.fds fx) = true := by
  have := h.agree; simp only [mkOk, Bool.and_eq_true] at this; exact this.1.1
theorem MakeOk.makeOf (L : LibM P F has) (LA : LibA P F has) (h : MakeOk P F has M fl A fx flex most) : MakeOf P M.make ⟨FX.fds fx, flex⟩ most := by
  intro w ver t ts hk hlen h0 h1 ht
  have hcnt : (FX.fds fx).length < 1000 := by
    rw [FX.fds_length]
    exact Nat.lt_of_succ_le (Nat.le_of_ble_eq_true h.cnt)
  obtain ⟨henc, hfit⟩ := top_mk h.agree h0 h1 hk
  have hf := Fl.fill_call L.mixed h.fill (iAt_call L.mixed L.iAt) (Fl.ok_of L fl h.okF h.mks)
  refine (makeX_call (out := writeP ⟨FX.fds fx, flex⟩ ver t) L.mixed h.make h.setv hf (fun v hv => List.all_eq_true.1 h.one v hv) (i16_of h0 h1 h.most) (fitT_sml (ver := ver) (t := t) h.plain hcnt) (fitT_kok h.plain hk) ht fun w1 B css hs hb hr => ?_).mono ?_
  · have hlim : (writeP ⟨FX.fds fx, flex⟩ ver t).length ≤ lim := by omega
    have := ATop.call (T := A) L.mixed h.ap (ver := ver) (ATop.ok_all LA h.okA ver) (w0 := w1) (w := w1) (dv := .slice none 0 0) (l := []) hb.cells hr hfit (Mod.refl _ _) ⟨.inl ⟨rfl, rfl⟩⟩ (by rw [henc]; simpa using hlim)
    refine this.mono ?_
    rintro e w' ⟨v', rfl, hd, hm⟩
    rw [henc, List.nil_append] at hd
    exact ⟨v', rfl, hd.low hs, hm⟩
  · rintro e w' ⟨v', rfl, hd, hm⟩
    exact ⟨v', rfl, hd.slc.any, hm⟩
theorem make_msg (L : LibM P F has) (LA : LibA P F has) (FL : FLib P F) (h : MakeOk P F has M fl A fx flex most) {f zz z2 z3 : FuncId} (hf : liftF P f = some (makeLaw zz M.mx M.sm (F lVersion) (F sFit) (F lGiven) M.make (F sWrite) (F sSame))) (hz1 : liftF P zz = some (zz1Code z2)) (hz2 : liftF P z2 = some (zz2Code z3)) (hz3 : liftF P z3 = some zz3Code)
    (hv : liftF P (F lVersion) = some (ir_lVersion F)) (hs : liftF P (F sSame) = some (ir_sSame F)) (hg : liftF P (F lGiven) = some (ir_lGiven F)) {w : World} {n : Int} (hn : 0 ≤ n ∧ n < 256) {t : TR} {ts : List Value}
    (ht : RepT anyB w t ts) (hk : t.kok) (hlen : ∀ v, (writeP ⟨FX.fds fx, flex⟩ v t).length + 1000 ≤ lim) : Calls P f [.int .u8 n, .agg ts.toArray].toArray w fun e w' => e = .returned (.bool true) ∧ Mod [] w w' := by
  obtain ⟨l, e1, e2⟩ := h.dfl
  have hz : DfC P M.dfl (.int .i16 0 :: fl.z) (dfRes l (.int .i16 0 :: fl.z)) := df_call L.mixed e1 (by simpa using e2) rfl
  have hmost : (0 : Int) ≤ most ∧ (most : Int) < 32768 := ⟨by omega, by have := h.most; omega⟩
  have hcnt : (FX.fds fx).length < 1000 := by
    rw [FX.fds_length]
    exact Nat.lt_of_succ_le (Nat.le_of_ble_eq_true h.cnt)
  have hfb : FD.fitBL (FX.fds fx) = true := by
    have := h.agree; simp only [mkOk, Bool.and_eq_true] at this; exact this.1.2
  refine make_law L.mixed hf hmost (fun w t ts ht => zz1_call L.mixed hz1 hz2 hz3 ht) (fun w => impMax_call L.mixed h.mx h.newp hz h.maxv hmost) (fun w => msg_call L.mixed h.sm h.fxs) (fun w n hn => version_call L.mixed hv hn hmost) (fun w sv css ver t ts a b c => ?_) (fun v t w ts a => ?_)
    (fun v w ms t ts a b c d => writeC_plain FL.sl (m := ⟨FX.fds fx, flex⟩) (ver := v) h.plain hcnt w ms t ts a b c d) (h.makeOf L LA) (fun w v1 v2 l1 l2 a b c => same_call L.mixed hs a b c) hn ht hk hlen
  · refine (fit_plain FL h.plain hfb hcnt w.heap.size w sv css ver t ts (Nat.le_refl _) a b (c.mod (Mod.refl [] _) (by simp) fun _ hb _ => hb)).mono ?_
    rintro e w' ⟨cs', rfl, h1, h2⟩
    exact ⟨cs', rfl, h1.any, h2⟩
  · refine (given_call L.mixed hg _ (fitT_sml (ver := v) (t := t) h.plain hcnt) w.heap.size w ts (Nat.le_refl _) (a.mod (Mod.refl [] _) (by simp) fun _ hb _ => hb)).mono ?_
    rintro e w' ⟨cs', rfl, h1, h2⟩
    exact ⟨cs', rfl, h1.any, h2⟩
end
end Go.Msk

namespace Go.Msk
open Go.RowKit
section
variable {H : Type} {enc : TypeId × Value → H}
theorem drop_x {C : Checked} {os : Os} {f : FuncId} {a : Assume} {A S : World → Array Value → Prop} (h : ∃ (w : World) (tape : Tape) (i : Input), w.os = os ∧ (w.forCall tape i).Shaped C.prog ∧ i.vars = [] ∧ Input.okWide C.prog (w.forCall tape i) .any w.heap.size f i ∧
      ((A (w.forCall tape i).memory i.args ∧ True) ∧ S (w.forCall tape i).memory i.args) ∧ a.holds C.prog (lone (Frame.enter C.prog f i.args .normal) [] (w.forCall tape i))) :
    ∃ (w : World) (tape : Tape) (i : Input), w.os = os ∧ (w.forCall tape i).Shaped C.prog ∧ i.vars = [] ∧ Input.okWide C.prog (w.forCall tape i) .any w.heap.size f i ∧
      (A (w.forCall tape i).memory i.args ∧ S (w.forCall tape i).memory i.args) ∧ a.holds C.prog (lone (Frame.enter C.prog f i.args .normal) [] (w.forCall tape i)) := by
  obtain ⟨w, t, i, h1, h2, h3, h4, ⟨⟨h5, -⟩, h6⟩, h7⟩ := h
  exact ⟨w, t, i, h1, h2, h3, h4, ⟨h5, h6⟩, h7⟩
theorem returns_cond0 {a : Assume} {C : Checked} {os : Os} {f : FuncId} {fn : Func} {s : OpenSpec} {k : (H : Type) → List (DataW H) → Bool} (hk : s.cond = some k) {F : Stop.Interp} {apart fresh handsOn again : Bool}
    (own : ownKnob C.prog.godebug = none) (started : os.Started) (noInit : C.prog.inits.idxOf? f = none) (hfn : C.prog.funcs[f]? = some fn)
    (witness : ∃ (w : World) (tape : Tape) (i : Input), w.os = os ∧ (w.forCall tape i).Shaped C.prog ∧ i.vars = [] ∧ Input.okWide C.prog (w.forCall tape i) .any w.heap.size f i ∧
      (s.pre enc C.prog fn [] apart (w.forCall tape i).memory i.args ∧ sizedMet enc C.prog fn s apart (w.forCall tape i).memory i.args) ∧ a.holds C.prog (lone (Frame.enter C.prog f i.args .normal) [] (w.forCall tape i)))
    (contract : ∀ (W : World) (base : Nat) (args : Array Value) (ds gs : List (DataW H)) (before : List MemPlace),
      (∀ (j : Nat) t v, fn.params[j]? = some t → args[j]? = some v → Value.okWide C.prog W .any base t v) →
      DataW.Whole enc C.prog fn.params.toList s.vars apart W args.toList ds gs before → k H (ds ++ gs) = true →
      Calls C.prog f args W fun e W' => ∃ v, e = .returned v ∧ (s.at F).post enc C.prog fn apart fresh handsOn again W args v W') :
    ReturnsInHanded a C os f .any (fun w args => s.pre enc C.prog fn [] apart w args ∧ sizedMet enc C.prog fn s apart w args) ((s.at F).post enc C.prog fn apart fresh handsOn again) := by
  refine returnsInHanded_of_calls own started noInit witness ?_
  intro w tape i _ _ _ hok hpre _
  obtain ⟨_, _, _, fn', hfn', _, _, _, _, hval⟩ := hok
  have e : fn' = fn := Option.some.inj (hfn'.symm.trans hfn)
  subst e
  obtain ⟨hp, -⟩ := hpre
  obtain ⟨ds, gs, before, hw, -, hkk⟩ := (OpenSpec.pre_some hk [] apart _ _).1 hp
  have hw' := DataW.Whole.of_heap (w' := w.forCall tape i) (by rfl) hw
  refine (contract (w.forCall tape i) w.heap.size i.args ds gs before hval hw' hkk).mono fun e W' ⟨v, he, hp⟩ => ?_
  subst he
  exact ChangeSpec.post_blind hp
end
end Go.Msk

namespace Go.Msk
open Go.RowKit Go.Shelf Go.Proofs
set_option maxRecDepth 100000
def ltN (x y : Nat) : Bool := decide (x < y)
theorem swo_ltN : Go.Sort.SWO ltN where
  irrefl := fun x => by simp [ltN]
  trans := fun x y z => by simp only [ltN, decide_eq_true_eq]; omega
  ntrans := fun x y z => by simp only [ltN, decide_eq_false_iff_not]; omega
theorem sortWorld_ok {w : World} {B m : Nat} {cs : List Value} {dk : Array Nat} {os : Array Obj} (h : Blk w B cs) (hl : cs.length = dk.size) :
    Mod [B] w (Go.Sort.grow (Go.Sort.putRow u32v (Go.Sort.ahead w m) B 0 dk) os) ∧ Blk (Go.Sort.grow (Go.Sort.putRow u32v (Go.Sort.ahead w m) B 0 dk) os) B (dk.toList.map u32v) := by
  obtain ⟨T, fr, hb, hfr⟩ := h
  have hlt : B < w.heap.size := (Array.getElem?_eq_some_iff.1 hb).1
  have hsz : (w.heap.modify B (Go.Sort.onCells (Go.Sort.putCells u32v 0 dk))).size = w.heap.size := by simp
  have hget : ∀ k, k < w.heap.size → (Go.Sort.grow (Go.Sort.putRow u32v (Go.Sort.ahead w m) B 0 dk) os).heap[k]? = (w.heap.modify B (Go.Sort.onCells (Go.Sort.putCells u32v 0 dk)))[k]? := fun k hk => by
    show ((w.heap.modify B (Go.Sort.onCells (Go.Sort.putCells u32v 0 dk))) ++ os)[k]? = _
    rw [Array.getElem?_append_left (by omega)]
  refine ⟨⟨rfl, rfl, rfl, ?_, fun k hk hn => ?_⟩, T, fr, ?_, ?_⟩
  · show w.heap.size ≤ ((w.heap.modify B (Go.Sort.onCells (Go.Sort.putCells u32v 0 dk))) ++ os).size
    simp
  · rw [hget k hk, Array.getElem?_modify, if_neg (by simp only [List.mem_singleton] at hn; omega)]
  · rw [hget B hlt, Array.getElem?_modify, if_pos rfl, hb]
    simp only [Option.map_some, Go.Sort.onCells, Option.some.injEq, Obj.cells.injEq, and_true]
    apply Array.ext_getElem?
    intro k
    simp only [Go.Sort.putCells, Array.getElem?_mapIdx, List.getElem?_toArray, List.getElem?_map, Array.getElem?_toList, Nat.zero_add, Nat.zero_le, true_and, Nat.sub_zero]
    by_cases hk : k < dk.size
    · have e1 : cs[k]? = some cs[k] := List.getElem?_eq_getElem (by omega)
      have e2 : dk[k]? = some dk[k] := Array.getElem?_eq_getElem hk
      rw [e1, e2]
      simp only [Option.map_some, if_pos hk]
      rw [getElem!_pos dk k hk]
    · rw [List.getElem?_eq_none (by omega), Array.getElem?_eq_none (by omega)]
      rfl
  · simp only [List.length_map, Array.length_toList]
    rw [← hl]; exact hfr
section
variable {P : Program} {F : Nat → Nat}
theorem each1_call (hm : P.follows .mixedOrders = true) (h : liftF P (F tEach1) = some (ir_tEach1 F)) {w : World} {B Bs n : Nat} {G : Nat → Nat} (hs : w.cell? ⟨Bs, 0, none⟩ = some (.slice (some ⟨B, 0, none⟩) n n))
    (hc : ∀ t, t < n → w.cell? ⟨B, t, none⟩ = some (u32v (G t))) {i j : Nat} (hi : i < n) (hj : j < n) :
    Calls P (F tEach1) [.int .i64 i, .int .i64 j, .pointer (some ⟨Bs, 0, none⟩)].toArray w fun e w' => e = .returned (.bool (ltN (G i) (G j))) ∧ w' = w.drew := by
  unfold ir_tEach1 at h
  refine call_of h hm (by simp) ?_
  have a0 : args0 [.int .i64 i, .int .i64 j, .pointer (some ⟨Bs, 0, none⟩)] 0 = .int .i64 i := rfl
  have a1 : args0 [.int .i64 i, .int .i64 j, .pointer (some ⟨Bs, 0, none⟩)] 1 = .int .i64 j := rfl
  have a2 : args0 [.int .i64 i, .int .i64 j, .pointer (some ⟨Bs, 0, none⟩)] 2 = .pointer (some ⟨Bs, 0, none⟩) := rfl
  generalize args0 [.int .i64 i, .int .i64 j, .pointer (some ⟨Bs, 0, none⟩)] = σ at a0 a1 a2 ⊢
  rw [wpC_seq, wpC_blk]
  refine wpR_step (v := .bool false) rfl ?_
  refine wpR_done ?_
  rw [wpC_seq]
  show wpD P _ [] _ w.drew _
  have hs' : w.drew.cell? ⟨Bs, 0, none⟩ = some (.slice (some ⟨B, 0, none⟩) n n) := hs
  have hi' : w.drew.cell? ⟨B, i, none⟩ = some (u32v (G i)) := hc i hi
  have hj' : w.drew.cell? ⟨B, j, none⟩ = some (u32v (G j)) := hc j hj
  refine wpD_pure rfl ?_
  simp only [List.map_cons, List.map_nil, List.cons_append, List.nil_append]
  refine wpR_step (v := .slice (some ⟨B, 0, none⟩) n n) (by simp only [RK.val?, ev, updo, upd]; simp [a2, hs']) ?_
  refine wpR_step (v := .int .i64 i) (by simp only [RK.val?, ev, updo, upd]; simp [a0]) ?_
  refine wpR_step (v := .pointer (some ⟨B, i, none⟩)) (by
    simp only [RK.val?, ev, updo, upd, show (6 : Nat) ≠ 7 by decide, if_false, if_true]
    rw [if_pos (by omega)]; simp [Addr.add_mk]) ?_
  refine wpR_step (v := u32v (G i)) (by simp only [RK.val?, ev, updo, upd, if_true, hi']) ?_
  refine wpR_step (v := .slice (some ⟨B, 0, none⟩) n n) (by simp only [RK.val?, ev, updo, upd]; simp [a2, hs']) ?_
  refine wpR_step (v := .int .i64 j) (by simp only [RK.val?, ev, updo, upd]; simp [a1]) ?_
  refine wpR_step (v := .pointer (some ⟨B, j, none⟩)) (by
    simp only [RK.val?, ev, updo, upd, show (10 : Nat) ≠ 11 by decide, if_false, if_true]
    rw [if_pos (by omega)]; simp [Addr.add_mk]) ?_
  refine wpR_step (v := u32v (G j)) (by simp only [RK.val?, ev, updo, upd, if_true, hj']) ?_
  refine wpR_step (v := .bool (ltN (G i) (G j))) (by
    simp only [RK.val?, ev, updo, upd, show (9 : Nat) ≠ 13 by decide, show (9 : Nat) ≠ 12 by decide, show (9 : Nat) ≠ 11 by decide, show (9 : Nat) ≠ 10 by decide, if_false, if_true, u32v, isShift, decide_true, Bool.or_true, intBin, ltN]
    congr 2; exact decide_eq_decide.2 (by omega)) ?_
  refine wpR_step (v := .bool (ltN (G i) (G j))) (by simp only [RK.val?, ev, updo, upd, if_true]) ?_
  refine wpR_done ?_
  simp only [wpC, postC, rvals, List.mapM_cons, List.mapM_nil, RV.val, updo, upd, if_true, Option.bind_eq_bind, Option.bind_some, Option.pure_def, tup_one]
  exact ⟨trivial, trivial⟩
theorem sortC_of {ρ : Ren} (L : LaysGg.n6 P ρ) (hm : P.follows .mixedOrders = true) (hl : liftF P (F tEach1) = some (ir_tEach1 F)) (hf : ρ.f 6 = F sortSlice) {e : TypeId} {i ie : TypeInfo} (hi : P.info? (F tyU32s) = some i) (hd : i.desc = .slice e)
    (hpk : P.packed (F tyU32s) = false) (hie : P.info? e = some ie) (ke : Nat) (hke : ∀ w, (Extern.Rtype.kind e).run P w = .ok ke w) (hs1 : ie.size = 1) (hagg : ∀ w, (isAgg e).run P w = .ok false w) (hp : ie.hasPointers = false) (hb : ie.bytes = 4)
    (eg : ∀ args w, (callFunc (F tEach1) args).run P w = .ok (.enter (F tEach1) args) w) (f1 f2 f6 : Nat) (h1 : P.funcs.findIdx? (·.name == "internal/reflectlite" ++ ".Swapper$" ++ toString 1) = some f1) (h2 : P.funcs.findIdx? (·.name == "internal/reflectlite" ++ ".Swapper$" ++ toString 2) = some f2)
    (h6 : P.funcs.findIdx? (·.name == "internal/reflectlite" ++ ".Swapper$" ++ toString 6) = some f6) (gS : Bool) (hx : ∀ args W, (callFunc f6 args).run P W = ((Extern.ReflectliteSwapper.swap gS args).run P W).andThen fun v w' => .ok (.value v) w') :
    SortC P (F sortSlice) (F tEach1) (F tyU32s) := by
  intro w B Bs ks hB hBs hne hlen hk32
  rw [← hf]
  by_cases hn : 2 ≤ ks.length
  · have hK : Go.Lib.swapperK ks.toArray.size ie ke = 6 := by
      have c : (ks.toArray.size == 0) = false := by simp; intro h; rw [h] at hn; simp at hn
      have d : (ks.toArray.size == 1) = false := by simp; omega
      simp only [Go.Lib.swapperK, hp, hb, c, d, Bool.false_and, Bool.false_eq_true, if_false]
    have hH : Go.Sort.Holds u32v w B 0 ks.toArray := by
      intro j hj
      have hj' : j < ks.length := by simpa using hj
      refine ⟨?_, ?_⟩
      · rw [Nat.zero_add, hB.cell j, List.getElem?_map, List.getElem?_eq_getElem hj', getElem!_pos ks.toArray j hj]
        simp
      · obtain ⟨T, fr, hb, hfr⟩ := hB
        obtain ⟨lo, hi⟩ := fr
        simp only [World.frozen?, hb, Nat.zero_add]
        simp only [List.length_map] at hfr
        simp only [Bool.and_eq_false_iff, decide_eq_false_iff_not]
        omega
    have hless : LessReads P (F tEach1) #[.pointer (some ⟨Bs, 0, none⟩)] u32v ltN B 0 ks.toArray.size w := by
      intro m os dk hs a b ha hb
      have hs' : dk.size = ks.length := by simpa using hs
      obtain ⟨q1, q2⟩ := sortWorld_ok (w := w) (B := B) (m := m) (dk := dk) (os := os) hB (by simpa using hs'.symm)
      have q3 := hBs.mod q1 (by simpa using hne)
      refine (each1_call hm hl (w := sortWorld u32v w B 0 m dk os) (B := B) (Bs := Bs) (n := ks.length) (G := fun t => dk[t]!) (q3.cell 0) (fun t ht => ?_) (i := a) (j := b) (by simpa using ha) (by simpa using hb)).mono fun en w' hh => ⟨hh.1, 1, hh.2⟩
      have := q2.cell t
      rw [List.getElem?_map] at this
      have ht' : t < dk.size := by omega
      rw [show (sortWorld u32v w B 0 m dk os).cell? ⟨B, t, none⟩ = _ from this, getElem!_pos dk t ht']
      simp [Array.getElem?_eq_getElem ht']
    have hS := Any.sort_Slice_sorted L (F tyU32s) e i ie hi hd hpk hie ke hke hs1 hagg u32v (fun _ => rfl) ltN swo_ltN (F tEach1) #[.pointer (some ⟨Bs, 0, none⟩)] eg B 0 ks.length ks.toArray (by simpa using hn) (by simp; omega) f6 (by rw [hK]; exact h6) gS hx w hless hH hB.lt
    have hsz : ks.toArray.size = ks.length := by simp
    rw [hsz] at hS
    refine hS.mono ?_
    rintro en w' ⟨rfl, d', n, os, ⟨p1, -, p3⟩, hso, rfl⟩
    have hd' : d'.size = ks.length := by simpa using p1
    obtain ⟨q1, q2⟩ := sortWorld_ok (w := w) (B := B) (m := n) (dk := d') (os := os) hB (by simpa using hd'.symm)
    refine ⟨rfl, d'.toList, ?_, ?_, q2, q1⟩
    · have x1 : d'.extract 0 ks.length = d' := by rw [← hd']; exact Array.extract_size
      have x2 : ks.toArray.extract 0 ks.length = ks.toArray := by rw [← hsz]; exact Array.extract_size
      rw [x1, x2] at p3
      exact p3
    · rw [List.pairwise_iff_getElem]
      intro a b ha hb hab
      have ha' : a < d'.size := by simpa using ha
      have hb' : b < d'.size := by simpa using hb
      have := hso a b (Nat.zero_le _) hab (by omega)
      rw [getElem!_pos d' a ha', getElem!_pos d' b hb'] at this
      simp only [ltN, decide_eq_false_iff_not] at this
      simp only [Array.getElem_toList]
      omega
  · have hks : ks.length = 0 ∨ ks.length = 1 := by omega
    have hfn : ∃ f, P.funcs.findIdx? (·.name == "internal/reflectlite" ++ ".Swapper$" ++ toString (Go.Lib.swapperK ks.length ie ke)) = some f := by
      rcases hks with h | h
      · rw [h]; exact ⟨f1, h1⟩
      · rw [h]; exact ⟨f2, h2⟩
    obtain ⟨f0, hf0⟩ := hfn
    refine (Any.sort_Slice_tiny L (F tyU32s) e i ie hi hd hpk hie ke hke (some ⟨B, 0, none⟩) ks.length ks.length (by omega) f0 hf0 (.func (F tEach1)) #[] #[.pointer (some ⟨Bs, 0, none⟩)] w).mono ?_
    rintro en w' ⟨rfl, os, rfl⟩
    have hm' : Mod [] w (Go.Sort.grow w os) := ⟨rfl, rfl, rfl, by show w.heap.size ≤ (w.heap ++ os).size; simp, fun k hk _ => by show (w.heap ++ os)[k]? = _; rw [Array.getElem?_append_left hk]⟩
    refine ⟨rfl, ks, .refl _, ?_, hB.mod hm' (by simp), hm'.nil⟩
    match ks, hks with
    | [], _ => exact .nil
    | [x], _ => simp
end
end Go.Msk
