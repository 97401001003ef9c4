/- A small language of resolved operations, and what the generic and the generated functions do in it (part 15). -/
import Derived.Test.YtfoljfjkifiboaaFn

namespace Go.Msk
open Go.RowKit
set_option maxRecDepth 100000
def Fl.vals : Fl → Nat → TR → List GV
  | .nil, _, _ => []
  | .prm p rest, i, T => fillP p (T.at i) :: rest.vals (i + 1) T
  | .lsp p _ rest, i, T => lstV (ziP p).length (fillP p) (T.at i) :: rest.vals (i + 1) T
  | .lss _ _ body rest, i, T => lstV body.z.length (fun y => .rcd (body.vals 0 y)) (T.at i) :: rest.vals (i + 1) T
  | .tags _, _, T => [.tag (setU T.u)]
theorem fillP_wid (p : PK) (x : TR) : (fillP p x).wid = (ziP p).length := by
  cases p <;> first | rfl | (show (uuidP x.s).length = _; simp [uuidP, ziP, u8s_length]; omega)
theorem lstV_wid (sz : Nat) (val : TR → GV) (x : TR) : (lstV sz val x).wid = 1 := by unfold lstV; split <;> rfl
theorem Fl.wids : ∀ (fl : Fl) (i : Nat) (T : TR), GV.wids (fl.vals i T) = fl.z.length
  | .nil, _, _ => rfl
  | .prm p rest, i, T => by simp only [Fl.vals, Fl.z, Fl.zs, GV.wids, List.flatten_cons, List.length_append, fillP_wid]; rw [Fl.wids rest (i + 1) T]
  | .lsp p _ rest, i, T => by simp only [Fl.vals, Fl.z, Fl.zs, GV.wids, List.flatten_cons, List.length_append, lstV_wid, List.length_cons, List.length_nil]; rw [Fl.wids rest (i + 1) T]
  | .lss _ _ _ rest, i, T => by simp only [Fl.vals, Fl.z, Fl.zs, GV.wids, List.flatten_cons, List.length_append, lstV_wid, List.length_cons, List.length_nil]; rw [Fl.wids rest (i + 1) T]
  | .tags _, _, _ => rfl
def Fl.Ok (P : Program) (sx : FuncId) : Fl → Prop
  | .nil => True
  | .prm p rest => fOk p = true ∧ (p = .uuid → SxC P sx) ∧ rest.Ok P sx
  | .lsp p bytes rest => fOk p = true ∧ p ≠ .uuid ∧ bytes ≤ 32768 ∧ rest.Ok P sx
  | .lss f bytes body rest => bytes ≤ 32768 ∧ MakeC P f (fun T => body.vals 0 T) ∧ rest.Ok P sx
  | .tags set => SetC P set
section
variable {P : Program} {F : Nat → Nat}
attribute [local simp] gOk updo upd ev RK.val? isShift intBin Addr.add_mk args0 Value.cells undef
theorem prm_fill {E : FE} (hat : AtC P E.fat) {p : PK} (hsx : p = .uuid → SxC P E.sx) (hfp : fOk p = true) {i off t B tb : Nat} {T : TR} {ts : List Value} {O : List Nat} {pre post : List Value} {σ : Sl} {w : World} {Q : Exit → Sl → World → Prop}
    (ht : 3 < t) (h : FSt E σ w tb B T ts O) (hpo : pre.length = off) (hb : Blk w B (pre ++ (ziP p ++ post)))
    (hQ : ∀ σ' w' cs, (∀ s, s < 4 → σ' s = σ s) → Mod [B] w w' → Rep O w' (fillP p (T.at i)) cs → cs.length = (ziP p).length → Blk w' B (pre ++ (cs ++ post)) → Q .normal σ' w') :
    wpC P (.blk (E.aOps t ++ (E.atO (t + E.k) i ++ (⟨some (t + E.k + 2), .fld (.tmp (t + E.k + 1)) (fldOf p) none, none⟩ :: (cvR E.sx p (t + E.k + 2) ++ E.stO t (t + E.k + 3 + cvN p) off (ziP p).length (t + E.k + 2 + cvN p)))))) Q σ w := by
  have htr := E.tr_lt
  rw [wpC_blk]
  refine aOps_wp fun σ1 f1 p1 => ?_
  have h1 : FSt E σ1 w tb B T ts O := h.move (fun s hs => f1 s (by omega)) (Mod.refl _ _)
  refine atO_wp hat h1.tr h1.hb h1.hT fun σ2 w2 cs f2 e2 r2 m2 => ?_
  obtain ⟨rv, hrv, hraw⟩ := Raw.of r2 p
  refine go1 (v := rv) rfl (by simp only [RK.val?, ev, e2]; simpa using hrv) ?_
  refine cvR_wp hsx hfp (ok := fun b => b ∉ O) (x := T.at i) (by simpa using hraw) fun σ3 w3 f3 hv3 m3 => ?_
  have fr : ∀ s, s < t + E.k → σ3 s = σ1 s := fun s hs => by
    rw [f3 s (by omega)]; simp only [updo, upd]; rw [if_neg (by omega)]; exact f2 s hs
  have hm : Mod [] w w3 := m2.trans m3
  have hfin : ∃ cs, (fillV p (T.at i)).cells.toList = cs ∧ cs.length = (ziP p).length ∧ (∀ (O : List Nat) (w : World), Rep O w (fillP p (T.at i)) cs) := by
    by_cases hu : p = .uuid
    · subst hu
      exact ⟨u8s (uuidP (T.at i).s), by simp [fillV, Value.cells], by rw [u8s_length]; simp [uuidP, ziP, u8s_length]; omega, fun O w => .arr⟩
    · obtain ⟨q1, q2, q3⟩ := fillV_one hfp hu (T.at i)
      exact ⟨[fillV p (T.at i)], by rw [q2], by rw [ziP_one hfp hu]; rfl, fun O w => by rw [q3]; exact .num q1⟩
  obtain ⟨cs', hc1, hc2, hc3⟩ := hfin
  have hsz : (fillV p (T.at i)).cells.size = (ziP p).length := by rw [← hc2, ← hc1]; simp
  refine stO_wp (B := B) (x := fillV p (T.at i)) (fun e => ?_) (fun e => ?_) hv3 (by omega) (by omega) (hb.mod hm (by simp)) hsz (fun y hy => ?_) (by simp; omega) fun σ4 w4 f4 hb4 m4 => ?_
  · have hk2 : E.k = 1 := by unfold FE.k; rw [e]; rfl
    rw [fr t (by omega), p1 e]; exact h.hp e
  · rw [fr 3 (by omega), f1 3 (by omega)]; exact h.h3 e
  · rw [hc1] at hy; exact (hc3 O w).oneCell y hy
  rw [hc1, splice_mid hpo hc2] at hb4
  exact hQ σ4 w4 cs' (fun s hs => by rw [f4 s (by omega), fr s (by omega), f1 s (by omega)]) (hm.nil.trans m4) (hc3 O w4) hc2 hb4
theorem appS_ok {E : FE} {f : FuncId} {body : Fl} {c xv off bytes : Nat} (hmk : MakeC P f (fun T => body.vals 0 T)) (hc : 3 < c) (hxc : xv < c) : BodyOk P E c xv off body.z.length (appS E c xv off bytes f body.z) (fun y => .rcd (body.vals 0 y)) :=
  fun _ _ _ _ _ _ _ _ _ _ _ x _ _ _ h1 h2 h3 h4 h5 h6 h7 h8 h9 h10 h11 hQ => appS_wp hmk (Fl.wids body 0 x) h1 h2 hc hxc h3 h4 h5 h6 h7 h8 h9 h10 h11 hQ
theorem appP_ok {E : FE} {p : PK} {c xv off bytes : Nat} (hfp : fOk p = true) (hfu : p ≠ .uuid) (hc : 3 < c) (hxc : xv < c) : BodyOk P E c xv off (ziP p).length (appP E c xv off bytes p) (fillP p) := by
  rw [ziP_one hfp hfu]
  exact fun _ _ _ _ _ _ _ _ _ _ _ _ _ _ _ _ _ h3 h4 h5 h6 h7 h8 h9 h10 h11 hQ => appP_wp hfp hfu hc hxc h3 h4 h5 h6 h7 h8 h9 h10 h11 hQ
theorem Fl.sound {E : FE} (hat : AtC P E.fat) : ∀ (fl : Fl), fl.Ok P E.sx → ∀ (i off t nb xv B tb : Nat) (T : TR) (ts : List Value) (O : List Nat) (pre post : List Value) (σ : Sl) (w : World) (Q : Exit → Sl → World → Prop), T.sml → T.kok → 3 < t → 3 < xv → xv + 2 * fl.loops ≤ t + 1 → FSt E σ w tb B T ts O → pre.length = off →
    Blk w B (pre ++ (fl.z ++ post)) → (∀ σ' w' css, (∀ s, s < 4 → σ' s = σ s) → Mod [B] w w' → RepL O w' (fl.vals i T) css → css.flatten.length = fl.z.length → Blk w' B (pre ++ (css.flatten ++ post)) → Q .normal σ' w') → wpL P (fl.gen E i off t nb xv) Q σ w := by
  intro fl
  induction fl with
  | nil =>
    intro _ i off t nb xv B tb T ts O pre post σ w Q _ _ _ _ _ _ _ hb hQ
    exact hQ σ w [] (fun _ _ => rfl) (Mod.refl _ _) .nil rfl hb
  | prm p rest ih =>
    rintro ⟨hfp, hsx, hrest⟩ i off t nb xv B tb T ts O pre post σ w Q hs hk ht hxv hlp h hpo hb hQ
    simp only [Fl.loops] at hlp
    simp only [Fl.gen, wpL]
    simp only [Fl.z, Fl.zs, List.flatten_cons, List.append_assoc] at hb
    refine prm_fill hat hsx hfp ht h hpo hb fun σ1 w1 cs f1 m1 r1 l1 b1 => ?_
    simp only [thenC]
    refine ih hrest (i + 1) (off + (ziP p).length) _ nb xv B tb T ts O (pre ++ cs) post σ1 w1 Q hs hk (by omega) hxv (by omega) (h.move f1 m1) (by simp [hpo, l1]) (by simpa [Fl.z, List.append_assoc] using b1) fun σ2 w2 css f2 m2 r2 l2 b2 => ?_
    exact hQ σ2 w2 (cs :: css) (fun s hs => (f2 s hs).trans (f1 s hs)) (m1.trans m2) (.cons (r1.mod m2 (by simp [h.bo])) r2) (by simp [Fl.z, Fl.zs, l1, l2]) (by simpa [List.append_assoc] using b2)
  | lsp p bytes rest ih =>
    rintro ⟨hfp, hfu, hby, hrest⟩ i off t nb xv B tb T ts O pre post σ w Q hs hk ht hxv hlp h hpo hb hQ
    simp only [Fl.loops] at hlp
    simp only [Fl.gen, wpL]
    simp only [Fl.z, Fl.zs, List.flatten_cons, List.cons_append, List.nil_append] at hb
    refine lst_fill hat (appP_ok hfp hfu (by omega) (by omega)) hby hs hk hxv (by omega) (by omega) h hpo hb fun σ1 w1 v f1 m1 r1 b1 => ?_
    simp only [thenC]
    refine ih hrest (i + 1) (off + 1) _ (nb + 2) (xv + 2) B tb T ts O (pre ++ [v]) post σ1 w1 Q hs hk (by omega) (by omega) (by omega) (h.move f1 m1) (by simp [hpo]) (by simpa [Fl.z, List.append_assoc] using b1) fun σ2 w2 css f2 m2 r2 l2 b2 => ?_
    exact hQ σ2 w2 ([v] :: css) (fun s hs => (f2 s hs).trans (f1 s hs)) (m1.trans m2) (.cons (r1.mod m2 (by simp [h.bo])) r2) (by simp [Fl.z, Fl.zs, l2]) (by simpa [List.append_assoc] using b2)
  | lss f bytes body rest ihb ih =>
    rintro ⟨hby, hmk, hrest⟩ i off t nb xv B tb T ts O pre post σ w Q hs hk ht hxv hlp h hpo hb hQ
    simp only [Fl.loops] at hlp
    simp only [Fl.gen, wpL]
    simp only [Fl.z, Fl.zs, List.flatten_cons, List.cons_append, List.nil_append] at hb
    refine lst_fill hat (appS_ok hmk (by omega) (by omega)) hby hs hk hxv (by omega) (by omega) h hpo hb fun σ1 w1 v f1 m1 r1 b1 => ?_
    simp only [thenC]
    refine ih hrest (i + 1) (off + 1) _ (nb + 2) (xv + 2) B tb T ts O (pre ++ [v]) post σ1 w1 Q hs hk (by omega) (by omega) (by omega) (h.move f1 m1) (by simp [hpo]) (by simpa [Fl.z, List.append_assoc] using b1) fun σ2 w2 css f2 m2 r2 l2 b2 => ?_
    exact hQ σ2 w2 ([v] :: css) (fun s hs => (f2 s hs).trans (f1 s hs)) (m1.trans m2) (.cons (r1.mod m2 (by simp [h.bo])) r2) (by simp [Fl.z, Fl.zs, l2]) (by simpa [List.append_assoc] using b2)
  | tags set =>
    intro hset i off t nb xv B tb T ts O pre post σ w Q hs hk ht hxv hlp h hpo hb hQ
    simp only [Fl.loops] at hlp
    simp only [Fl.gen, wpL]
    refine tags_fill hset hs hk hxv (by omega) (by omega) h hpo (by simpa [Fl.z, Fl.zs] using hb) fun σ1 w1 v f1 m1 r1 b1 => ?_
    simp only [thenC, wpL]
    exact hQ σ1 w1 [[v]] f1 m1 (.cons r1 .nil) rfl (by simpa using b1)
end
end Go.Msk

namespace Go.Msk
open Go.RowKit
set_option maxRecDepth 100000
theorem fill_enc {p : PK} {kind : Int} {nul null x : Bool} {part : TR → List UInt8} {pt : TR → TR} {t : TR} (hp : fOk p = true) (hk : kindOk kind nul p = true) (hn : null = true → nul = true) :
    encP p x (fillP p (fitV kind pt null t)) = valP x kind part null t ∧ FitP p (fillP p (fitV kind pt null t)) := by
  have hw := wholeP_le t.s
  cases p <;> simp only [fOk, Bool.false_eq_true] at hp
  case bool =>
    simp only [kindOk, decide_eq_true_eq] at hk
    subst hk
    have h2 : t.n % 2 = 0 ∨ t.n % 2 = 1 := by omega
    refine ⟨?_, ⟨_, rfl⟩⟩
    have e : fillP .bool (fitV 0 pt null t) = .num (.bool (decide (t.n % 2 = 1))) := rfl
    rw [e]
    rcases h2 with h2 | h2 <;> simp [valP, encP, h2]
  case i8 => simp only [kindOk, decide_eq_true_eq] at hk; subst hk; exact ⟨beI_mod 1 _ _ (by rw [show (256 : Int) ^ 1 = 256 by decide]; exact wrap_mod_i8 t.n), ⟨_, rfl⟩⟩
  case i16 => simp only [kindOk, decide_eq_true_eq] at hk; subst hk; exact ⟨beI_mod 2 _ _ (by rw [show (256 : Int) ^ 2 = 65536 by decide]; exact wrap_mod_i16 t.n), ⟨_, rfl⟩⟩
  case i32 => simp only [kindOk, decide_eq_true_eq] at hk; subst hk; exact ⟨beI_mod 4 _ _ (by rw [show (256 : Int) ^ 4 = 4294967296 by decide]; exact wrap_mod_i32 t.n), ⟨_, rfl⟩⟩
  case i64 => simp only [kindOk, decide_eq_true_eq] at hk; subst hk; exact ⟨rfl, ⟨_, rfl⟩⟩
  case u16 =>
    simp only [kindOk, decide_eq_true_eq] at hk; subst hk
    have hwr : IntKind.u16.wrap t.n = t.n % 65536 := by simp only [IntKind.wrap, IntKind.bits, IntKind.signed]; simp
    refine ⟨beI_mod 2 _ _ ?_, ⟨_, rfl, ?_, ?_⟩⟩
    · show IntKind.u16.wrap t.n % _ = _
      rw [show (256 : Int) ^ 2 = 65536 by decide, hwr]; omega
    · show 0 ≤ IntKind.u16.wrap t.n
      rw [hwr]; omega
    · show IntKind.u16.wrap t.n < 65536
      rw [hwr]; omega
  case uuid => simp only [kindOk, decide_eq_true_eq] at hk; subst hk; exact ⟨rfl, ⟨_, rfl, by simp [uuidP, fitV, TR.s]; omega⟩⟩
  case str =>
    simp only [kindOk, Bool.and_eq_true, decide_eq_true_eq, Bool.not_eq_true'] at hk
    obtain ⟨rfl, hnul⟩ := hk
    have hnull : null = false := by cases null <;> simp_all
    subst hnull
    have e : valP x 8 part false t = if x then uvE ((wholeP t.s).length + 1) ++ wholeP t.s else beI 2 (wholeP t.s).length ++ wholeP t.s := by
      simp [valP, countedP]; cases x <;> simp
    rw [e]
    exact ⟨rfl, ⟨wholeP t.s, rfl, by omega⟩⟩
theorem setU_ris : ∀ (u m : List (Nat × List UInt8)), u.Pairwise (fun a b => a.1 < b.1) → (∀ p ∈ m, ∀ q ∈ u, p.1 < q.1) → u.foldl (fun m p => putTag m p.1 p.2) m = m ++ u
  | [], m, _, _ => by simp
  | (k, b) :: u, m, h, hm => by
    simp only [List.foldl_cons]
    rw [putTag_new fun p hp => hm p hp (k, b) (by simp), setU_ris u _ (List.pairwise_cons.1 h).2 fun p hp q hq => ?_]
    · simp
    · rcases List.mem_append.1 hp with hp | hp
      · exact hm p hp q (by simp [hq])
      · simp only [List.mem_singleton] at hp; subst hp
        exact (List.pairwise_cons.1 h).1 q hq
theorem fitU_plain {fs : List FD} (h : FD.plainL fs = true) (u : List (Nat × List UInt8)) : fitU fs u = wholeU (unk u) := by unfold fitU wholeU; rw [unknownP_plain h]
theorem tags_enc {u : List (Nat × List UInt8)} (h : ∀ p ∈ u, p.1 < 4294967296) : uvE (setU (wholeU (unk u))).length ++ tagsR (sortT (setU (wholeU (unk u)))) = tailP true u ∧ (setU (wholeU (unk u))).length ≤ 2147483647 ∧ ∀ p ∈ setU (wholeU (unk u)), p.2.length ≤ 2147483647 := by
  obtain ⟨h1, h2⟩ := unk_ok h
  have hs : (wholeU (unk u)).Pairwise (fun a b => a.1 < b.1) := by
    unfold wholeU; rw [List.pairwise_map]; exact h1.1
  have e : setU (wholeU (unk u)) = wholeU (unk u) := by unfold setU; rw [setU_ris _ [] hs (by simp)]; simp
  rw [e]
  refine ⟨?_, by simp [wholeU]; omega, fun p hp => ?_⟩
  · rw [sortT_ris hs]
    simp only [tailP, if_true]
    have : tagsR (wholeU (unk u)) = tagsP (unk u) := by simp [tagsR, tagsP, wholeU, List.flatMap_map]
    rw [this]
    simp [wholeU]
  · simp only [wholeU, List.mem_map] at hp
    obtain ⟨q, -, rfl⟩ := hp
    have := wholeP_le q.2
    show (wholeP q.2).length ≤ _
    omega
def Fl.tl : Fl → Bool
  | .nil => false
  | .prm _ rest => rest.tl
  | .lsp _ _ rest => rest.tl
  | .lss _ _ _ rest => rest.tl
  | .tags _ => true
def tlP (b x : Bool) (u : List (Nat × List UInt8)) : List UInt8 := if b then tailP x u else []
def Fl.mkB (ver : Int) (x : Bool) : Fl → List FD → Ap → Bool
  | .nil, fds, ap => match fds, ap with
    | [], .nil => true
    | _, _ => false
  | .tags _, fds, ap => match fds, ap with
    | [], .tags _ _ _ => true
    | _, _ => false
  | .prm p rest, fds, ap => match fds, ap with
    | f :: fs, .prm vc _ p' _ rest' => decide (f.tag < 0) && fOk p && !p.eqB .uuid && (vc.holds ver == f.hasV ver) && (!f.hasV ver || (kindOk f.kind (f.nulB ver) p && p.eqB p')) && rest.mkB ver x fs rest'
    | f :: fs, .uid vc _ rest' => decide (f.tag < 0) && p.eqB .uuid && (vc.holds ver == f.hasV ver) && (!f.hasV ver || decide (f.kind = 7)) && rest.mkB ver x fs rest'
    | _, _ => false
  | .lsp p _ rest, fds, ap => match fds, ap with
    | f :: fs, .lsp vc nul _ p' _ rest' => decide (f.tag < 0) && decide (f.kind = 11) && fOk p && (vc.holds ver == f.hasV ver) && (!f.hasV ver || ((!f.nulB ver || nul) && kindOk f.of false p && p.eqB p' && !p.eqB .uuid)) && rest.mkB ver x fs rest'
    | _, _ => false
  | .lss _ _ body rest, fds, ap => match fds, ap with
    | f :: fs, .lss vc nul _ sz body' rest' => decide (f.tag < 0) && decide (f.kind = 11) && (vc.holds ver == f.hasV ver) && (!f.hasV ver || ((!f.nulB ver || nul) && decide (f.of = 10) && decide (body.z.length = sz) && FD.plainL f.sub && (!x || body.tl) && body.mkB ver x f.sub body')) && rest.mkB ver x fs rest'
    | _, _ => false
theorem FD.fit_eq (ver : Int) (f : FD) (t : TR) : f.fit ver t = if f.kind = 11 then .mk 0 [] (f.nullV ver t || (decide (f.tag ≥ 0) && decide (t.l.length = 0))) ((t.l.take 32767).map (fitV f.of (fun y => .mk 0 [] false (fitL ver f.sub 0 y) (fitU f.sub y.u)) false)) []
    else fitV f.kind (fun y => .mk 0 [] false (fitL ver f.sub 0 y) (fitU f.sub y.u)) (f.nullV ver t) t := by
  obtain ⟨k, a, b, c, tag, d, e, sub⟩ := f
  rw [FD.fit]
  rfl
theorem FD.null_nul {f : FD} {ver : Int} {t : TR} (h : f.nullV ver t = true) : f.nulB ver = true := by
  simp only [FD.nullV, FD.nulB, Bool.and_eq_true] at h ⊢
  exact h.2
theorem TR.l_mk (n : Int) (s : List UInt8) (b : Bool) (l : List TR) (u : List (Nat × List UInt8)) : (TR.mk n s b l u).l = l := rfl
theorem TR.null_mk (n : Int) (s : List UInt8) (b : Bool) (l : List TR) (u : List (Nat × List UInt8)) : (TR.mk n s b l u).null = b := rfl
theorem lst_enc {ver : Int} {x nul : Bool} {f : FD} {t : TR} {sz : Nat} {val : TR → GV} {encg : GV → List UInt8} {Pg : GV → Prop} (h11 : f.kind = 11) (htag : f.tag < 0) (hn : f.nulB ver = true → nul = true)
    (he : ∀ y ∈ t.l, encg (val (fitV f.of (fun y => .mk 0 [] false (fitL ver f.sub 0 y) (fitU f.sub y.u)) false y)) = valP x f.of (fun y => joinP x (bodyP ver x f.sub 0 y) (unknownP f.sub y.u)) false y ∧ Pg (val (fitV f.of (fun y => .mk 0 [] false (fitL ver f.sub 0 y) (fitU f.sub y.u)) false y))) :
    (match lstV sz val (f.fit ver t) with | .lst isnil _ es => encLen nul x isnil es.length ++ es.flatMap encg | _ => []) = f.enc ver x t ∧ FitL sz Pg (lstV sz val (f.fit ver t)) := by
  have ht : decide (f.tag ≥ 0) = false := by simp; omega
  rw [FD.fit_eq, if_pos h11, ht, FD.enc_eq']
  unfold fieldP
  rw [if_pos h11]
  simp only [Bool.false_and, Bool.or_false, lstV, TR.null_mk, TR.l_mk]
  cases hnv : f.nullV ver t with
  | true =>
    have := FD.null_nul hnv
    simp only [if_true]
    refine ⟨?_, ⟨true, sz, [], rfl, by simp, by simp, by simp⟩⟩
    rw [hn this]
    cases x <;> simp [encLen, countedP]
  | false =>
    simp only [Bool.false_eq_true, if_false]
    have hl := take_le t.l
    refine ⟨?_, ⟨false, sz, _, rfl, fun _ => rfl, by simp; omega, fun g hg => ?_⟩⟩
    · have e1 : ∀ (l : List TR), (∀ y ∈ l, y ∈ t.l) → ((l.map (fitV f.of (fun y => .mk 0 [] false (fitL ver f.sub 0 y) (fitU f.sub y.u)) false)).map val).flatMap encg = l.flatMap (valP x f.of (fun y => joinP x (bodyP ver x f.sub 0 y) (unknownP f.sub y.u)) false) := by
        intro l
        induction l with
        | nil => intro _; rfl
        | cons a l ih =>
          intro hm
          simp only [List.map_cons, List.flatMap_cons, (he a (hm a (by simp))).1, ih fun y hy => hm y (by simp [hy])]
      rw [e1 _ fun y hy => List.mem_of_mem_take hy]
      simp only [List.length_map]
      cases nul <;> cases x <;> simp [encLen, countedP]
    · rw [List.map_map, List.mem_map] at hg
      obtain ⟨y, hy, rfl⟩ := hg
      exact (he y (List.mem_of_mem_take hy)).2
theorem imp_nul {a b : Bool} (h : (!a || b) = true) (ha : a = true) : b = true := by rw [ha] at h; simpa using h
theorem Fl.mk_enc {ver : Int} {x : Bool} : ∀ (fl : Fl) (fds : List FD) (ap : Ap) (i : Nat) (t T : TR), fl.mkB ver x fds ap = true → t.kok → (∀ j f, fds[j]? = some f → T.at (i + j) = f.fit ver (t.at (i + j))) → (fl.tl = true → T.u = wholeU (unk t.u)) →
    ap.enc ver x (fl.vals i T) = bodyP ver x fds i t ++ tlP fl.tl x t.u ∧ ap.Fit ver (fl.vals i T) := by
  intro fl
  induction fl with
  | nil =>
    intro fds ap i t T h hk _ _
    cases fds <;> cases ap <;> simp [Fl.mkB] at h
    exact ⟨rfl, rfl⟩
  | tags f =>
    intro fds ap i t T h hk _ hu
    cases fds <;> cases ap <;> simp [Fl.mkB] at h
    have hku : ∀ p ∈ t.u, p.1 < 4294967296 := by cases t; exact hk.1
    obtain ⟨h1, h2, h3⟩ := tags_enc hku
    have hu := hu rfl
    simp only [Fl.vals, hu]
    refine ⟨?_, ⟨_, rfl, _, rfl, h2, h3⟩⟩
    cases x with
    | true => simpa [Ap.enc, bodyP, Fl.tl, tlP] using h1
    | false => rfl
  | prm p rest ih =>
    intro fds ap i t T h hk hT hu
    cases fds with
    | nil => cases ap <;> simp [Fl.mkB] at h
    | cons f fs =>
    have h0 := hT 0 f rfl
    rw [Nat.add_zero] at h0
    have hT' : ∀ j g, fs[j]? = some g → T.at (i + 1 + j) = g.fit ver (t.at (i + 1 + j)) := fun j g hg => by
      have := hT (j + 1) g (by simpa using hg)
      rwa [show i + (j + 1) = i + 1 + j by omega] at this
    cases ap with
    | prm vc cp p' a rest' =>
      simp only [Fl.mkB, Bool.and_eq_true, decide_eq_true_eq, beq_iff_eq] at h
      obtain ⟨⟨⟨⟨⟨htag, hfo⟩, hnu⟩, hv⟩, hfld⟩, hrest⟩ := h
      have hpu : p ≠ .uuid := neB_of hnu
      obtain ⟨k1, k2⟩ := ih fs rest' (i + 1) t T hrest hk hT' hu
      rw [body_cons htag]
      simp only [Fl.vals, Ap.enc, hv, k1, h0, Fl.tl]
      have hw : (fillP p (f.fit ver (t.at i))).wid = 1 := by rw [fillP_wid]; exact ziP_one hfo hpu
      by_cases hh : f.hasV ver = true
      · rw [hh] at hfld
        simp only [Bool.not_true, Bool.false_or, Bool.and_eq_true] at hfld
        obtain ⟨hko, hpp⟩ := hfld
        have hpp := eqB_of hpp
        subst hpp
        have h11 : f.kind ≠ 11 := by cases p <;> simp [kindOk] at hko <;> omega
        have h10 : f.kind ≠ 10 := by cases p <;> simp [kindOk] at hko <;> omega
        obtain ⟨e1, e2⟩ := fill_enc (x := x) (t := t.at i) (part := fun y => joinP x (bodyP ver x f.sub 0 y) (unknownP f.sub y.u)) (pt := fun y => .mk 0 [] false (fitL ver f.sub 0 y) (fitU f.sub y.u)) (null := f.nullV ver (t.at i)) hfo hko FD.null_nul
        have ef : f.fit ver (t.at i) = fitV f.kind (fun y => .mk 0 [] false (fitL ver f.sub 0 y) (fitU f.sub y.u)) (f.nullV ver (t.at i)) (t.at i) := by rw [FD.fit_eq, if_neg h11]
        have ee : fE ver x f t i = valP x f.kind (fun y => joinP x (bodyP ver x f.sub 0 y) (unknownP f.sub y.u)) (f.nullV ver (t.at i)) (t.at i) := by
          unfold fE; rw [if_pos hh, FD.enc_eq']; unfold fieldP; rw [if_neg h11, if_neg (by simp [h10])]
        refine ⟨?_, ⟨_, _, rfl, hw, fun _ => ⟨by rw [ef]; exact e2, hpu⟩, k2⟩⟩
        rw [if_pos hh, ef, e1, ee]
      · refine ⟨?_, ⟨_, _, rfl, hw, fun hv2 => absurd (hv ▸ hv2) hh, k2⟩⟩
        rw [if_neg hh]; unfold fE; rw [if_neg hh]
    | uid vc a rest' =>
      simp only [Fl.mkB, Bool.and_eq_true, decide_eq_true_eq, beq_iff_eq] at h
      obtain ⟨⟨⟨⟨htag, hpu⟩, hv⟩, hfld⟩, hrest⟩ := h
      have hpu : p = .uuid := eqB_of hpu
      subst hpu
      obtain ⟨k1, k2⟩ := ih fs rest' (i + 1) t T hrest hk hT' hu
      rw [body_cons htag]
      simp only [Fl.vals, Ap.enc, hv, k1, h0, Fl.tl]
      have hw : (fillP .uuid (f.fit ver (t.at i))).wid = 16 := by rw [fillP_wid]; rfl
      by_cases hh : f.hasV ver = true
      · rw [hh] at hfld
        simp only [Bool.not_true, Bool.false_or, decide_eq_true_eq] at hfld
        obtain ⟨e1, e2⟩ := fill_enc (p := .uuid) (kind := f.kind) (nul := true) (x := x) (t := t.at i) (part := fun y => joinP x (bodyP ver x f.sub 0 y) (unknownP f.sub y.u)) (pt := fun y => .mk 0 [] false (fitL ver f.sub 0 y) (fitU f.sub y.u)) (null := f.nullV ver (t.at i)) rfl (by simp [kindOk, hfld]) (fun _ => rfl)
        have ef : f.fit ver (t.at i) = fitV f.kind (fun y => .mk 0 [] false (fitL ver f.sub 0 y) (fitU f.sub y.u)) (f.nullV ver (t.at i)) (t.at i) := by rw [FD.fit_eq, if_neg (by omega)]
        have ee : fE ver x f t i = valP x f.kind (fun y => joinP x (bodyP ver x f.sub 0 y) (unknownP f.sub y.u)) (f.nullV ver (t.at i)) (t.at i) := by
          unfold fE; rw [if_pos hh, FD.enc_eq']; unfold fieldP; rw [if_neg (by omega), if_neg (by omega)]
        refine ⟨?_, ⟨_, _, rfl, hw, fun _ => by rw [ef]; exact e2, k2⟩⟩
        rw [if_pos hh, ef, e1, ee]
      · refine ⟨?_, ⟨_, _, rfl, hw, fun hv2 => absurd (hv ▸ hv2) hh, k2⟩⟩
        rw [if_neg hh]; unfold fE; rw [if_neg hh]
    | _ => simp [Fl.mkB] at h
  | lsp p bytes rest ih =>
    intro fds ap i t T h hk hT hu
    cases fds with
    | nil => cases ap <;> simp [Fl.mkB] at h
    | cons f fs =>
    have h0 := hT 0 f rfl
    rw [Nat.add_zero] at h0
    have hT' : ∀ j g, fs[j]? = some g → T.at (i + 1 + j) = g.fit ver (t.at (i + 1 + j)) := fun j g hg => by
      have := hT (j + 1) g (by simpa using hg)
      rwa [show i + (j + 1) = i + 1 + j by omega] at this
    cases ap with
    | lsp vc nul ln p' a rest' =>
      simp only [Fl.mkB, Bool.and_eq_true, decide_eq_true_eq, beq_iff_eq] at h
      obtain ⟨⟨⟨⟨⟨htag, h11⟩, hfo⟩, hv⟩, hfld⟩, hrest⟩ := h
      obtain ⟨k1, k2⟩ := ih fs rest' (i + 1) t T hrest hk hT' hu
      rw [body_cons htag]
      simp only [Fl.vals, Ap.enc, hv, k1, h0, Fl.tl]
      have hw : (lstV (ziP p).length (fillP p) (f.fit ver (t.at i))).wid = 1 := lstV_wid _ _ _
      by_cases hh : f.hasV ver = true
      · rw [hh] at hfld
        simp only [Bool.not_true, Bool.false_or, Bool.and_eq_true, beq_iff_eq] at hfld
        obtain ⟨⟨⟨hn, hko⟩, hpp⟩, hnu⟩ := hfld
        have hpp := eqB_of hpp
        have hpu : p ≠ .uuid := neB_of hnu
        subst hpp
        obtain ⟨e1, e2⟩ := lst_enc (x := x) (nul := nul) (t := t.at i) (sz := (ziP p).length) (val := fillP p) (encg := encP p x) (Pg := FitP p) h11 htag (imp_nul hn) fun y _ => fill_enc hfo hko (by simp)
        refine ⟨?_, ⟨_, _, rfl, hw, fun _ => ⟨?_, hpu⟩, k2⟩⟩
        · rw [if_pos hh]
          exact congrArg (· ++ (bodyP ver x fs (i + 1) t ++ tlP rest.tl x t.u)) (e1.trans (by unfold fE; rw [if_pos hh]))
        · rw [ziP_one hfo hpu] at e2 ⊢; exact e2
      · refine ⟨?_, ⟨_, _, rfl, hw, fun hv2 => absurd (hv ▸ hv2) hh, k2⟩⟩
        rw [if_neg hh]; unfold fE; rw [if_neg hh]
    | _ => simp [Fl.mkB] at h
  | lss f0 bytes body rest ihb ih =>
    intro fds ap i t T h hk hT hu
    cases fds with
    | nil => cases ap <;> simp [Fl.mkB] at h
    | cons f fs =>
    have h0 := hT 0 f rfl
    rw [Nat.add_zero] at h0
    have hT' : ∀ j g, fs[j]? = some g → T.at (i + 1 + j) = g.fit ver (t.at (i + 1 + j)) := fun j g hg => by
      have := hT (j + 1) g (by simpa using hg)
      rwa [show i + (j + 1) = i + 1 + j by omega] at this
    cases ap with
    | lss vc nul ln sz body' rest' =>
      simp only [Fl.mkB, Bool.and_eq_true, decide_eq_true_eq, beq_iff_eq] at h
      obtain ⟨⟨⟨⟨htag, h11⟩, hv⟩, hfld⟩, hrest⟩ := h
      obtain ⟨k1, k2⟩ := ih fs rest' (i + 1) t T hrest hk hT' hu
      rw [body_cons htag]
      simp only [Fl.vals, Ap.enc, hv, k1, h0, Fl.tl]
      have hw : (lstV body.z.length (fun y => GV.rcd (body.vals 0 y)) (f.fit ver (t.at i))).wid = 1 := lstV_wid _ _ _
      by_cases hh : f.hasV ver = true
      · rw [hh] at hfld
        simp only [Bool.not_true, Bool.false_or, Bool.and_eq_true, beq_iff_eq, decide_eq_true_eq] at hfld
        obtain ⟨⟨⟨⟨⟨hn, hof⟩, hsz⟩, hpl⟩, htl⟩, hbody⟩ := hfld
        obtain ⟨e1, e2⟩ := lst_enc (x := x) (nul := nul) (t := t.at i) (sz := body.z.length) (val := fun y => GV.rcd (body.vals 0 y)) (encg := fun g => match g with | .rcd l => body'.enc ver x l | _ => []) (Pg := fun y => ∃ l, y = .rcd l ∧ body'.Fit ver l) h11 htag (imp_nul hn) fun y hy => by
          rw [hof]
          have hky : y.kok := TR.kok_l (hk.at i) y hy
          have ev1 : fitV 10 (fun y => .mk 0 [] false (fitL ver f.sub 0 y) (fitU f.sub y.u)) false y = .mk 0 [] false (fitL ver f.sub 0 y) (fitU f.sub y.u) := rfl
          obtain ⟨q1, q2⟩ := ihb f.sub body' 0 y (.mk 0 [] false (fitL ver f.sub 0 y) (fitU f.sub y.u)) hbody hky (fun j g hg => by
            have := fitL_get ver y f.sub 0 j g hg
            show ((fitL ver f.sub 0 y)[0 + j]?).getD .zero = _
            rw [Nat.zero_add, this, Nat.zero_add]; rfl) (fun _ => by show fitU f.sub y.u = _; exact fitU_plain hpl y.u)
          rw [ev1]
          refine ⟨?_, ⟨_, rfl, q2⟩⟩
          show body'.enc ver x _ = joinP x (bodyP ver x f.sub 0 y) (unknownP f.sub y.u)
          rw [q1, kok_body hpl]
          congr 1
          cases hx : x with
          | false => unfold tlP; simp [tailP]
          | true => rw [hx] at htl; simp only [Bool.not_true, Bool.false_or] at htl; rw [htl]; rfl
        refine ⟨?_, ⟨_, _, rfl, hw, fun _ => by rw [← hsz]; exact e2, k2⟩⟩
        rw [if_pos hh]
        exact congrArg (· ++ (bodyP ver x fs (i + 1) t ++ tlP rest.tl x t.u)) (e1.trans (by unfold fE; rw [if_pos hh]))
      · refine ⟨?_, ⟨_, _, rfl, hw, fun hv2 => absurd (hv ▸ hv2) hh, k2⟩⟩
        rw [if_neg hh]; unfold fE; rw [if_neg hh]
    | _ => simp [Fl.mkB] at h
theorem Fl.mk_enc0 {ver : Int} {x : Bool} (fl : Fl) (fds : List FD) (ap : Ap) (i : Nat) (t T : TR) (h : fl.mkB ver x fds ap = true) (htl : fl.tl = false) (hk : t.kok) (hT : ∀ j f, fds[j]? = some f → T.at (i + j) = f.fit ver (t.at (i + j))) :
    ap.enc ver x (fl.vals i T) = bodyP ver x fds i t ∧ ap.Fit ver (fl.vals i T) := by
  obtain ⟨h1, h2⟩ := fl.mk_enc fds ap i t T h hk hT (fun e => by rw [htl] at e; cases e)
  refine ⟨?_, h2⟩
  rw [h1, htl]; simp [tlP]
def mkOk (fl : Fl) (A : ATop) (m : MD) (most : Nat) : Bool := FD.plainL m.fs && FD.fitBL m.fs && (List.range (most + 1)).all fun v => (A.x (v : Nat) == m.isFlex (v : Nat)) && (!m.isFlex (v : Nat) || fl.tl) && fl.mkB (v : Nat) (m.isFlex (v : Nat)) m.fs A.ap
end Go.Msk

namespace Go.Msk
open Go.RowKit
set_option maxRecDepth 100000
def FillC (P : Program) (f : FuncId) (z : List Value) (vals : TR → List GV) : Prop :=
  ∀ (w : World) (B : Nat) (ver : Int) (T : TR) (ts : List Value), T.sml → T.kok → RepT (fun b => b ≠ B) w T ts → Blk w B (.int .i16 ver :: z) →
    Calls P f [.pointer (some ⟨B, 0, none⟩), .agg ts.toArray].toArray w fun e w' => e = .returned (.tuple #[]) ∧ ∃ css, Blk w' B (.int .i16 ver :: css.flatten) ∧ RepL [] w' (vals T) css ∧ Mod [B] w w'
section
variable {P : Program} {F : Nat → Nat}
attribute [local simp] gOk updo upd ev RK.val? isShift intBin Addr.add_mk args0 Value.cells undef
theorem Fl.fill_call (hm : P.follows .mixedOrders = true) {fl : Fl} {fat sx f : FuncId} (h : liftF P f = some (fl.genTop fat sx)) (hat : AtC P fat) (hok : fl.Ok P sx) : FillC P f fl.z (fl.vals 0) := by
  intro w B ver T ts hs hk hT hB
  unfold Fl.genTop at h
  refine call_of h hm (by simp only [List.length_cons, List.length_nil]; omega) ?_
  clear h
  have h5 := hT.five
  rw [wpC_seqs]
  simp only [wpL]
  rw [wpC_blk]
  refine goBox (v := .agg ts.toArray) (by simp) fun w1 hb1 hm1 => ?_
  have e1 : (Value.agg ts.toArray).cells.toList = ts := by simp
  rw [e1] at hb1
  refine wpR_done ?_
  try simp only [thenC]
  have l0 := hB.lt
  have l1 := hm1.size
  refine Fl.sound (E := ⟨true, fat, sx⟩) hat fl hok 0 1 _ 0 5 B w.heap.size T ts [B] [.int .i16 ver] [] _ w1 _ hs hk (by omega) (by omega) (by omega) ⟨by simp [FE.tr], fun _ => by simp, (fun e => by cases e), hb1, ?_, by simp, by omega, by simp; omega⟩ rfl (by simpa using hB.mod hm1 (by simp)) fun σ' w' css _ m2 r2 l2 b2 => ?_
  · exact hT.mod hm1 (by simp) fun b _ hb => by simpa using hb
  · simp only [postC, rvals, List.mapM_nil, Option.pure_def, tup]
    exact ⟨trivial, css, by simpa using b2, r2.weaken (by simp), hm1.nil.trans m2⟩
theorem Fl.make_call (hm : P.follows .mixedOrders = true) {fl : Fl} {fat sx f : FuncId} (h : liftF P f = some (fl.genMake fat sx)) (hat : AtC P fat) (hok : fl.Ok P sx) (hone : ∀ v ∈ fl.z, v.oneCell' = true) : MakeC P f (fun T => fl.vals 0 T) := by
  intro O w T ts hO hs hk hT
  unfold Fl.genMake at h
  refine call_of h hm (by simp only [List.length_cons, List.length_nil]; omega) ?_
  clear h
  have h5 := hT.five
  rw [wpC_seqs]
  simp only [List.cons_append, List.nil_append, wpL]
  rw [wpC_blk]
  refine goBox (v := .agg ts.toArray) (by simp) fun w1 hb1 hm1 => ?_
  have e1 : (Value.agg ts.toArray).cells.toList = ts := by simp
  rw [e1] at hb1
  have l1 := hb1.lt
  have s1 := hm1.size
  refine goAlloc fun w2 hb2 hm2 => ?_
  have l2 := hb2.lt
  have s2 := hm2.size
  refine wpR_done ?_
  try simp only [thenC]
  rw [wpC_blk]
  refine goAlloc fun w3 hb3 hm3 => ?_
  have l3 := hb3.lt
  have s3 := hm3.size
  refine wpR_done ?_
  try simp only [thenC]
  have hm03 : Mod [] w w3 := (hm1.trans hm2).trans hm3
  have hT3 : RepT (fun b => b ∉ w2.heap.size :: w1.heap.size :: O) w3 T ts := hT.mod hm03 (by simp) fun b hb hx => by
    simp only [List.mem_cons, not_or]; exact ⟨by omega, by omega, hx⟩
  rw [wpL_append]
  refine Fl.sound (E := ⟨false, fat, sx⟩) hat fl hok 0 0 _ 0 5 w2.heap.size w.heap.size T ts (w2.heap.size :: w1.heap.size :: O) [] [] _ w3 _ hs hk (by omega) (by omega) (by omega) ⟨by simp [FE.tr], (fun e => by cases e), fun _ => by simp, (hb1.mod hm2 (by simp)).mod hm3 (by simp), hT3, by simp, by omega, ?_⟩ rfl (by simpa using hb3) fun σ4 w4 css f4 m4 r4 l4 b4 => ?_
  · intro b hb
    simp only [List.mem_cons] at hb
    rcases hb with rfl | rfl | hb
    · omega
    · omega
    · have := hO b hb; omega
  have b4 : Blk w4 w2.heap.size css.flatten := by simpa using b4
  have hm04 : Mod [] w w4 := Mod.drop (b := w2.heap.size) (S := []) (hm03.nil.trans m4) (by omega)
  have b2 : Blk w4 w1.heap.size fl.z := (hb2.mod hm3 (by simp)).mod m4 (by simp; omega)
  have one4 : ∀ v ∈ css.flatten, v.oneCell' = true := (Rep.rcd r4).oneCell
  simp only [thenC, wpL]
  rw [wpC_blk]
  have hld : cellsAt w4 ⟨w2.heap.size, 0, none⟩ 0 fl.z.length = some css.flatten := cellsAt_of' b4.cells l4
  have e3 : σ4 3 = .pointer (some ⟨w2.heap.size, 0, none⟩) := by rw [f4 3 (by omega)]; simp
  refine go1 (v := .agg css.flatten.toArray) rfl (by simp only [RK.val?, ev, e3, hld, Option.map_some]) ?_
  refine goSt (b := w1.heap.size) (v := .agg css.flatten.toArray) (by
    simp only [ev, updo, upd]
    rw [if_neg (by omega), f4 2 (by omega)]; simp) (by simp) b2 (by simp [l4]) rfl (by simpa using one4) fun w5 hb5 hm5 => ?_
  have hb5 : Blk w5 w1.heap.size css.flatten := by simpa using hb5
  refine wpR_done ?_
  try simp only [thenC, wpL]
  have fin : ∀ σ' : Sl, σ' 2 = .pointer (some ⟨w1.heap.size, 0, none⟩) → wpC P .ret (postC [.cells 2 fl.z.length] fun e w' => ∃ css, e = Ending.returned (.agg (List.flatten css).toArray) ∧ RepL O w' (fl.vals 0 T) css ∧ Mod [] w w') σ' w5 := fun σ' h2 =>
    retN h2 hb5 l4 ⟨css, rfl, (r4.mod hm5 (by simp)).weaken fun x hx => by simp [hx], Mod.drop (b := w1.heap.size) (S := []) (hm04.nil.trans hm5) (by omega)⟩
  refine fin _ ?_
  · simp only [updo, upd]
    rw [if_neg (by omega), f4 2 (by omega)]; simp
end
end Go.Msk

namespace Go.Msk
open Go.RowKit
set_option maxRecDepth 100000
theorem TR.kokL_of : ∀ {l : List TR}, (∀ t ∈ l, t.kok) → TR.kokL l
  | [], _ => trivial
  | a :: l, h => ⟨h a (by simp), TR.kokL_of fun t ht => h t (by simp [ht])⟩
theorem fitU_kok {fs : List FD} (hp : FD.plainL fs = true) {u : List (Nat × List UInt8)} (h : ∀ p ∈ u, p.1 < 4294967296) : ∀ p ∈ fitU fs u, p.1 < 4294967296 := by
  rw [fitU_plain hp]
  obtain ⟨h1, -⟩ := unk_ok h
  intro p hp
  simp only [wholeU, List.mem_map] at hp
  obtain ⟨q, hq, rfl⟩ := hp
  exact h1.2 q hq
mutual
theorem FD.fit_kok (ver : Int) : ∀ (f : FD) (t : TR), f.plain = true → t.kok → (f.fit ver t).kok
  | .mk kind frm to null tag dfl of sub, t, h, hk => by
    simp only [FD.plain, Bool.and_eq_true, decide_eq_true_eq] at h
    have hv : ∀ k nl (x : TR), x.kok → (fitV k (fun y => .mk 0 [] false (fitL ver sub 0 y) (fitU sub y.u)) nl x).kok := by
      intro k nl x hx
      unfold fitV
      split
      · exact ⟨by simp, trivial⟩
      · split
        · exact ⟨fitU_kok h.2.2 (TR.kok_u hx), fitL_kok ver sub 0 x h.2.2 hx⟩
        · exact ⟨by simp, trivial⟩
    simp only [FD.fit]
    split
    · refine ⟨by simp, TR.kokL_of fun y hy => ?_⟩
      obtain ⟨x, hx, rfl⟩ := List.mem_map.1 hy
      exact hv _ _ x (TR.kok_l hk x (List.mem_of_mem_take hx))
    · exact hv _ _ t hk
theorem fitL_kok (ver : Int) : ∀ (l : List FD) (i : Nat) (t : TR), FD.plainL l = true → t.kok → TR.kokL (fitL ver l i t)
  | [], _, _, _, _ => trivial
  | f :: l, i, t, h, hk => by
    simp only [FD.plainL, Bool.and_eq_true] at h
    exact ⟨FD.fit_kok ver f (t.at i) h.1 (hk.at i), fitL_kok ver l (i + 1) t h.2 hk⟩
end
structure LibM (P : Program) (F : Nat → Nat) (has : Nat → Bool) : Prop where
  mixed : P.follows .mixedOrders = true
  iAt : liftF P (F iAt) = some (ir_iAt F)
  iSixteen : has iSixteen = true → liftF P (F iSixteen) = some (ir_iSixteen F)
  tSet : has tSet = true → liftF P (F tSet) = some (ir_tSet F)
def Fl.okB (F : Nat → Nat) (has : Nat → Bool) : Fl → Bool
  | .nil => true
  | .prm p rest => fOk p && (!p.eqB .uuid || has iSixteen) && rest.okB F has
  | .lsp p bytes rest => fOk p && !p.eqB .uuid && Nat.ble bytes 32768 && rest.okB F has
  | .lss _ bytes body rest => Nat.ble bytes 32768 && body.z.all (fun v => v.oneCell') && body.okB F has && rest.okB F has
  | .tags set => set == F tSet && has tSet
def Fl.Mks (P : Program) (F : Nat → Nat) : Fl → Prop
  | .nil => True
  | .prm _ rest => rest.Mks P F
  | .lsp _ _ rest => rest.Mks P F
  | .lss f _ body rest => liftF P f = some (body.genMake (F iAt) (F iSixteen)) ∧ body.Mks P F ∧ rest.Mks P F
  | .tags _ => True
theorem Fl.ok_of {P : Program} {F : Nat → Nat} {has : Nat → Bool} (L : LibM P F has) : ∀ fl : Fl, fl.okB F has = true → fl.Mks P F → fl.Ok P (F iSixteen) := by
  intro fl
  induction fl with
  | nil => intro _ _; trivial
  | prm p rest ih =>
    intro h hm
    simp only [Fl.okB, Bool.and_eq_true, Bool.or_eq_true] at h
    refine ⟨h.1.1, fun e => ?_, ih h.2 hm⟩
    subst e
    exact iSx_call L.mixed (L.iSixteen (h.1.2.resolve_left (by simp [PK.eqB])))
  | lsp p bytes rest ih =>
    intro h hm
    simp only [Fl.okB, Bool.and_eq_true] at h
    exact ⟨h.1.1.1, neB_of h.1.1.2, Nat.le_of_ble_eq_true h.1.2, ih h.2 hm⟩
  | lss f bytes body rest ihb ih =>
    intro h hm
    simp only [Fl.okB, Bool.and_eq_true] at h
    exact ⟨Nat.le_of_ble_eq_true h.1.1.1, Fl.make_call L.mixed hm.1 (iAt_call L.mixed L.iAt) (ihb h.1.2 hm.2.1) (fun v hv => List.all_eq_true.1 h.1.1.2 v hv), ih h.2 hm.2.2⟩
  | tags set =>
    intro h _
    simp only [Fl.okB, Bool.and_eq_true, beq_iff_eq] at h
    obtain ⟨rfl, h2⟩ := h
    exact set_of L.mixed (L.tSet h2)
structure MakeFs where
  mx : FuncId
  newp : FuncId
  maxv : FuncId
  dfl : FuncId
  setv : FuncId
  fill : FuncId
  ap : FuncId
  make : FuncId
  sm : FuncId
structure MakeOk (P : Program) (F : Nat → Nat) (has : Nat → Bool) (M : MakeFs) (fl : Fl) (A : ATop) (fx : List FX) (flex : Int) (most : Nat) : Prop where
  mx : liftF P M.mx = some (impMaxCode M.newp M.maxv)
  maxv : liftF P M.maxv = some (maxCode most)
  newp : liftF P M.newp = some (newCode (.int .i16 0 :: fl.z) M.dfl)
  dfl : ∃ l, liftF P M.dfl = some (dfGen l) ∧ dfOk l (fl.z.length + 1)
  setv : liftF P M.setv = some setCode
  fill : liftF P M.fill = some (fl.genTop (F iAt) (F iSixteen))
  ap : liftF P M.ap = some A.gen
  make : liftF P M.make = some (makeCode (.int .i16 0 :: fl.z) M.setv M.fill M.ap)
  sm : liftF P M.sm = some (FX.genMsg fx flex)
  fxs : FX.OkL P fx
  cnt : Nat.blt fx.length 1000 = true
  okF : fl.okB F has = true
  mks : fl.Mks P F
  one : fl.z.all (fun v => v.oneCell') = true
  okA : (A.ap.okB F has A.flex.isSome false && (A.flex.isNone || A.ap.okB F has A.flex.isSome true)) = true
  agree : mkOk fl A ⟨FX.fds fx, flex⟩ most = true
  most : most < 32768
section
variable {P : Program} {F : Nat → Nat} {has : Nat → Bool} {M : MakeFs} {fl : Fl} {A : ATop} {fx : List FX} {flex : Int} {most : Nat}
theorem MakeOk.plain (h : MakeOk P F has M fl A fx flex most) : FD.plainL (FX.fds fx) = true := by
  have := h.agree; simp only [mkOk, Bool.and_eq_true] at this; exact this.1.1
end
end Go.Msk

namespace Go.Msk
open Go.RowKit
section
variable {H : Type} {enc : TypeId × Value → H}
theorem drop_x {C : Checked} {os : Os} {f : FuncId} {a : Assume} {A S : World → Array Value → Prop} (h : ∃ (w : World) (tape : Tape) (i : Input), w.os = os ∧ (w.forCall tape i).Shaped C.prog ∧ i.vars = [] ∧ Input.okWide C.prog (w.forCall tape i) .any w.heap.size f i ∧
      ((A (w.forCall tape i).memory i.args ∧ True) ∧ S (w.forCall tape i).memory i.args) ∧ a.holds C.prog (lone (Frame.enter C.prog f i.args .normal) [] (w.forCall tape i))) :
    ∃ (w : World) (tape : Tape) (i : Input), w.os = os ∧ (w.forCall tape i).Shaped C.prog ∧ i.vars = [] ∧ Input.okWide C.prog (w.forCall tape i) .any w.heap.size f i ∧
      (A (w.forCall tape i).memory i.args ∧ S (w.forCall tape i).memory i.args) ∧ a.holds C.prog (lone (Frame.enter C.prog f i.args .normal) [] (w.forCall tape i)) := by
  obtain ⟨w, t, i, h1, h2, h3, h4, ⟨⟨h5, -⟩, h6⟩, h7⟩ := h
  exact ⟨w, t, i, h1, h2, h3, h4, ⟨h5, h6⟩, h7⟩
end
end Go.Msk

namespace Go.Msk
open Go.RowKit
set_option maxRecDepth 100000
def kcell (k : Nat) : Value := .int .u32 (k : Nat)
structure KRaw (w : World) (n0 : Nat) (kv : Value) (ks : List Nat) : Prop where
  sl : (kv = .slice none 0 0 ∧ ks = []) ∨ ∃ BA cap rest, kv = .slice (some ⟨BA, 0, none⟩) ks.length cap ∧ ks.length ≤ cap ∧ n0 ≤ BA ∧ Blk w BA (ks.map kcell ++ rest) ∧ rest.length = cap - ks.length
theorem KRaw.mod {w w' : World} {n0 : Nat} {v : Value} {l : List Nat} {S : List Nat} (h : KRaw w n0 v l) (hm : Mod S w w') (hS : ∀ b, ownB v = some b → b ∉ S) : KRaw w' n0 v l :=
  ⟨h.sl.imp id fun ⟨B, cap, rest, h1, h2, h3, h4, h5⟩ => ⟨B, cap, rest, h1, h2, h3, h4.mod hm (hS _ (by rw [h1]; rfl)), h5⟩⟩
theorem Mod.above {ws w w' : World} {S : List Nat} (h : Mod [] ws w) (hm : Mod S w w') (hS : ∀ b ∈ S, ws.heap.size ≤ b) : Mod [] ws w' := by
  refine ⟨hm.os.trans h.os, hm.tape.trans h.tape, hm.output.trans h.output, Nat.le_trans h.size hm.size, fun k hk hn => ?_⟩
  rw [hm.block k (Nat.lt_of_lt_of_le hk h.size) (fun hc => by have := hS k hc; omega)]
  exact h.block k hk hn
structure KF where
  k : IntKind
  sz : Nat
  dfl : Int
  a : FuncId
  deriving Inhabited
section
variable {P : Program}
attribute [local simp] bnd wpC wpR RI.wp gOk RK.run thenC inBlockC updo upd ev args0 postC rvals RV.val tup_one isShift
theorem bsliceK_run {σ : Sl} {w : World} {j : Nat} {K : Value → World → Prop} (hK : ∀ w', Mod [] w w' → Blk w' w.heap.size [kcell j] → K (.slice (some ⟨w.heap.size, 0, none⟩) 1 1) w') :
    (RK.bslice 1 [.int .u32 0] [(0, 1, .const (.int .u32 (j : Nat)))]).run P σ w K := by
  have hspl : splice [Value.int .u32 0] 0 [Value.int .u32 (j : Nat)] = [Value.int .u32 (j : Nat)] := splice_all rfl
  simp only [RK.run, List.map_cons, List.map_nil, ev, zrep, List.replicate_succ, List.replicate_zero, List.flatten_cons, List.flatten_nil, List.append_nil, fillL, show (Value.int IntKind.u32 ((j : Nat) : Int)).cells = #[Value.int .u32 ((j : Nat) : Int)] from rfl]
  simp only [List.size_toArray, List.length_cons, List.length_nil, Nat.zero_add, Nat.le_refl, and_self, if_true, hspl]
  intro Tn
  exact hK _ (Mod.alloc _ _ _) (Blk.new w [kcell j] Tn)
theorem append_key {σ : Sl} {w : World} {x y : Operand} {kv : Value} {ks : List Nat} {n0 sb k : Nat} {K : Value → World → Prop} (hx : ev σ x = kv) (hraw : KRaw w n0 kv ks) (hn0 : n0 ≤ w.heap.size)
    (hy : ev σ y = .slice (some ⟨sb, 0, none⟩) 1 1) (hsb : Blk w sb [kcell k]) (hl : ks.length ≤ 1000000)
    (hK : ∀ kv' w', KRaw w' n0 kv' (ks ++ [k]) → (∃ S, Mod S w w' ∧ ∀ b ∈ S, n0 ≤ b) → K kv' w') : (RK.append x y 1 4).run P σ w K := by
  have hsrc : srcCells w 1 (.slice (some ⟨sb, 0, none⟩) 1 1) = some (1, [kcell k]) := by
    simp only [srcCells, cellsAt_of' hsb.cells (n := 1 * 1) (by simp), Option.map_some]
  simp only [RK.run, hx, hy]
  have hfl : (ks.map kcell).length = ks.length := by simp
  have e1 : (ks ++ [k]).map kcell = ks.map kcell ++ [kcell k] := by simp
  rcases hraw.sl with ⟨rfl, rfl⟩ | ⟨BA, cap, rest, rfl, h2, h3, h4, hr⟩
  · simp only [hsrc, appendRun]
    rw [if_neg (by omega)]
    refine ⟨by omega, by omega, ?_⟩
    intro T cap rest hc hr
    refine hK _ _ ⟨.inr ⟨w.heap.size, cap, rest, rfl, by simpa using hc, hn0, ?_, by simp at hr ⊢; omega⟩⟩ ⟨[], (Mod.drew _ _).trans (Mod.alloc _ _ _), by simp⟩
    have := Blk.new w.drew ([kcell k] ++ rest) T
    simpa using this
  · simp only [hsrc, appendRun]
    by_cases hc : ks.length + 1 ≤ cap
    · rw [if_pos hc]
      simp only [Addr.add_mk, Nat.zero_add]
      refine ⟨stOk_many h4 (by simp only [List.length_append, hfl, List.length_cons, List.length_nil]; omega) (by simp [kcell, Value.oneCell']), hK _ _ ⟨.inr ⟨BA, cap, rest.drop 1, by simp, by simpa using hc, h3, ?_, by simp; omega⟩⟩ ⟨[BA], Mod.put (by simp), by simpa using h3⟩⟩
      have hput := h4.put (o := ks.length * 1) (vs := [kcell k]) (by simp only [List.length_append, hfl, List.length_cons, List.length_nil]; omega)
      have : splice (ks.map kcell ++ rest) (ks.length * 1) [kcell k] = (ks ++ [k]).map kcell ++ rest.drop 1 := by
        rw [e1, Nat.mul_one, splice_end hfl]; simp
      rwa [this] at hput
    · rw [if_neg hc]
      refine ⟨by omega, by omega, ?_⟩
      have hco : cellsAt w ⟨BA, 0, none⟩ 0 (ks.length * 1) = some (ks.map kcell) := by
        have := h4.cells.take (ks.map kcell).length
        rw [List.take_left] at this
        exact cellsAt_of' this (by simp)
      simp only [hco]
      intro T cap' rest' hc' hr'
      refine hK _ _ ⟨.inr ⟨w.heap.size, cap', rest', by simp, by simpa using hc', hn0, ?_, by simp at hr' ⊢; omega⟩⟩ ⟨[], (Mod.drew _ _).trans (Mod.alloc _ _ _), by simp⟩
      have := Blk.new w.drew (ks.map kcell ++ ([kcell k] ++ rest')) T
      simpa [e1] using this
end
def tkTests (sp off nv : Nat) : List KF → (j u : Nat) → List IC
  | [], _, _ => []
  | t :: r, j, u => .seq (.blk [⟨some u, .mv (.tmp sp), none⟩, ⟨some (u + 1), .nilc (.tmp u), none⟩, ⟨some (u + 2), .fad (.tmp (u + 1)) (off + j), none⟩, ⟨some (u + 3), .ld (.tmp (u + 2)), none⟩, ⟨some (u + 4), .bin .neq (.tmp (u + 3)) (.const (.int t.k t.dfl)), none⟩])
      (.cond (.tmp (u + 4)) (.blk [⟨some (u + 5), .mv (.tmp nv), none⟩, ⟨some (u + 6), .bslice 1 [.int .u32 0] [(0, 1, .const (.int .u32 (j : Nat)))], none⟩, ⟨some (u + 7), .append (.tmp (u + 5)) (.tmp (u + 6)) 1 4, none⟩, ⟨some nv, .mv (.tmp (u + 7)), none⟩]) .skip) :: tkTests sp off nv r (j + 1) (u + 8)
def tkEnc : List KF → List Int → Nat → List (Nat × List UInt8)
  | t :: r, n :: ns, j => (if n = t.dfl then [] else [(j, beI t.sz n)]) ++ tkEnc r ns (j + 1)
  | _, _, _ => []
theorem tkEnc_len : ∀ (tks : List KF) (ns : List Int) (j : Nat), (tkEnc tks ns j).length ≤ tks.length
  | [], _, _ => by simp [tkEnc]
  | _ :: _, [], _ => by simp [tkEnc]
  | t :: r, n :: ns, j => by
    have := tkEnc_len r ns (j + 1)
    simp only [tkEnc, List.length_append, List.length_cons]
    split <;> simp <;> omega
theorem tkEnc_at : ∀ (tks : List KF) (ns : List Int) (j i k : Nat) (b : List UInt8), (tkEnc tks ns j)[i]? = some (k, b) → ∃ m t n, k = j + m ∧ tks[m]? = some t ∧ ns[m]? = some n ∧ b = beI t.sz n
  | [], _, _, i, k, b, h => by simp [tkEnc] at h
  | _ :: _, [], _, i, k, b, h => by simp [tkEnc] at h
  | t :: r, n :: ns, j, i, k, b, h => by
    simp only [tkEnc] at h
    have nx : ∀ i, (tkEnc r ns (j + 1))[i]? = some (k, b) → ∃ m t', ∃ n', k = j + m ∧ (t :: r)[m]? = some t' ∧ (n :: ns)[m]? = some n' ∧ b = beI t'.sz n' := fun i h => by
      obtain ⟨m, t', n', h1, h2, h3, h4⟩ := tkEnc_at r ns (j + 1) i k b h
      exact ⟨m + 1, t', n', by omega, by simpa using h2, by simpa using h3, h4⟩
    by_cases hn : n = t.dfl
    · rw [if_pos hn, List.nil_append] at h
      exact nx i h
    · rw [if_neg hn] at h
      cases i with
      | zero =>
        simp only [List.singleton_append, List.getElem?_cons_zero, Option.some.injEq, Prod.mk.injEq] at h
        exact ⟨0, t, n, by omega, rfl, rfl, h.2.symm⟩
      | succ i => exact nx i (by simpa using h)
section
variable {P : Program}
attribute [local simp] gOk updo upd ev RK.val? isShift intBin Addr.add_mk args0 Value.cells undef
def TkCells (w : World) (B o : Nat) (tks : List KF) (ns : List Int) : Prop := ∀ m t n, tks[m]? = some t → ns[m]? = some n → w.cell? ⟨B, o + m, none⟩ = some (.int t.k n)
theorem tests_wp {w0 ws : World} {sp off nv B o : Nat} (hm0 : Mod [] w0 ws) {TS : List KF} {NS : List Int} (hC : TkCells w0 B (o + off) TS NS) (hl0 : TS.length ≤ 1000) :
    ∀ (tks : List KF) (ns : List Int) (j u : Nat) (σ : Sl) (w : World) (ks : List Nat) (Q : Exit → Sl → World → Prop), (∀ m, tks[m]? = TS[j + m]?) → (∀ m, ns[m]? = NS[j + m]?) → tks.length = ns.length → sp < u → nv < u → sp ≠ nv → σ sp = .pointer (some ⟨B, o, none⟩) →
      KRaw w ws.heap.size (σ nv) ks → Mod [] ws w → ks.length ≤ j → j ≤ 1000 →
      (∀ σ' w', (∀ i, i < u → i ≠ nv → σ' i = σ i) → KRaw w' ws.heap.size (σ' nv) (ks ++ (tkEnc tks ns j).map (·.1)) → Mod [] ws w' → Q .normal σ' w') → wpL P (tkTests sp off nv tks j u) Q σ w
  | [], [], j, u, σ, w, ks, Q, _, _, _, _, _, _, _, hK, hmw, _, _, hQ => by
    simp only [tkTests, wpL]
    exact hQ σ w (fun _ _ _ => rfl) (by simpa [tkEnc] using hK) hmw
  | t :: r, n :: ns, j, u, σ, w, ks, Q, hT, hN, hlen, h1, h2, hne, hs, hK, hmw, hkl, hj, hQ => by
    simp only [tkTests, wpL]
    have hT0 := (hT 0).symm
    have hN0 := (hN 0).symm
    simp only [List.getElem?_cons_zero, Nat.add_zero] at hT0 hN0
    have hcell : w.cell? ⟨B, o + (off + j), none⟩ = some (.int t.k n) := by
      rw [← Nat.add_assoc]
      exact cell_mod (hC j t n hT0 hN0) (hm0.trans hmw) (by simp)
    have hjl : j < 1000 := by
      have := (List.getElem?_eq_some_iff.1 hT0).1; omega
    have hT' : ∀ m, r[m]? = TS[j + 1 + m]? := fun m => by have := hT (m + 1); rw [List.getElem?_cons_succ] at this; rw [this]; congr 1; omega
    have hN' : ∀ m, ns[m]? = NS[j + 1 + m]? := fun m => by have := hN (m + 1); rw [List.getElem?_cons_succ] at this; rw [this]; congr 1; omega
    rw [wpC_seq, wpC_blk]
    refine go1 (v := .pointer (some ⟨B, o, none⟩)) rfl (by simp [hs]) ?_
    refine go1 (v := .pointer (some ⟨B, o, none⟩)) rfl (by simp) ?_
    refine go1 (v := .pointer (some ⟨B, o + (off + j), none⟩)) rfl (by simp) ?_
    refine go1 (v := .int t.k n) rfl (by simp [hcell]) ?_
    refine go1 (v := .bool (decide (n ≠ t.dfl))) rfl (by simp [bne, BEq.beq]) (goEnd ?_)
    simp only [thenC]
    generalize hσ : updo _ (some (u + 4)) _ = σ1
    have a1 : ∀ i, i < u → σ1 i = σ i := fun i hi => by rw [← hσ]; simp only [updo, upd, show i ≠ u by omega, show i ≠ u + 1 by omega, show i ≠ u + 2 by omega, show i ≠ u + 3 by omega, show i ≠ u + 4 by omega, if_false]
    have c1 : σ1 (u + 4) = .bool (decide (n ≠ t.dfl)) := by rw [← hσ]; simp
    clear hσ
    by_cases hd : n = t.dfl
    · rw [wpC_cond_f (by simp [c1, hd]), wpC_skip]
      refine tests_wp hm0 hC hl0 r ns (j + 1) (u + 8) σ1 w ks Q hT' hN' (by simpa using hlen) (by omega) (by omega) hne (by rw [a1 sp h1]; exact hs) (by rw [a1 nv h2]; exact hK) hmw (by omega) (by omega) fun σ' w' f1 f2 f3 => hQ σ' w' (fun i hi hv => (f1 i (by omega) hv).trans (a1 i hi)) ?_ f3
      simpa [tkEnc, hd] using f2
    · rw [wpC_cond_t (by simp [c1, hd]), wpC_blk]
      refine go1 (v := σ nv) rfl (by simp [a1 nv h2]) ?_
      refine goC rfl (bsliceK_run (j := j) fun w1 hm1 hb1 => ?_)
      have hK1 := hK.mod hm1 (by simp)
      have hmw1 := hmw.trans hm1
      refine goC rfl (append_key (n0 := ws.heap.size) (kv := σ nv) (sb := w.heap.size) (k := j) (by simp) hK1 hmw1.size (by simp) hb1 (by omega) fun kv' w2 hK2 hS => ?_)
      obtain ⟨S, hm2, hS⟩ := hS
      refine go1 (v := kv') rfl (by simp) (goEnd ?_)
      have hmw2 := Mod.above hmw1 hm2 hS
      generalize hσ : updo _ (some nv) _ = σ2
      have a2 : ∀ i, i < u → i ≠ nv → σ2 i = σ i := fun i hi hv => by
        rw [← hσ]; simp only [updo, upd, hv, show i ≠ u + 5 by omega, show i ≠ u + 6 by omega, show i ≠ u + 7 by omega, if_false]; exact a1 i hi
      have n2 : σ2 nv = kv' := by rw [← hσ]; simp
      clear hσ
      refine tests_wp hm0 hC hl0 r ns (j + 1) (u + 8) σ2 w2 (ks ++ [j]) Q hT' hN' (by simpa using hlen) (by omega) (by omega) hne (by rw [a2 sp h1 hne]; exact hs) (by rw [n2]; exact hK2) hmw2 (by simp; omega) (by omega) fun σ' w' f1 f2 f3 => hQ σ' w' (fun i hi hv => (f1 i (by omega) hv).trans (a2 i hi hv)) ?_ f3
      simpa [tkEnc, hd, List.append_assoc] using f2
  | [], _ :: _, _, _, _, _, _, _, _, _, h, _, _, _, _, _, _, _, _, _ => by simp at h
  | _ :: _, [], _, _, _, _, _, _, _, _, h, _, _, _, _, _, _, _, _, _ => by simp at h
end
end Go.Msk

namespace Go.Msk
open Go.RowKit
set_option maxRecDepth 100000
mutual
/-- A field is as by default. -/
def FD.isUs : FD → TR → Bool
  | .mk kind _ _ null _ dfl _ sub, t =>
    if kind = 8 ∨ kind = 9 then (if null ≥ 0 then t.null else decide (t.s.length = 0))
    else if kind = 10 then isUsL sub 0 t && decide ((unknownP sub t.u).length = 0)
    else decide (beI (widthP kind) t.n = beI (widthP kind) dfl)
def isUsL : List FD → Nat → TR → Bool
  | [], _, _ => true
  | f :: l, i, t => f.isUs (t.at i) && isUsL l (i + 1) t
end
mutual
/-- Such kinds alone. -/
def FD.usK : FD → Bool
  | .mk kind _ _ _ tag _ _ sub => decide (tag < 2147483648) && decide (kind ≠ 0) && decide (kind ≠ 7) && decide (kind ≠ 11) && decide (sub.length < 1000) && usKL sub
def usKL : List FD → Bool
  | [] => true
  | f :: l => f.usK && usKL l
end
theorem usKL_mem : ∀ {l : List FD}, usKL l = true → ∀ f ∈ l, f.usK = true
  | [], _, f, h => by simp at h
  | a :: l, hl, f, h => by
    simp only [usKL, Bool.and_eq_true] at hl
    rcases List.mem_cons.1 h with rfl | h
    · exact hl.1
    · exact usKL_mem hl.2 f h
theorem FD.usK_tag {f : FD} (h : f.usK = true) : f.tag < 2147483648 := by
  cases f
  simp only [FD.usK, Bool.and_eq_true, decide_eq_true_eq] at h
  exact h.1.1.1.1.1
theorem isUsL_nth : ∀ {fds : List FD} {i : Nat} {x : TR} {j : Nat} {f : FD}, isUsL fds i x = true → fds[j]? = some f → f.isUs (x.at (i + j)) = true
  | f0 :: fds, i, x, 0, f, h, hj => by
    simp only [List.getElem?_cons_zero, Option.some.injEq] at hj
    subst hj
    simp only [isUsL, Bool.and_eq_true] at h
    exact h.1
  | f0 :: fds, i, x, j + 1, f, h, hj => by
    simp only [isUsL, Bool.and_eq_true] at h
    have := isUsL_nth h.2 (by simpa using hj)
    rwa [show i + (j + 1) = i + 1 + j by omega]
theorem isUsL_all : ∀ {fds : List FD} {i : Nat} {x : TR}, (∀ (j : Nat) (f : FD), fds[j]? = some f → f.isUs (x.at (i + j)) = true) → isUsL fds i x = true
  | [], _, _, _ => rfl
  | f0 :: fds, i, x, h => by
    simp only [isUsL, Bool.and_eq_true]
    refine ⟨by simpa using h 0 f0 rfl, isUsL_all fun j f hj => ?_⟩
    have := h (j + 1) f (by simpa using hj)
    rwa [show i + 1 + j = i + (j + 1) by omega]
section
variable {P : Program} {F : Nat → Nat}
attribute [local simp] gOk updo upd ev RK.val? isShift intBin Addr.add_mk args0 Value.cells undef
def UsC (P : Program) (F : Nat → Nat) (f : FD) : Prop :=
  ∀ (w : World) (cs : List Value) (t : TR) (ts : List Value), RepF anyB w f cs → RepT anyB w t ts → Calls P (F susual_) [.agg cs.toArray, .agg ts.toArray].toArray w fun e w' => e = .returned (.bool (f.isUs t)) ∧ Mod [] w w'
theorem us_call (hm : P.follows .mixedOrders = true) (h : liftF P (F susual_) = some (ir_susual_ F)) (hat : liftF P (F sAt) = some (ir_sAt F)) (hsm : liftF P (F sSame) = some (ir_sSame F)) (hfx : liftF P (F sFixed) = some (ir_sFixed F)) (hwd : liftF P (F sWidth) = some (ir_sWidth F))
    (hun : liftF P (F sUnknown) = some (ir_sUnknown F)) (hkn : liftF P (F sKnown) = some (ir_sKnown F)) {f : FD} (hk : f.usK = true) (hU : ∀ g ∈ f.sub, UsC P F g) : UsC P F f := by
  intro w fcs t ts hrf hrt
  obtain ⟨kind, frm, to, null, tag, dfl, of, sub⟩ := f
  simp only [FD.usK, Bool.and_eq_true, decide_eq_true_eq] at hk
  obtain ⟨⟨⟨⟨⟨htag, hk0⟩, hk7⟩, hk11⟩, hsl⟩, hsubs⟩ := hk
  unfold ir_susual_ at h
  refine call_of h hm (by simp) ?_
  clear h
  have h8 := hrf.eight
  have h5 := hrt.five
  have hrf0 := hrf
  have hrt0 := hrt
  cases hrf with
  | mk hs1 hs2 =>
  rename_i fv css
  cases hrt with
  | @mk n s xn l u sv lv uv tss uss a1 a2 a3 a4 a5 =>
  rw [wpC_seq, wpC_blk]
  refine goBox (v := .agg [.int .i64 kind, .int .i64 frm, .int .i64 to, .int .i64 null, .int .i64 tag, .int .i64 dfl, .int .i64 of, fv].toArray) (by simp) fun w1 hb1 hm1 => ?_
  refine goBox (v := .agg [.int .i64 n, sv, .bool xn, lv, uv].toArray) (by simp) fun w2 hb2 hm2 => ?_
  have hb1 : Blk w2 w.heap.size [.int .i64 kind, .int .i64 frm, .int .i64 to, .int .i64 null, .int .i64 tag, .int .i64 dfl, .int .i64 of, fv] := Blk.mod (by simpa using hb1) hm2 (by simp)
  have hb2 : Blk w2 w1.heap.size [.int .i64 n, sv, .bool xn, lv, uv] := by simpa using hb2
  have hm02 := hm1.trans hm2
  have c1 := fun k => hb1.cell k
  have c2 := fun k => hb2.cell k
  refine go1 (v := .bool false) rfl rfl (goEnd ?_)
  simp only [thenC]
  rw [wpC_seq, wpC_seq, wpC_blk]
  refine go1 (v := .pointer (some ⟨w.heap.size, 0, none⟩)) rfl (by simp) ?_
  refine go1 (v := .int .i64 kind) rfl (by simp [c1]) (goEnd ?_)
  simp only [thenC]
  generalize hσ : updo _ (some 10) _ = σ1
  have s2 : σ1 2 = .pointer (some ⟨w.heap.size, 0, none⟩) := by rw [← hσ]; simp
  have s3 : σ1 3 = .pointer (some ⟨w1.heap.size, 0, none⟩) := by rw [← hσ]; simp
  have s10 : σ1 10 = .int .i64 kind := by rw [← hσ]; simp
  clear hσ
  rw [wpC_block]
  unfold ir_susual__5
  rw [wpC_seq, wpC_blk]
  refine go1 (v := .bool false) rfl (by simp [s10]; omega) ?_
  refine go1 (v := .bool false) rfl (by simp) (goEnd ?_)
  simp only [thenC]
  rw [wpC_cond_f (by simp), wpC_seq, wpC_blk]
  refine go1 (v := .bool false) rfl (by simp [s10]; omega) ?_
  refine go1 (v := .bool false) rfl (by simp) (goEnd ?_)
  simp only [thenC]
  rw [wpC_cond_f (by simp)]
  unfold ir_susual__4
  rw [wpC_seq, wpC_seq, wpC_blk]
  refine go1 (v := .bool (decide (kind = 8))) rfl (by simp [s10]; rfl) ?_
  refine go1 (v := .bool (decide (kind = 8))) rfl (by simp) (goEnd ?_)
  simp only [thenC]
  -- behind the question whether it is a text
  suffices rest : ∀ σ : Sl, σ 2 = .pointer (some ⟨w.heap.size, 0, none⟩) → σ 3 = .pointer (some ⟨w1.heap.size, 0, none⟩) → σ 10 = .int .i64 kind → σ 36 = .bool (decide (kind = 8 ∨ kind = 9)) → ∀ N : Sl → World → Prop, ∀ Q : Exit → Sl → World → Prop, (∀ σ w', Q .ret σ w' = (postC [.tmp 4] fun e w' => e = .returned (.bool ((FD.mk kind frm to null tag dfl of sub).isUs (.mk n s xn l u))) ∧ Mod [] w w') .ret σ w') → (∀ σ', (∀ j, j < 11 → σ' j = σ j) → ¬ (kind = 8 ∨ kind = 9) → kind ≠ 10 → Q .normal σ' w2) →
      wpC P (.cond (.tmp 36)
            (.seq (.seq (.blk [⟨(some (39)), .fad (.tmp 2) 3, none⟩, ⟨(some (40)), .ld (.tmp 39), none⟩, ⟨(some (41)), .bin .geq (.tmp 40) (.const (.int .i64 0)), none⟩])
              (.cond (.tmp 41) (.seq (.blk [⟨(some (42)), .fad (.tmp 3) 2, none⟩, ⟨(some (43)), .ld (.tmp 42), none⟩, ⟨(some (4)), .mv (.tmp 43), none⟩]) (.ret)) (.skip)))
            (.seq (.blk [⟨(some (44)), .fad (.tmp 3) 1, none⟩, ⟨(some (45)), .ld (.tmp 44), none⟩, ⟨(some (46)), .len (.tmp 45), none⟩, ⟨(some (47)), .bin .eql (.tmp 46) (.const (.int .i64 0)), none⟩, ⟨(some (4)), .mv (.tmp 47), none⟩]) (.ret)))
            (.seq (.blk [⟨(some (49)), .bin .eql (.tmp 10) (.const (.int .i64 11)), none⟩, ⟨(some (48)), .mv (.tmp 49), none⟩])
            (.cond (.tmp 48)
              (.seq (.blk [⟨(some (50)), .fad (.tmp 3) 3, none⟩, ⟨(some (51)), .ld (.tmp 50), none⟩, ⟨(some (52)), .len (.tmp 51), none⟩, ⟨(some (53)), .bin .eql (.tmp 52) (.const (.int .i64 0)), none⟩, ⟨(some (4)), .mv (.tmp 53), none⟩]) (.ret))
              (.seq (.blk [⟨(some (55)), .bin .eql (.tmp 10) (.const (.int .i64 10)), none⟩, ⟨(some (54)), .mv (.tmp 55), none⟩])
              (.cond (.tmp 54) (ir_susual__3 F) (.skip)))))) Q σ w2 by
    have fin : ∀ (σ : Sl), σ 2 = .pointer (some ⟨w.heap.size, 0, none⟩) → σ 3 = .pointer (some ⟨w1.heap.size, 0, none⟩) → ¬ (kind = 8 ∨ kind = 9) → kind ≠ 10 →
        wpC P (.seq (ir_susual__6 F) .ret) (postC [.tmp 4] fun e w' => e = .returned (.bool ((FD.mk kind frm to null tag dfl of sub).isUs (.mk n s xn l u))) ∧ Mod [] w w') σ w2 := by
      intro σ k2 k3 hn89 hn10
      have he : (FD.mk kind frm to null tag dfl of sub).isUs (.mk n s xn l u) = decide (beI (widthP kind) n = beI (widthP kind) dfl) := by
        rw [FD.isUs, if_neg hn89, if_neg hn10]; rfl
      rw [he]
      unfold ir_susual__6
      rw [wpC_seq]
      show wpD P _ [] _ w2.drew _
      have hmd : Mod [] w2 w2.drew := Mod.drew _ _
      have hm0d := hm02.trans hmd
      have hb1d := hb1.mod hmd (by simp)
      have hb2d := hb2.mod hmd (by simp)
      have c1d := fun k => hb1d.cell k
      have c2d := fun k => hb2d.cell k
      have hw8 : widthP kind ≤ 8 := by unfold widthP; repeat' split
                                       all_goals omega
      refine wpD_of_B (fun i v w' => match i with | 4 => v = .int .i64 (widthP kind) | 5 => SlC anyB w' v (beI (widthP kind) n).length (u8s (beI (widthP kind) n)) | 10 => v = .int .i64 (widthP kind) | 11 => SlC anyB w' v (beI (widthP kind) dfl).length (u8s (beI (widthP kind) dfl)) | 12 => v = .bool (decide (beI (widthP kind) n = beI (widthP kind) dfl)) | _ => True) (by
        intro i v w w' h hm
        split at h
        · exact h
        · exact h.keep hm
        · exact h
        · exact h.keep hm
        · exact h
        · trivial) ?_
      refine bo1 (v := .pointer (some ⟨w1.heap.size, 0, none⟩)) rfl (by simp [k3]) ?_
      refine bo1 (v := .int .i64 n) rfl (by simp [c2d]) ?_
      refine bo1 (v := .pointer (some ⟨w.heap.size, 0, none⟩)) rfl (by simp [k2]) ?_
      refine bo1 (v := .int .i64 kind) rfl (by simp [c1d]) ?_
      refine boCall (vs := [.int .i64 kind]) (by simp) (by simp) (fun w' hm' _ => (width_call hm hwd).mono ?_) ?_
      · rintro e w'' ⟨rfl, rfl⟩; exact ⟨_, rfl, Mod.refl _ _, rfl⟩
      rintro v4 ⟨wv4, ev4⟩
      have ev4 : v4 = .int .i64 (widthP kind) := ev4
      subst ev4
      refine boCall (vs := [.int .i64 n, .int .i64 (widthP kind)]) (by simp) (by simp) (fun w' hm' _ => (fixed_call hm hfx (n := n) (k := widthP kind) hw8).mono ?_) ?_
      · rintro e w'' ⟨v, rfl, hd, hmm⟩; exact ⟨_, rfl, hmm, hd.slc.any⟩
      rintro v5 ⟨wv5, -⟩
      refine bo1 (v := .pointer (some ⟨w.heap.size, 5, none⟩)) rfl (by simp [k2]) ?_
      refine bo1 (v := .int .i64 dfl) rfl (by simp [c1d]) ?_
      refine bo1 (v := .pointer (some ⟨w.heap.size, 0, none⟩)) rfl (by simp [k2]) ?_
      refine bo1 (v := .int .i64 kind) rfl (by simp [c1d]) ?_
      refine boCall (vs := [.int .i64 kind]) (by simp) (by simp) (fun w' hm' _ => (width_call hm hwd).mono ?_) ?_
      · rintro e w'' ⟨rfl, rfl⟩; exact ⟨_, rfl, Mod.refl _ _, rfl⟩
      rintro v10 ⟨wv10, ev10⟩
      have ev10 : v10 = .int .i64 (widthP kind) := ev10
      subst ev10
      refine boCall (vs := [.int .i64 dfl, .int .i64 (widthP kind)]) (by simp) (by simp) (fun w' hm' _ => (fixed_call hm hfx (n := dfl) (k := widthP kind) hw8).mono ?_) ?_
      · rintro e w'' ⟨v, rfl, hd, hmm⟩; exact ⟨_, rfl, hmm, hd.slc.any⟩
      rintro v11 ⟨wv11, -⟩
      refine boCall (vs := [v5, v11]) (by simp) (by simp) (fun w' hm' hkn => ?_) ?_
      · have q5 := known_get (j := 5) (t := 83) hkn (by simp) rfl rfl (by simp) rfl
        have q11 := known_get (j := 11) (t := 89) hkn (by simp) rfl rfl (by simp) rfl
        have q5 : SlC anyB w' v5 (beI (widthP kind) n).length (u8s (beI (widthP kind) n)) := by simpa using q5
        have q11 : SlC anyB w' v11 (beI (widthP kind) dfl).length (u8s (beI (widthP kind) dfl)) := by simpa using q11
        refine (same_call hm hsm q5 q11 (by rw [beI_length]; omega)).mono ?_
        rintro e w'' ⟨rfl, hmm⟩
        exact ⟨_, rfl, hmm, rfl⟩
      rintro v12 ⟨wv12, ev12⟩
      have ev12 : v12 = .bool (decide (beI (widthP kind) n = beI (widthP kind) dfl)) := ev12
      subst ev12
      refine bo1 (v := .bool (decide (beI (widthP kind) n = beI (widthP kind) dfl))) rfl (by simp) ?_
      intro w' hm' hkn
      refine goEnd ?_
      simp only [thenC]
      exact ret1 (by simp) ⟨rfl, hm0d.trans hm'⟩
    by_cases k8 : kind = 8
    · rw [wpC_cond_t (by simp [k8]), wpC_skip]
      refine rest _ (by simp [s2]) (by simp [s3]) (by simp [s10]) (by simp [k8]) (fun _ _ => True) _ (fun σ w' => rfl) fun σ' hfr hn _ => absurd (.inl k8) hn
    · rw [wpC_cond_f (by simp [k8]), wpC_blk]
      refine go1 (v := .bool (decide (kind = 9))) rfl (by simp [s10]; rfl) ?_
      refine go1 (v := .bool (decide (kind = 9))) rfl (by simp) (goEnd ?_)
      simp only [thenC]
      refine rest _ (by simp [s2]) (by simp [s3]) (by simp [s10]) (by simp [k8]) (fun _ _ => True) _ (fun σ w' => rfl) fun σ' hfr hn h10 => ?_
      simp only [inBlockC, thenC]
      exact fin σ' (by rw [hfr 2 (by omega)]; simp [s2]) (by rw [hfr 3 (by omega)]; simp [s3]) hn h10
  intro σ k2 k3 k10 k36 N Q hret hnorm
  have fret : ∀ (σ' : Sl) (w' : World) (b : Bool), σ' 4 = .bool b → b = (FD.mk kind frm to null tag dfl of sub).isUs (.mk n s xn l u) → Mod [] w w' → wpC P .ret Q σ' w' := by
    intro σ' w' b h4 hb hm'
    show Q .ret σ' w'
    rw [hret]
    exact post1 (v := .bool b) h4 ⟨by rw [hb], hm'⟩
  by_cases h89 : kind = 8 ∨ kind = 9
  · have he : (FD.mk kind frm to null tag dfl of sub).isUs (.mk n s xn l u) = if null ≥ 0 then xn else decide (s.length = 0) := by
      rw [FD.isUs, if_pos h89]; rfl
    rw [he] at fret
    rw [wpC_cond_t (by simp [k36, h89]), wpC_seq, wpC_seq, wpC_blk]
    refine go1 (v := .pointer (some ⟨w.heap.size, 3, none⟩)) rfl (by simp [k2]) ?_
    refine go1 (v := .int .i64 null) rfl (by simp [c1]) ?_
    refine go1 (v := .bool (decide (null ≥ 0))) rfl (by simp) (goEnd ?_)
    simp only [thenC]
    by_cases hn : null ≥ 0
    · rw [wpC_cond_t (by simp [hn]), wpC_seq, wpC_blk]
      refine go1 (v := .pointer (some ⟨w1.heap.size, 2, none⟩)) rfl (by simp [k3]) ?_
      refine go1 (v := .bool xn) rfl (by simp [c2]) ?_
      refine go1 (v := .bool xn) rfl (by simp) (goEnd ?_)
      simp only [thenC]
      repeat first | refine retThen ?_ | refine retBlk ?_
      exact fret _ _ xn (by simp) (by rw [if_pos hn]) hm02
    · rw [wpC_cond_f (by simp; omega), wpC_skip]
      simp only [thenC]
      obtain ⟨ib, ic, ei⟩ := a1.shape
      rw [wpC_seq, wpC_blk]
      refine go1 (v := .pointer (some ⟨w1.heap.size, 1, none⟩)) rfl (by simp [k3]) ?_
      refine go1 (v := sv) rfl (by simp [c2]) ?_
      refine go1 (v := .int .i64 (s.length : Nat)) rfl (by simp [ei]) ?_
      refine go1 (v := .bool (decide (s.length = 0))) rfl (by simp; rw [Bool.eq_iff_iff]; simp) ?_
      refine go1 (v := .bool (decide (s.length = 0))) rfl (by simp) (goEnd ?_)
      simp only [thenC]
      repeat first | refine retThen ?_ | refine retBlk ?_
      exact fret _ _ (decide (s.length = 0)) (by simp only [updo, upd_same]) (by rw [if_neg hn]) hm02
  rw [wpC_cond_f (by simp [k36, h89]), wpC_seq, wpC_blk]
  refine go1 (v := .bool false) rfl (by simp [k10]; omega) ?_
  refine go1 (v := .bool false) rfl (by simp) (goEnd ?_)
  simp only [thenC]
  rw [wpC_cond_f (by simp), wpC_seq, wpC_blk]
  refine go1 (v := .bool (decide (kind = 10))) rfl (by simp [k10]; rfl) ?_
  refine go1 (v := .bool (decide (kind = 10))) rfl (by simp) (goEnd ?_)
  simp only [thenC]
  by_cases h10 : kind = 10
  rotate_left
  · rw [wpC_cond_f (by simp [h10]), wpC_skip]
    refine hnorm _ (fun j hj => ?_) h89 h10
    simp only [updo, upd]
    repeat rw [if_neg (by omega)]
  have he : (FD.mk kind frm to null tag dfl of sub).isUs (.mk n s xn l u) = (isUsL sub 0 (.mk n s xn l u) && decide ((unknownP sub u).length = 0)) := by
    rw [FD.isUs, if_neg h89, if_pos h10]; rfl
  rw [he] at fret
  rw [wpC_cond_t (by simp [h10])]
  unfold ir_susual__3
  obtain ⟨sb, sc, es⟩ := hs1.shape
  rw [wpC_seq, wpC_seq, wpC_blk]
  refine go1 (v := .pointer (some ⟨w.heap.size, 7, none⟩)) rfl (by simp [k2]) ?_
  refine go1 (v := fv) rfl (by simp [c1]) ?_
  refine go1 (v := .int .i64 (sub.length : Nat)) rfl (by simp [es]) ?_
  refine go1 (v := .int .i64 (0 : Nat)) rfl (by simp) (goEnd ?_)
  simp only [thenC]
  refine rangeLoop (n := sub.length) (fun j σ w' => σ 2 = .pointer (some ⟨w.heap.size, 0, none⟩) ∧ σ 3 = .pointer (some ⟨w1.heap.size, 0, none⟩) ∧ σ 57 = fv ∧ σ 59 = .int .i64 (j : Nat) ∧ σ 58 = .int .i64 (sub.length : Nat) ∧ Mod [] w2 w' ∧ ∀ i, i < j → ∀ g, sub[i]? = some g → g.isUs (TR.at (.mk n s xn l u) i) = true) (by omega) (by omega) (fun j σ w h => ⟨h.2.2.2.1, h.2.2.2.2.1⟩) ?_ ?_ ?_
  · exact ⟨by simp [k2], by simp [k3], by simp, by simp, by simp, Mod.refl _ _, fun i hi => by omega⟩
  · rintro j σ4 w4 hj ⟨q2, q3, q57, q59, q58, hm4, hall⟩
    obtain ⟨g, hg⟩ : ∃ g, sub[j]? = some g := ⟨sub[j], by simp [hj]⟩
    obtain ⟨gcs, hcs, hrep⟩ := hs2.nth hg
    obtain ⟨a, c, ea, hjn, hcell⟩ := hs1.flat hs2.length hs2.eight hcs
    have hm04 := hm02.trans hm4
    have hcell4 : cellsAt w4 (a.add (j * 8)) 0 8 = some gcs := cellsAt_below hm04.below _ _ _ hcell
    rw [es] at ea
    simp only [Value.slice.injEq, true_and] at ea
    obtain ⟨ea, ec⟩ := ea
    subst ea
    unfold ir_susual__2
    rw [wpC_seq, wpC_blk]
    refine go1 (v := .int .i64 (j : Nat)) rfl (by simp [q59]) ?_
    refine go1 (v := .pointer (some (a.add (j * 8)))) rfl (by simp [q57, es, q59, hj]) ?_
    refine go1 (v := .agg gcs.toArray) rfl (by simp [hcell4]) ?_
    refine goAlloc fun w5 hb5 hm5 => ?_
    refine go1 (v := .int .i64 (j : Nat)) rfl (by simp) ?_
    refine goSt (b := w4.heap.size) (v := .agg gcs.toArray) (by simp) (by simp) hb5 (by simpa using hrep.eight) rfl (by simpa using hrep.oneCell) fun w6 hb6 hm6 => goEnd ?_
    simp only [thenC]
    have hb6 : Blk w6 w4.heap.size gcs := by simpa using hb6
    have hm46 : Mod [] w4 w6 := Mod.drop (b := w4.heap.size) (S := []) (hm5.nil.trans hm6) (Nat.le_refl _)
    have hm26 := hm4.trans hm46
    rw [wpC_seq]
    show wpD P _ [] _ w6.drew _
    have hmd : Mod [] w6 w6.drew := Mod.drew _ _
    have hm2d := hm26.trans hmd
    have hm0d := hm02.trans hm2d
    have hl6 := cellsAt_of' (hb6.mod hmd (by simp)).cells hrep.eight
    have hl2 := cellsAt_of' (hb2.mod hm2d (by simp)).cells h5
    refine wpD_of_B (fun i v w' => match i with | 3 => ∃ cs, v = .agg cs.toArray ∧ RepT anyB w' (TR.at (.mk n s xn l u) j) cs | 4 => v = .bool (g.isUs (TR.at (.mk n s xn l u) j)) | _ => True) (by
      intro i v w w' h hm
      split at h
      · obtain ⟨cs, e1, e2⟩ := h; exact ⟨cs, e1, e2.keep hm⟩
      · exact h
      · trivial) ?_
    refine bo1 (v := .agg gcs.toArray) rfl (by simp [hl6]) ?_
    refine bo1 (v := .agg [.int .i64 n, sv, .bool xn, lv, uv].toArray) rfl (by simp [q3, hl2]) ?_
    refine bo1 (v := .int .i64 (j : Nat)) rfl (by simp) ?_
    refine boCall (vs := [.agg [.int .i64 n, sv, .bool xn, lv, uv].toArray, .int .i64 (j : Nat)]) rfl (by simp) (fun w' hm' _ => (at_call hm hat (hrt0.keep (hm0d.trans hm'))).mono ?_) ?_
    · rintro e w'' ⟨cs, rfl, hr, hm2⟩; exact ⟨_, rfl, hm2, cs, rfl, hr⟩
    rintro v3 ⟨_, cs3, rfl, -⟩
    refine boCall (vs := [.agg gcs.toArray, .agg cs3.toArray]) rfl (by simp) (fun w' hm' hkn => ?_) ?_
    · have hk6 := known_get (j := 3) (t := 67) hkn (by simp) rfl rfl rfl rfl
      obtain ⟨cs, e1, e2⟩ : ∃ cs, Value.agg cs3.toArray = .agg cs.toArray ∧ RepT anyB w' (TR.at (.mk n s xn l u) j) cs := by simpa using hk6
      rw [e1]
      refine (hU g (List.mem_of_getElem? hg) w' gcs _ cs (hrep.keep (hm0d.trans hm')) e2).mono ?_
      rintro e w'' ⟨rfl, hmm⟩; exact ⟨_, rfl, hmm, rfl⟩
    rintro v4 ⟨_, e4⟩
    have e4 : v4 = .bool (g.isUs (TR.at (.mk n s xn l u) j)) := e4
    subst e4
    refine bo1 (v := .bool (!g.isUs (TR.at (.mk n s xn l u) j))) rfl (by simp) ?_
    intro w' hm' hkn
    refine goEnd ?_
    simp only [thenC]
    have hm2w := hm2d.trans hm'
    cases hus : g.isUs (TR.at (.mk n s xn l u) j) with
    | false =>
      rw [wpC_cond_t (by simp), wpC_seq, wpC_blk]
      refine go1 (v := .bool false) rfl rfl (goEnd ?_)
      simp only [thenC]
      repeat first | refine retRng ?_ | refine retThen ?_ | refine retBlk ?_
      refine fret _ _ false (by simp) ?_ (hm02.trans hm2w)
      symm
      rw [Bool.and_eq_false_iff]
      left
      cases hL : isUsL sub 0 (.mk n s xn l u) with
      | false => rfl
      | true =>
        have := isUsL_nth hL hg
        rw [Nat.zero_add, hus] at this
        cases this
    | true =>
      rw [wpC_cond_f (by simp), wpC_skip]
      simp only [rngP]
      refine ⟨by simp [q59], by simp [q2], by simp [q3], by simp [q57], by simp, by simp [q58], hm2w, fun i hi g' hg' => ?_⟩
      rcases Nat.lt_succ_iff_lt_or_eq.1 hi with hi | rfl
      · exact hall i hi g' hg'
      · rw [hg] at hg'; cases hg'; exact hus
  · rintro σ4 w4 ⟨q2, q3, q57, q59, q58, hm4, hall⟩
    simp only [thenC]
    have hL : isUsL sub 0 (.mk n s xn l u) = true := isUsL_all fun j g hg => by
      rw [Nat.zero_add]
      exact hall j (List.getElem?_eq_some_iff.1 hg).1 g hg
    rw [hL, Bool.true_and] at fret
    have hm04 := hm02.trans hm4
    have c14 := fun k => (hb1.mod hm4 (by simp)).cell k
    have c24 := fun k => (hb2.mod hm4 (by simp)).cell k
    rw [wpC_seq, wpC_blk]
    refine go1 (v := .pointer (some ⟨w.heap.size, 7, none⟩)) rfl (by simp [q2]) ?_
    refine go1 (v := fv) rfl (by simp [c14]) ?_
    refine go1 (v := .pointer (some ⟨w1.heap.size, 4, none⟩)) rfl (by simp [q3]) ?_
    refine go1 (v := uv) rfl (by simp [c24]) ?_
    refine goCall rfl (vs := [fv, uv]) (by simp) (unknown_call hm hun hkn (hs1.keep hm04) (hs2.keep hm04) (by omega) (fun f hf => FD.usK_tag (usKL_mem hsubs f hf)) (a4.keep hm04) (a5.keep hm04)) ?_
    rintro e w5 ⟨lv5, ucs, rfl, hl5, hu5, hm5⟩
    obtain ⟨ib, ic, ei⟩ := hl5.shape
    refine ⟨_, rfl, ?_⟩
    refine go1 (v := .int .i64 ((unknownP sub u).length : Nat)) rfl (by simp [ei]) ?_
    refine go1 (v := .bool (decide ((unknownP sub u).length = 0))) rfl (by simp; rw [Bool.eq_iff_iff]; simp) ?_
    refine go1 (v := .bool (decide ((unknownP sub u).length = 0))) rfl (by simp) (goEnd ?_)
    simp only [thenC]
    exact fret _ _ (decide ((unknownP sub u).length = 0)) (by simp only [updo, upd_same]) rfl (hm04.trans hm5)
mutual
/-- All fields of such kinds. -/
theorem FD.usKC (hm : P.follows .mixedOrders = true) (h : liftF P (F susual_) = some (ir_susual_ F)) (hat : liftF P (F sAt) = some (ir_sAt F)) (hsm : liftF P (F sSame) = some (ir_sSame F)) (hfx : liftF P (F sFixed) = some (ir_sFixed F)) (hwd : liftF P (F sWidth) = some (ir_sWidth F))
    (hun : liftF P (F sUnknown) = some (ir_sUnknown F)) (hkn : liftF P (F sKnown) = some (ir_sKnown F)) : ∀ f : FD, f.usK = true → UsC P F f
  | .mk kind frm to null tag dfl of sub, hk => by
    have hk' := hk
    simp only [FD.usK, Bool.and_eq_true] at hk'
    exact us_call hm h hat hsm hfx hwd hun hkn hk (FD.usKsC hm h hat hsm hfx hwd hun hkn sub hk'.2)
theorem FD.usKsC (hm : P.follows .mixedOrders = true) (h : liftF P (F susual_) = some (ir_susual_ F)) (hat : liftF P (F sAt) = some (ir_sAt F)) (hsm : liftF P (F sSame) = some (ir_sSame F)) (hfx : liftF P (F sFixed) = some (ir_sFixed F)) (hwd : liftF P (F sWidth) = some (ir_sWidth F))
    (hun : liftF P (F sUnknown) = some (ir_sUnknown F)) (hkn : liftF P (F sKnown) = some (ir_sKnown F)) : ∀ l : List FD, usKL l = true → ∀ f ∈ l, UsC P F f
  | [], _, f, hf => by simp at hf
  | a :: l, hk, f, hf => by
    simp only [usKL, Bool.and_eq_true] at hk
    rcases List.mem_cons.1 hf with e | hf
    · rw [e]; exact FD.usKC hm h hat hsm hfx hwd hun hkn a hk.1
    · exact FD.usKsC hm h hat hsm hfx hwd hun hkn l hk.2 f hf
end
end
end Go.Msk
