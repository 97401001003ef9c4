/- A small language of resolved operations, and what the generic and the generated functions do in it (part 6). -/
import Derived.Test.YtieneknlekaonaaDoorFe

/-! The code that a scheme gives reads what the scheme says: the whole. -/
namespace Go.Msk
open Go.RowKit
set_option maxRecDepth 100000

theorem splice_mid {pre old post vs : List Value} {o : Nat} (h : pre.length = o) (hl : vs.length = old.length) : splice (pre ++ (old ++ post)) o vs = pre ++ (vs ++ post) := by
  subst h
  simp [splice, hl]

theorem Df.zero_length (d : Df) : d.zero.length = d.size := by cases d <;> simp [Df.zero, Df.size, u8s]

section
variable {P : Program} {E : RE} {D : Dec}

/-- A simple field's cells are set. -/
theorem stF_mid {sp x t off n B base : Nat} {σ : Sl} {w : World} {v : Value} {pre old post : List Value} {Q : Exit → Sl → World → Prop} (hs : σ sp = .pointer (some ⟨B, base, none⟩)) (hx : σ x = v)
    (hb : Blk w B (pre ++ (old ++ post))) (hpre : pre.length = base + off) (hv : v.cells.size = n) (ho : old.length = n) (h1 : ∀ y ∈ v.cells.toList, y.oneCell' = true) (lx : x < t) (ls : sp < t)
    (hQ : ∀ σ' w', Ag t σ σ' → Mod [B] w w' → Blk w' B (pre ++ (v.cells.toList ++ post)) → Q .normal σ' w') : wpC P (stF sp x t off n) Q σ w := by
  have hl : v.cells.toList.length = n := by simpa using hv
  refine stF_wp hs hx hb (by simp only [List.length_append]; omega) hv h1 lx ls fun σ' a' => hQ σ' _ a' (Mod.put (by simp)) ?_
  have := hb.put (o := base + off) (vs := v.cells.toList) (by simp only [List.length_append]; omega)
  rwa [splice_mid hpre (by omega)] at this

theorem initF_wp {init : Option Value} {x : Nat} {l : List IC} {Q : Exit → Sl → World → Prop} {σ : Sl} {w : World} (h : ∀ σ', (∀ j, j ≠ x → σ' j = σ j) → wpL P l Q σ' w) : wpL P (initF init x ++ l) Q σ w := by
  cases init with
  | none => exact h σ fun _ _ => rfl
  | some v =>
    simp only [initF, List.cons_append, List.nil_append, wpL]
    refine cF_wp ?_
    simp only [thenC]
    exact h _ fun j hj => upd_ne _ _ hj

/-- The element of a list of simple values. -/
theorem elemP {nv t n A k c rb : Nat} {init : Option Value} {r : VR} {S : List Nat} {u x : Bool} {ver : Int} {z : List Value} {Te : TypeId} {ve : Value} {σ0 : Sl} {w0 : World} {dec : RS → GV × RS}
    (hE : RV.Env E nv rb u x ver σ0) (ha : σ0 (nv + 1) = .slice (some ⟨A, 0, none⟩) k c) (lt : nv + 5 ≤ t) (hr : RdG P (r.sel u x) n dec) (hz : z.length = n) (hrb : rb ∉ A :: S) (hS : ∀ y ∈ A :: S, y < w0.heap.size) :
    ElC P (initF init (nv + 4) ++ [r.gen E (nv + 4) t, stE nv (t + r.nt E.hasFx) n]) E.ret (nv + 4) (nv + 3) k n A rb S z Te ve σ0 w0 fun s => some (dec s) := by
  intro i σ w s pre post Q hi hag hic hm hrd hb hpre hQ
  refine initF_wp fun σ1 a1 => ?_
  simp only [wpL]
  have g1 : Ag nv σ0 σ1 := fun j hj => by rw [a1 j (by omega)]; exact hag j (by omega) (by omega)
  refine VR.wp r _ _ w (hE.ag g1 (Nat.le_refl _)) (by omega) (by omega) hr hrd hrb (fun y hy => Nat.lt_of_lt_of_le (hS y hy) hm.size) fun σ2 w2 v a2 v2 hv hr2 hm2 => ?_
  obtain ⟨hv1, hv2⟩ := hv
  have hArb : A ≠ rb := fun e => hrb (by rw [e]; exact List.mem_cons_self)
  have hb2 : Blk w2 A (pre ++ (z ++ post)) := hb.mod hm2 (by simpa using hArb)
  have hl : v.cells.toList.length = n := by simpa using hv1
  simp only [thenC]
  refine stE_wp (i := i) (k := k) (c := c) ?_ ?_ v2 hi hb2 (by simp only [List.length_append]; omega) hv1 hv2.oneCell (by omega) fun σ3 a3 => ?_
  · rw [a2 _ (by omega) (by omega), a1 _ (by omega), hag _ (by omega) (by omega)]; exact ha
  · rw [a2 _ (by omega) (by omega), a1 _ (by omega)]; exact hic
  have hput : Mod [A] w2 (putCells w2 ⟨A, i * n, none⟩ 0 v.cells.toList) := Mod.put (by simp)
  refine hQ _ _ v.cells.toList (fun j hj => ?_) ((hm2.mono (by simp)).trans (hput.mono (by simp))) (hr2.mod hput (by simpa using hArb.symm) (by simp)) (hv2.mod hput (by simp)) hl ?_
  · rw [a3 j (by omega), a2 j (by omega) (by omega), a1 j (by omega)]
  · have := hb2.put (o := i * n) (vs := v.cells.toList) (by simp only [List.length_append]; omega)
    rwa [splice_mid hpre (by omega)] at this

theorem rdF_wp {sp rb rbs t off B o : Nat} {f : FuncId} {S : List Nat} {s : RS} {σ : Sl} {w : World} {pre old post : List Value} {Φ : List Nat → RS → Value → World → Prop} {nx : RS → RS} {Q : Exit → Sl → World → Prop}
    (hR : RdV P f Φ nx) (hs : σ sp = .pointer (some ⟨B, o, none⟩)) (hrb : σ rbs = .pointer (some ⟨rb, 0, none⟩)) (_ls : sp < t) (lr : rbs < t) (hr : IsRd S w rb s) (hrS : rb ∉ S) (hBS : B ∈ S) (hS : ∀ y ∈ S, y < w.heap.size)
    (hb : Blk w B (pre ++ (old ++ post))) (hpre : pre.length = o + off) (ho : old.length = 1)
    (hone : ∀ O v w, Φ O s v w → v.cells.size = 1 ∧ ∀ y ∈ v.cells.toList, y.oneCell' = true)
    (hQ : ∀ σ' w1 w' v, Ag t σ σ' → Φ (rb :: S) s v w1 → Mod [rb] w w1 → Mod [B] w1 w' → IsRd S w' rb (nx s) → Blk w' B (pre ++ (v.cells.toList ++ post)) → Q .normal σ' w') : wpC P (rdF sp rbs t off f) Q σ w := by
  have hBrb : B ≠ rb := fun e => hrS (e ▸ hBS)
  simp only [rdF, wpC, wpR, RI.wp, gOk, if_true, RK.run, ev, updo, List.map_cons, List.map_nil]
  simp only [upd, if_true, hs, hrb, show rbs ≠ t by omega, if_false]
  refine (hR S w rb s hr hrS hS).mono ?_
  rintro e w1 ⟨v, rfl, hv, hr1, hm1⟩
  refine ⟨v, rfl, ?_⟩
  simp only [show t ≠ t + 1 by omega, show t + 1 ≠ t + 2 by omega, show t + 1 ≠ t + 3 by omega, if_false, Addr.add_mk]
  obtain ⟨h1, h2⟩ := hone _ _ _ hv
  have hl : v.cells.toList.length = 1 := by simpa using h1
  have hb1 : Blk w1 B (pre ++ (old ++ post)) := hb.mod hm1 (by simpa using hBrb)
  have hput : Mod [B] w1 (putCells w1 ⟨B, o + off, none⟩ 0 v.cells.toList) := Mod.put (by simp)
  refine ⟨h1, stOk_many hb1 (by simp only [List.length_append]; omega) h2, hQ _ w1 _ v ?_ hv hm1 hput (hr1.mod hput (by simpa using hBrb.symm) (by simpa using hBS)) ?_⟩
  · intro j hj
    simp only [upd, show j ≠ t by omega, show j ≠ t + 1 by omega, show j ≠ t + 2 by omega, show j ≠ t + 3 by omega, if_false]
  · have := hb1.put (o := o + off) (vs := v.cells.toList) (by simp only [List.length_append]; omega)
    rwa [splice_mid hpre (by omega)] at this



theorem uidR_wp {sp rb rbs nv t off B o : Nat} {f : FuncId} {S : List Nat} {s : RS} {σ : Sl} {w : World} {pre old post : List Value} {dec : RS → GV × RS} {Q : Exit → Sl → World → Prop}
    (hR : RdG P f 16 dec) (hs : σ sp = .pointer (some ⟨B, o, none⟩)) (hrb : σ rbs = .pointer (some ⟨rb, 0, none⟩)) (ls : sp < nv) (_lr : rbs < nv) (ln : nv < t) (hr : IsRd S w rb s) (hrS : rb ∉ S) (hBS : B ∈ S) (hS : ∀ y ∈ S, y < w.heap.size)
    (hb : Blk w B (pre ++ (old ++ post))) (hpre : pre.length = o + off) (ho : old.length = 16)
    (hQ : ∀ σ' w' cs, Ag nv σ σ' → Mod [rb, B] w w' → IsRd S w' rb (dec s).2 → Rep (rb :: S) w' (dec s).1 cs → cs.length = 16 → Blk w' B (pre ++ (cs ++ post)) → Q .normal σ' w') : wpC P (uidR sp rbs nv t off f) Q σ w := by
  have hBrb : B ≠ rb := fun e => hrS (e ▸ hBS)
  unfold uidR
  rw [wpC_seq, wpC_blk]
  refine wpR_call (vs := [.pointer (some ⟨rb, 0, none⟩)]) (by simp only [List.map_cons, List.map_nil, ev, hrb]) (hR S w rb s hr hrS hS) ?_
  rintro e w1 ⟨v, rfl, ⟨hv, hrep⟩, hr1, hm1⟩
  refine ⟨v, rfl, ?_⟩
  have hl : v.cells.toList.length = 16 := by simpa using hv
  have hb1 : Blk w1 B (pre ++ (old ++ post)) := hb.mod hm1 (by simpa using hBrb)
  refine wpR_run ?_
  intro T
  obtain ⟨k1, k2, k3⟩ := new_put w1 (u8s (List.replicate 16 0)) v.cells.toList T (by rw [hl]; rfl) hrep.oneCell
  generalize hw2 : w1.alloc (.cells (u8s (List.replicate 16 0)).toArray T) = w2 at k1 k2 k3 ⊢
  refine wpR_run ?_
  simp only [RK.run, ev, updo, upd, if_true, show t ≠ nv by omega, if_false]
  refine ⟨hv, k1, ?_⟩
  generalize putCells w2 ⟨w1.heap.size, 0, none⟩ 0 v.cells.toList = w3 at k2 k3 ⊢
  refine wpR_done ?_
  rw [wpC_blk]
  refine wpR_step (v := .pointer (some ⟨B, o, none⟩)) (by simp only [RK.val?, ev, upd, show sp ≠ nv by omega, show sp ≠ t by omega, if_false, hs]) ?_
  refine wpR_step (v := .agg v.cells.toList.toArray) (by
    simp only [RK.val?, ev, updo, upd, show nv ≠ t + 1 by omega, if_false, if_true, cellsAt_of' k2.cells hl, Option.map_some]) ?_
  refine wpR_step (v := .pointer (some ⟨B, o, none⟩)) (by simp only [RK.val?, ev, updo, upd, show t + 1 ≠ t + 2 by omega, if_false, if_true]) ?_
  refine wpR_step (v := .pointer (some ⟨B, o + off, none⟩)) (by simp only [RK.val?, ev, updo, upd_same, Addr.add_mk]) ?_
  have hb3 : Blk w3 B (pre ++ (old ++ post)) := hb1.mod k3 (by simp)
  have hput : Mod [B] w3 (putCells w3 ⟨B, o + off, none⟩ 0 v.cells.toList) := Mod.put (by simp)
  refine wpR_run ?_
  have ec : (Value.agg v.cells.toList.toArray).cells.toList = v.cells.toList := rfl
  simp only [RK.run, ev, updo, upd, show t + 2 ≠ t + 3 by omega, show t + 2 ≠ t + 4 by omega, if_false, if_true, ec]
  refine ⟨by show v.cells.toList.toArray.size = 16; simpa using hv, stOk_many hb3 (by simp only [List.length_append]; omega) hrep.oneCell, ?_⟩
  have hm13 : Mod [rb, B] w1 (putCells w3 ⟨B, o + off, none⟩ 0 v.cells.toList) := (k3.mono (by simp)).trans (hput.mono (by simp))
  simp only [wpR]
  refine hQ _ _ v.cells.toList (fun j hj => ?_) ((hm1.mono (by simp)).trans hm13) ((hr1.mod k3 (by simp) (by simp)).mod hput (by simpa using hBrb.symm) (by simpa using hBS)) ((hrep.mod k3 (by simp)).mod hput (by simpa using .inr hBS)) hl ?_
  · simp only [upd, show j ≠ t by omega, show j ≠ nv by omega, show j ≠ t + 1 by omega, show j ≠ t + 2 by omega, show j ≠ t + 3 by omega, show j ≠ t + 4 by omega, if_false]
  · have := hb3.put (o := o + off) (vs := v.cells.toList) (by simp only [List.length_append]; omega)
    rwa [splice_mid hpre (by omega)] at this

/-- What is to be shown of a scheme. -/
def Sc.Sound (P : Program) (E : RE) (D : Dec) (g rb : Nat) (Te : TypeId) (ve : Value) (u x : Bool) (ver : Int) (sc : Sc) : Prop :=
  ∀ (sp off nv nt nb B base : Nat) (S : List Nat) (s : RS) (pre post : List Value) (σ : Sl) (w : World) (Q : Exit → Sl → World → Prop), sc.Ok P D u x →
    RV.Env E nv rb u x ver σ → sp < nv → nv + sc.nv ≤ nt → σ sp = .pointer (some ⟨B, base, none⟩) → pre.length = base + off →
    IsRd S w rb s → rb ∉ S → B ∈ S → (∀ y ∈ S, y < w.heap.size) → GErr g w Te ve → g ∉ rb :: S → Blk w B (pre ++ (sc.dcs.flatten ++ post)) →
    (match sc.dec D ver x s with
      | some (gs, s') => ∀ σ' w' css, Ag nv σ σ' → Mod [rb, B] w w' → IsRd S w' rb s' → RepL (rb :: S) w' gs css → css.flatten.length = sc.dcs.flatten.length → Blk w' B (pre ++ (css.flatten ++ post)) → Q .normal σ' w'
      | none => ∀ σ' w', Mod [rb, B] w w' → σ' E.ret = .iface Te ve → Q .ret σ' w') →
    wpL P (sc.gen E sp off nv nt nb) Q σ w

/-- A field and then the rest. -/
theorem consD_wp {g rb B base sp off nv nt' nb nv' k : Nat} {Te : TypeId} {ve : Value} {u x : Bool} {ver : Int} {S : List Nat} {σ : Sl} {w : World} {pre post old : List Value} {rest : Sc} {c : IC}
    {f : Option (GV × RS)} {Q : Exit → Sl → World → Prop} (ih : rest.Sound P E D g rb Te ve u x ver) (hok : rest.Ok P D u x) (hE : RV.Env E nv rb u x ver σ) (ls : sp < nv) (hnv : nv ≤ nv') (hnt : nv' + rest.nv ≤ nt')
    (hs : σ sp = .pointer (some ⟨B, base, none⟩)) (hpre : pre.length = base + off) (hrb : rb ∉ S) (hB : B ∈ S) (hS : ∀ y ∈ S, y < w.heap.size) (hg : GErr g w Te ve) (hgn : g ∉ rb :: S) (hk : old.length = k)
    (hc : ∀ Q' : Exit → Sl → World → Prop, (match f with
        | some (gv, s') => ∀ σ' w' cs, Ag nv σ σ' → Mod [rb, B] w w' → IsRd S w' rb s' → Rep (rb :: S) w' gv cs → cs.length = k → Blk w' B (pre ++ (cs ++ (rest.dcs.flatten ++ post))) → Q' .normal σ' w'
        | none => ∀ σ' w', Mod [rb, B] w w' → σ' E.ret = .iface Te ve → Q' .ret σ' w') → wpC P c Q' σ w)
    (hQ : match consD f (rest.dec D ver x) with
      | some (gs, s') => ∀ σ' w' css, Ag nv σ σ' → Mod [rb, B] w w' → IsRd S w' rb s' → RepL (rb :: S) w' gs css → css.flatten.length = (old ++ rest.dcs.flatten).length → Blk w' B (pre ++ (css.flatten ++ post)) → Q .normal σ' w'
      | none => ∀ σ' w', Mod [rb, B] w w' → σ' E.ret = .iface Te ve → Q .ret σ' w') :
    wpL P (c :: rest.gen E sp (off + k) nv' nt' nb) Q σ w := by
  simp only [wpL]
  refine hc _ ?_
  cases f with
  | none =>
    simp only [consD] at hQ
    intro σ' w' hm hret
    exact hQ σ' w' hm hret
  | some p =>
    obtain ⟨gv, s1⟩ := p
    intro σ1 w1 cs a1 hm1 hr1 hrep hcs hb1
    simp only [thenC]
    have hgm : g ∉ [rb, B] := by
      simp only [List.mem_cons, not_or, List.not_mem_nil, not_false_eq_true, and_true] at hgn ⊢
      exact ⟨hgn.1, fun e => hgn.2 (e ▸ hB)⟩
    refine ih sp (off + k) nv' nt' nb B base S s1 (pre ++ cs) post σ1 w1 Q hok (hE.ag a1 hnv) (by omega) hnt (by rw [a1 _ ls]; exact hs) (by simp only [List.length_append]; omega) hr1 hrb hB
      (fun y hy => Nat.lt_of_lt_of_le (hS y hy) hm1.size) (cell_mod hg hm1 hgm) hgn (by simpa only [List.append_assoc] using hb1) ?_
    simp only [consD] at hQ
    cases hd : rest.dec D ver x s1 with
    | none =>
      rw [hd] at hQ
      intro σ' w' hm hret
      exact hQ σ' w' (hm1.trans hm) hret
    | some q =>
      obtain ⟨gs, s2⟩ := q
      rw [hd] at hQ
      intro σ' w' css a2 hm2 hr2 hrep2 hlen hb2
      refine hQ σ' w' (cs :: css) ((a1).trans (a2.mono hnv)) (hm1.trans hm2) hr2 (.cons (hrep.mod hm2 ?_) hrep2) ?_ ?_
      · simp only [List.mem_cons, List.not_mem_nil, or_false]
        rintro y (rfl | rfl)
        · exact .inl rfl
        · exact .inr hB
      · simp only [List.flatten_cons, List.length_append]; omega
      · simpa only [List.flatten_cons, List.append_assoc] using hb2

/-- A struct's own code, behind its default: its cells are all set. -/
theorem body_wp {g rb : Nat} {Te : TypeId} {ve : Value} {u x : Bool} {ver : Int} {body : Sc} (ihb : body.Sound P E D g rb Te ve u x ver) (hOb : body.Ok P D u x) {sp nv nt nb B base : Nat} {S : List Nat} {s : RS}
    {pre post : List Value} {σ : Sl} {w : World} {Q : Exit → Sl → World → Prop}
    (hE : RV.Env E nv rb u x ver σ) (ls : sp < nv) (hnt : nv + body.nv ≤ nt) (hs : σ sp = .pointer (some ⟨B, base, none⟩)) (hpre : pre.length = base)
    (hr : IsRd S w rb s) (hrb : rb ∉ S) (hB : B ∈ S) (hS : ∀ y ∈ S, y < w.heap.size) (hg : GErr g w Te ve) (hgn : g ∉ rb :: S) (hb : Blk w B (pre ++ (body.dcs.flatten ++ post)))
    (hQ : match rcdD (body.dec D ver x s) with
      | some (gv, s') => ∀ σ' w' cs, Ag nv σ σ' → Mod [rb, B] w w' → IsRd S w' rb s' → Rep (rb :: S) w' gv cs → cs.length = body.size → Blk w' B (pre ++ (cs ++ post)) → Q .normal σ' w'
      | none => ∀ σ' w', Mod [rb, B] w w' → σ' E.ret = .iface Te ve → Q .ret σ' w') : wpL P (body.gen E sp 0 nv nt nb) Q σ w := by
  refine ihb sp 0 nv nt nb B base S s pre post σ w Q hOb hE ls hnt hs hpre hr hrb hB hS hg hgn hb ?_
  cases hd : body.dec D ver x s with
  | none => rw [hd] at hQ; exact hQ
  | some q =>
    obtain ⟨gs, s'⟩ := q
    rw [hd] at hQ
    intro σ' w' css a' hm' hr' hrep' hl' hb'
    exact hQ σ' w' css.flatten a' hm' hr' (.rcd hrep') hl' hb'

/-- The element of a list of structs. -/
theorem elemS {g rb : Nat} {Te : TypeId} {ve : Value} {u x : Bool} {ver : Int} {body : Sc} (ihb : body.Sound P E D g rb Te ve u x ver) (hOb : body.Ok P D u x) {nv t nb A k c dfl : Nat} {S : List Nat} {z : List Value} {σ0 : Sl} {w0 : World}
    (hE : RV.Env E nv rb u x ver σ0) (ha : σ0 (nv + 1) = .slice (some ⟨A, 0, none⟩) k c) (lt : nv + 6 + body.nv ≤ t) (hz : z.length = body.size) (hD : DfC P dfl z body.dcs.flatten) (hrb : rb ∉ A :: S) (hS : ∀ y ∈ A :: S, y < w0.heap.size)
    (hg : GErr g w0 Te ve) (hgn : g ∉ rb :: A :: S) :
    ElC P (elF nv t z.length dfl ++ body.gen E (nv + 5) 0 (nv + 6) (t + 6) nb) E.ret (nv + 4) (nv + 3) k z.length A rb S z Te ve σ0 w0 fun s => rcdD (body.dec D ver x s) := by
  intro i σ w s pre post Q hi hag hic hm hrd hb hpre hQ
  dsimp only at hQ
  have hArb : A ≠ rb := fun e => hrb (by rw [e]; exact List.mem_cons_self)
  have hv1 : σ (nv + 1) = .slice (some ⟨A, 0, none⟩) k c := by rw [hag _ (by omega) (by omega)]; exact ha
  have hgm : g ∉ [rb, A] := by
    simp only [List.mem_cons, not_or] at hgn ⊢
    exact ⟨hgn.1, hgn.2.1, by simp⟩
  simp only [elF, List.cons_append, List.nil_append, wpL, wpC, wpR, RI.wp, gOk, if_true, RK.run, ev, updo, thenC]
  simp only [upd, if_true, hv1, hic, show nv + 3 ≠ t by omega, show t ≠ t + 1 by omega, if_false, Int.toNat_natCast, Addr.add_mk, Nat.zero_add, List.map_cons, List.map_nil, ev]
  refine ⟨by omega, by omega, ?_⟩
  have hcall := hD w A pre post hb
  rw [hpre] at hcall
  refine hcall.mono ?_
  rintro e w1 ⟨rfl, hb1, hm1⟩
  refine ⟨_, rfl, ?_⟩
  refine cpF_wp (by omega) fun σ1 a1 v1 => ?_
  simp only [thenC]
  have hagA : ∀ j, j < nv + 4 → σ1 j = σ j := by
    intro j hj
    rw [a1 j (by omega) (by omega)]
    simp only [upd, show j ≠ t by omega, show j ≠ t + 1 by omega, show j ≠ t + 2 by omega, show j ≠ t + 3 by omega, show j ≠ t + 4 by omega, show j ≠ nv + 4 by omega, if_false]
  have hE1 : RV.Env E (nv + 6) rb u x ver σ1 := hE.ag (fun j hj => by rw [hagA j (by omega)]; exact hag j (by omega) (by omega)) (by omega)
  have hm01 : Mod [rb, A] w0 w1 := hm.trans (hm1.mono (by simp))
  refine body_wp ihb hOb (B := A) (base := i * z.length) (S := A :: S) hE1 (by omega) (by omega) ?_ hpre (hrd.mod hm1 (by simpa using hArb.symm) (by simp)) hrb (by simp)
    (fun y hy => Nat.lt_of_lt_of_le (hS y hy) hm01.size) (cell_mod hg hm01 hgm) hgn hb1 ?_
  · rw [v1]; simp only [upd, show nv + 4 ≠ t + 3 by omega, show nv + 4 ≠ t + 4 by omega, if_false, if_true]
  · cases hd : rcdD (body.dec D ver x s) with
    | none =>
      rw [hd] at hQ
      intro σ' w' hm' hret
      exact hQ σ' w' ((hm1.mono (by simp)).trans hm') hret
    | some q =>
      obtain ⟨gv, s'⟩ := q
      rw [hd] at hQ
      intro σ' w' cs a' hm' hr' hrep' hl' hb'
      exact hQ σ' w' cs (fun j hj => by rw [a' j (by omega)]; exact hagA j (by omega)) ((hm1.mono (by simp)).trans hm') hr' hrep' (by rw [hl', hz]) hb'

theorem Sc.sound {g rb : Nat} {Te : TypeId} {ve : Value} {u x : Bool} {ver : Int} (hok : OkC P E.ok) (hcpl : CplC P E.cpl g) (hsh : D.Short) : ∀ sc : Sc, sc.Sound P E D g rb Te ve u x ver := by
  intro sc
  induction sc with
  | nil =>
    intro sp off nv nt nb B base S s pre post σ w Q hO hE ls hnt hs hpre hr hrb hB hS hg hgn hb hQ
    simp only [Sc.dec] at hQ
    exact hQ σ w [] (Ag.refl _ _) (Mod.refl _ _) hr .nil rfl hb
  | tags f =>
    intro sp off nv nt nb B base S s pre post σ w Q hO hE ls hnt hs hpre hr hrb hB hS hg hgn hb hQ
    simp only [Sc.dec] at hQ
    simp only [Sc.nv] at hnt
    have lb := hE.lb
    simp only [Sc.gen]
    cases hf : E.hasFx with
    | false =>
      have h0 := hE.h0 hf
      subst h0
      simp only [Bool.false_eq_true, if_false] at hQ ⊢
      exact hQ σ w [[.map none]] (Ag.refl _ _) (Mod.refl _ _) hr (.cons .tag0 .nil) rfl hb
    | true =>
      have lf := hE.lf hf
      simp only [if_true, wpL]
      rw [wpC_seq, wpC_blk]
      refine wpR_step (v := .bool x) (congrArg some (hE.hx hf)) ?_
      refine wpR_done ?_
      have hag : Ag nv σ (updo σ (some nt) (.bool x)) := (Ag.refl _ _).upd (by omega)
      cases x with
      | false =>
        rw [wpC_cond_f (by simp only [ev, updo, upd, if_true]), wpC_skip]
        simp only [Bool.false_eq_true, if_false] at hQ
        exact hQ _ w [[.map none]] hag (Mod.refl _ _) hr (.cons .tag0 .nil) rfl hb
      | true =>
        rw [wpC_cond_t (by simp only [ev, updo, upd, if_true])]
        simp only [if_true] at hQ
        have hb' : Blk w B (pre ++ ([Value.map none] ++ post)) := by simpa [Sc.dcs] using hb
        refine rdF_wp (old := [.map none]) (hO rfl) ((hag sp ls).trans hs) ((hag E.b lb).trans hE.hb) (by omega) (by omega) hr hrb hB hS hb' hpre rfl (fun O v w h => ⟨h.1, h.2.oneCell⟩) fun σ' w1 w' v a' hv m1 m2 hr' hbl => ?_
        have hl : v.cells.toList.length = 1 := by simpa using hv.1
        refine hQ σ' w' [v.cells.toList] (fun j hj => (a' j (by omega)).trans (hag j hj)) ((m1.mono (by simp)).trans (m2.mono (by simp))) hr' (.cons (hv.2.mod m2 (by simpa using .inr hB)) .nil) (by simp [Sc.dcs, hl]) (by simpa using hbl)
  | uid vc f rest ih =>
    intro sp off nv nt nb B base S s pre post σ w Q hO hE ls hnt hs hpre hr hrb hB hS hg hgn hb hQ
    obtain ⟨hR, hO⟩ := hO
    simp only [Sc.nv] at hnt
    simp only [Sc.dcs, List.flatten_cons] at hb
    have lb := hE.lb
    have h16 : (u8s (List.replicate 16 0)).length = 16 := by rfl
    refine consD_wp (old := u8s (List.replicate 16 0)) ih hO hE ls (nv' := nv + 1) (by omega) (by omega) hs hpre hrb hB hS hg hgn h16 (fun Q' hQ' => ?_) (by simpa only [Sc.dec, Sc.dcs, List.flatten_cons] using hQ)
    rw [List.append_assoc] at hb
    refine VC.wrap_wp hE (by omega) (fun hv σ1 a1 => ?_) fun hv σ1 a1 => ?_
    · rw [if_pos hv] at hQ'
      refine uidR_wp (old := u8s (List.replicate 16 0)) hR ((a1 sp (by omega)).trans hs) ((a1 E.b (by omega)).trans hE.hb) ls lb (by omega) hr hrb hB hS hb hpre h16 fun σ' w' cs a' hm' hr' hrep hl hb' => ?_
      exact hQ' σ' w' cs (fun j hj => (a' j hj).trans (a1 j (by omega))) hm' hr' hrep hl hb'
    · rw [if_neg (by simp [hv])] at hQ'
      exact hQ' σ1 w _ (fun j hj => a1 j (by omega)) (Mod.refl _ _) hr .arr h16 hb
  | prm vc init r p d rest ih =>
    intro sp off nv nt nb B base S s pre post σ w Q hO hE ls hnt hs hpre hr hrb hB hS hg hgn hb hQ
    obtain ⟨hR, hpd, hO⟩ := hO
    simp only [Sc.nv] at hnt
    simp only [Sc.dcs, List.flatten_cons] at hb
    have hBrb : B ≠ rb := fun e => hrb (e ▸ hB)
    refine consD_wp (old := d.cells) ih hO hE ls (nv' := nv + 1) (by omega) (by omega) hs hpre hrb hB hS hg hgn d.cells_length (fun Q' hQ' => ?_) (by simpa only [Sc.dec, Sc.dcs, List.flatten_cons] using hQ)
    rw [List.append_assoc] at hb
    refine VC.wrap_wp hE (by omega) (fun hv σ1 a1 => ?_) fun hv σ1 a1 => ?_
    · rw [if_pos hv] at hQ'
      rw [wpC_seqs]
      refine initF_wp fun σ2 a2 => ?_
      simp only [wpL]
      have g2 : Ag nv σ σ2 := fun j hj => by rw [a2 j (by omega)]; exact a1 j (by omega)
      refine VR.wp r _ _ w (hE.ag g2 (Nat.le_refl _)) (by omega) (by omega) hR hr hrb hS fun σ3 w3 v a3 v3 hv3 hr3 hm3 => ?_
      obtain ⟨hv1, hv2⟩ := hv3
      simp only [thenC]
      have g3 : Ag nv σ σ3 := fun j hj => by rw [a3 j (by omega) (by omega)]; exact g2 j hj
      refine stF_mid (old := d.cells) (by rw [g3 _ ls]; exact hs) v3 (hb.mod hm3 (by simpa using hBrb)) hpre (by rw [hv1, hpd]) d.cells_length hv2.oneCell (by omega) (by omega) fun σ4 w4 a4 hm4 hb4 => ?_
      refine hQ' σ4 w4 v.cells.toList (fun j hj => by rw [a4 j (by omega)]; exact g3 j hj) ((hm3.mono (by simp)).trans (hm4.mono (by simp))) (hr3.mod hm4 (by simpa using hBrb.symm) (by simpa using hB))
        (hv2.mod hm4 (by simpa using .inr hB)) (by rw [← hpd, ← hv1]; simp) hb4
    · rw [if_neg (by simp [hv])] at hQ'
      exact hQ' σ1 w d.cells (fun j hj => a1 j (by omega)) (Mod.refl _ _) hr (d.rep _ _) d.cells_length hb
  | enm vc init r p d rest ih =>
    intro sp off nv nt nb B base S s pre post σ w Q hO hE ls hnt hs hpre hr hrb hB hS hg hgn hb hQ
    obtain ⟨hR, hpd, hO⟩ := hO
    simp only [Sc.nv] at hnt
    simp only [Sc.dcs, List.flatten_cons] at hb
    have hBrb : B ≠ rb := fun e => hrb (e ▸ hB)
    refine consD_wp (old := d.cells) ih hO hE ls (nv' := nv + 3) (by omega) (by omega) hs hpre hrb hB hS hg hgn d.cells_length (fun Q' hQ' => ?_) (by simpa only [Sc.dec, Sc.dcs, List.flatten_cons] using hQ)
    rw [List.append_assoc] at hb
    refine VC.wrap_wp hE (by omega) (fun hv σ1 a1 => ?_) fun hv σ1 a1 => ?_
    · rw [if_pos hv] at hQ'
      rw [wpC_seqs]
      simp only [wpL]
      refine cF_wp ?_
      simp only [thenC]
      rw [wpC_seqs]
      simp only [wpL]
      have g2 : Ag nv σ (upd σ1 nv init) := fun j hj => by rw [upd_ne _ _ (by omega)]; exact a1 j (by omega)
      refine VR.wp r _ _ w (hE.ag g2 (Nat.le_refl _)) (by omega) (by omega) hR hr hrb hS fun σ3 w3 v a3 v3 hv3 hr3 hm3 => ?_
      obtain ⟨hv1, hv2⟩ := hv3
      simp only [thenC]
      have g3 : Ag nv σ σ3 := fun j hj => by rw [a3 j (by omega) (by omega)]; exact g2 j hj
      refine cpF_wp (by omega) fun σ5 a5 v5 => ?_
      simp only [thenC]
      refine cpF_wp (by omega) fun σ6 a6 v6 => ?_
      simp only [thenC]
      have g6 : Ag nv σ σ6 := fun j hj => by rw [a6 j (by omega) (by omega), a5 j (by omega) (by omega)]; exact g3 j hj
      refine stF_mid (old := d.cells) (by rw [g6 _ ls]; exact hs) (by rw [v6, v5]; exact v3) (hb.mod hm3 (by simpa using hBrb)) hpre (by rw [hv1, hpd]) d.cells_length hv2.oneCell (by omega) (by omega) fun σ4 w4 a4 hm4 hb4 => ?_
      refine hQ' σ4 w4 v.cells.toList (fun j hj => by rw [a4 j (by omega)]; exact g6 j hj) ((hm3.mono (by simp)).trans (hm4.mono (by simp))) (hr3.mod hm4 (by simpa using hBrb.symm) (by simpa using hB))
        (hv2.mod hm4 (by simpa using .inr hB)) (by rw [← hpd, ← hv1]; simp) hb4
    · rw [if_neg (by simp [hv])] at hQ'
      exact hQ' σ1 w d.cells (fun j hj => a1 j (by omega)) (Mod.refl _ _) hr (d.rep _ _) d.cells_length hb
  | lsp vc len bytes d init r p rest ih =>
    intro sp off nv nt nb B base S s pre post σ w Q hO hE ls hnt hs hpre hr hrb hB hS hg hgn hb hQ
    obtain ⟨hL, hby, hR, hpd, hO⟩ := hO
    simp only [Sc.nv] at hnt
    simp only [Sc.dcs, List.flatten_cons] at hb
    refine consD_wp (old := [.slice none 0 0]) ih hO hE ls (nv' := nv + 5) (by omega) (by omega) hs hpre hrb hB hS hg hgn rfl (fun Q' hQ' => ?_) (by simpa only [Sc.dec, Sc.dcs, List.flatten_cons] using hQ)
    rw [List.append_assoc] at hb
    refine VC.wrap_wp hE (by omega) (fun hv σ1 a1 => ?_) fun hv σ1 a1 => ?_
    · rw [if_pos hv] at hQ'
      have hE1 := hE.ag (a1.mono (m := nv) (by omega)) (Nat.le_refl _)
      refine lstF_wp (el := fun s => some (D.prim p x s)) hok hcpl hsh hE1 ls (by omega) (by rw [a1 _ (by omega)]; exact hs) hpre hr hrb hB hS hg hgn hb hL hby ?_ ?_
      · intro σ0 w0 A c n g0 v0 hm0 hA hA2
        rw [d.zero_length]
        exact elemP (hE1.ag g0 (Nat.le_refl _)) v0 (by omega) (hpd ▸ hR) d.zero_length (by simp only [List.mem_cons, not_or]; exact ⟨fun e => by have := hr.lt; omega, hrb⟩)
          (fun y hy => by rcases List.mem_cons.1 hy with rfl | hy
                          · exact hA2
                          · exact Nat.lt_of_lt_of_le (hS y hy) hm0.size)
      · rw [d.zero_length]
        cases hd : decLst D x d.size (fun s => some (D.prim p x s)) s with
        | none => rw [hd] at hQ'; exact hQ'
        | some q =>
          obtain ⟨gv, s'⟩ := q
          rw [hd] at hQ'
          intro σ' w' v a' hm' hr' hrep' hb'
          exact hQ' σ' w' [v] (fun j hj => by rw [a' j hj]; exact a1 j (by omega)) hm' hr' hrep' rfl hb'
    · rw [if_neg (by simp [hv])] at hQ'
      exact hQ' σ1 w [.slice none 0 0] (fun j hj => a1 j (by omega)) (Mod.refl _ _) hr .lst0 rfl hb
  | lss vc len bytes z dfl body rest ihb ih =>
    intro sp off nv nt nb B base S s pre post σ w Q hO hE ls hnt hs hpre hr hrb hB hS hg hgn hb hQ
    obtain ⟨hL, hby, hz, hD, hOb, hO⟩ := hO
    simp only [Sc.nv] at hnt
    simp only [Sc.dcs, List.flatten_cons] at hb
    refine consD_wp (old := [.slice none 0 0]) ih hO hE ls (nv' := nv + (6 + body.nv)) (by omega) (by omega) hs hpre hrb hB hS hg hgn rfl (fun Q' hQ' => ?_) (by simpa only [Sc.dec, Sc.dcs, List.flatten_cons] using hQ)
    rw [List.append_assoc] at hb
    refine VC.wrap_wp hE (by omega) (fun hv σ1 a1 => ?_) fun hv σ1 a1 => ?_
    · rw [if_pos hv] at hQ'
      have hE1 := hE.ag (a1.mono (m := nv) (by omega)) (Nat.le_refl _)
      refine lstF_wp (el := fun s => rcdD (body.dec D ver x s)) hok hcpl hsh hE1 ls (by omega) (by rw [a1 _ (by omega)]; exact hs) hpre hr hrb hB hS hg hgn hb hL hby ?_ ?_
      · intro σ0 w0 A c n g0 v0 hm0 hA hA2
        have hgn' := hgn
        simp only [List.mem_cons, not_or] at hgn
        refine elemS ihb hOb (hE1.ag g0 (Nat.le_refl _)) v0 (by omega) hz hD (by simp only [List.mem_cons, not_or]; exact ⟨fun e => by have := hr.lt; omega, hrb⟩)
          (fun y hy => by rcases List.mem_cons.1 hy with rfl | hy
                          · exact hA2
                          · exact Nat.lt_of_lt_of_le (hS y hy) hm0.size) (cell_mod hg hm0 (by simpa using hgn.1)) ?_
        simp only [List.mem_cons, not_or]
        exact ⟨hgn.1, fun e => by have : g < w.heap.size := World.block_lt_of_cell? w ⟨g, 0, none⟩ hg; omega, hgn.2⟩
      · rw [hz]
        cases hd : decLst D x body.size (fun s => rcdD (body.dec D ver x s)) s with
        | none => rw [hd] at hQ'; exact hQ'
        | some q =>
          obtain ⟨gv, s'⟩ := q
          rw [hd] at hQ'
          intro σ' w' v a' hm' hr' hrep' hb'
          exact hQ' σ' w' [v] (fun j hj => by rw [a' j hj]; exact a1 j (by omega)) hm' hr' hrep' rfl hb'
    · rw [if_neg (by simp [hv])] at hQ'
      exact hQ' σ1 w [.slice none 0 0] (fun j hj => a1 j (by omega)) (Mod.refl _ _) hr .lst0 rfl hb
  | sub vc dfl body rest ihb ih =>
    intro sp off nv nt nb B base S s pre post σ w Q hO hE ls hnt hs hpre hr hrb hB hS hg hgn hb hQ
    obtain ⟨hD, hOb, hO⟩ := hO
    simp only [Sc.nv] at hnt
    simp only [Sc.dcs, List.flatten_cons] at hb
    have hBrb : B ≠ rb := fun e => hrb (e ▸ hB)
    refine consD_wp (old := body.dcs.flatten) ih hO hE ls (nv' := nv + (2 + body.nv)) (by omega) (by omega) hs hpre hrb hB hS hg hgn rfl (fun Q' hQ' => ?_) (by simpa only [Sc.dec, Sc.dcs, List.flatten_cons] using hQ)
    rw [List.append_assoc] at hb
    refine VC.wrap_wp hE (by omega) (fun hv σ1 a1 => ?_) fun hv σ1 a1 => ?_
    · rw [if_pos hv] at hQ'
      rw [wpC_seqs]
      have hs1 : σ1 sp = .pointer (some ⟨B, base, none⟩) := by rw [a1 _ (by omega)]; exact hs
      simp only [List.cons_append, List.nil_append, wpL, wpC, wpR, RI.wp, gOk, if_true, RK.run, ev, updo, thenC]
      simp only [upd, if_true, hs1, Addr.add_mk, List.map_cons, List.map_nil, ev]
      have hcall := hD w B pre (rest.dcs.flatten ++ post) hb
      rw [hpre] at hcall
      refine hcall.mono ?_
      rintro e w2 ⟨rfl, hb2, hm2⟩
      refine ⟨_, rfl, ?_⟩
      refine cpF_wp (by omega) fun σ3 a3 v3 => ?_
      simp only [thenC]
      have g3 : Ag nv σ σ3 := by
        intro j hj
        rw [a3 j (by omega) (by omega)]
        simp only [upd, show j ≠ nv by omega, show j ≠ nt + vc.nt by omega, show j ≠ nt + vc.nt + 1 by omega, show j ≠ nt + vc.nt + 2 by omega, show j ≠ nt + vc.nt + 3 by omega, show j ≠ nt + vc.nt + 4 by omega, if_false]
        exact a1 j (by omega)
      have hgm : g ∉ [B] := by
        simp only [List.mem_cons, not_or, List.not_mem_nil, not_false_eq_true, and_true] at hgn ⊢
        exact fun e => hgn.2 (e ▸ hB)
      refine body_wp ihb hOb (B := B) (base := base + off) (S := S) (hE.ag g3 (by omega)) (by omega) (by omega) ?_ hpre (hr.mod hm2 (by simpa using hBrb.symm) (by simpa using hB)) hrb hB
        (fun y hy => Nat.lt_of_lt_of_le (hS y hy) hm2.size) (cell_mod hg hm2 hgm) hgn hb2 ?_
      · rw [v3]; simp only [upd, show nv ≠ nt + vc.nt + 3 by omega, show nv ≠ nt + vc.nt + 4 by omega, if_false, if_true]
      · cases hd : rcdD (body.dec D ver x s) with
        | none =>
          rw [hd] at hQ'
          intro σ' w' hm' hret
          exact hQ' σ' w' ((hm2.mono (by simp)).trans hm') hret
        | some q =>
          obtain ⟨gv, s'⟩ := q
          rw [hd] at hQ'
          intro σ' w' cs a' hm' hr' hrep' hl' hb'
          exact hQ' σ' w' cs (fun j hj => by rw [a' j (by omega)]; exact g3 j hj) ((hm2.mono (by simp)).trans hm') hr' hrep' hl' hb'
    · rw [if_neg (by simp [hv])] at hQ'
      exact hQ' σ1 w body.dcs.flatten (fun j hj => a1 j (by omega)) (Mod.refl _ _) hr (.rcd (body.drep _ _)) rfl hb

end
end Go.Msk

/-! Reading a whole message. -/
namespace Go.Msk
open Go.RowKit
set_option maxRecDepth 100000

/-- A message's reading: is the version read too, and by which method; from which version on it is flexible; its default; its fields. -/
structure Top where
  rv : Option FuncId
  flex : Option Int
  dfl : FuncId
  ok : FuncId
  cpl : FuncId
  sc : Sc
  deriving Inhabited

def Top.env (T : Top) : RE := ⟨7, 8, 9, 2, 6, T.flex.isSome, T.ok, T.cpl⟩
/-- The first slot behind the struct's own. -/
def Top.nv (T : Top) : Nat := if T.flex.isSome then 11 else 10
def Top.t0 (T : Top) : Nat := T.nv + T.sc.nv
/-- Slots before the version, and before the fields. -/
def Top.t1 (T : Top) : Nat := T.t0 + (if T.rv.isSome then 8 else 4)
def Top.t2 (T : Top) : Nat := T.t1 + (if T.flex.isSome then 8 else 5)

def Top.flexF (T : Top) : List IC :=
  match T.flex with
  | some n => [.blk [⟨some (T.t1 + 5), .mv (.tmp 8), none⟩, ⟨some (T.t1 + 6), .bin .geq (.tmp (T.t1 + 5)) (.const (.int .i16 n)), none⟩, ⟨some 9, .mv (.tmp (T.t1 + 6)), none⟩], .blk [⟨some (T.t1 + 7), .mv (.tmp 9), none⟩]]
  | none => []

def Top.verF (T : Top) : List IC :=
  match T.rv with
  | some f => [rdF 0 7 (T.t0 + 4) 0 f]
  | none => []

def Top.gen (T : Top) : IC × List RV × Nat :=
  (seqs ([cF 6 .nilIface, .blk [⟨some T.t0, .mv (.tmp 0), none⟩, ⟨some (T.t0 + 1), .call T.dfl [.tmp T.t0], none⟩],
     .blk [⟨some (T.t0 + 2), .mv (.tmp 1), none⟩, ⟨some (T.t0 + 3), .build [.slice none 0 0, .bool false] [(0, 1, .tmp (T.t0 + 2))], none⟩, ⟨some 7, .alloc [.slice none 0 0, .bool false], none⟩, ⟨none, .st (.tmp 7) 2 (.tmp (T.t0 + 3)), none⟩]] ++
    (T.verF ++ ([ldF 0 8 T.t1 0, .blk [⟨some (T.t1 + 4), .mv (.tmp 8), none⟩]] ++ (T.flexF ++ ([cpF 0 (T.nv - 1) T.t2] ++
    (T.sc.gen T.env (T.nv - 1) 1 T.nv (T.t2 + 1) 0 ++
     [.blk [⟨some (T.t2 + 1 + T.sc.nt T.flex.isSome), .call T.cpl [.tmp 7], none⟩, ⟨some 6, .mv (.tmp (T.t2 + 1 + T.sc.nt T.flex.isSome)), none⟩], .ret])))))),
   [.tmp 6], T.t2 + 2 + T.sc.nt T.flex.isSome)

/-- What the message reads as; the version that is set, or read. -/
def Top.x (T : Top) (ver : Int) : Bool := match T.flex with | some n => decide (ver ≥ n) | none => false

def Top.dec (T : Top) (D : Dec) (ver : Int) (s : RS) : Option ((Int × List GV) × RS) :=
  let (v, s1) := if T.rv.isSome then (IntKind.i16.wrap (rdN 2 s).1, (rdN 2 s).2) else (ver, s)
  match T.sc.dec D v (T.x v) s1 with
  | none => none
  | some (l, s2) => some ((v, l), s2)

section
variable {P : Program} {D : Dec}

/-- What is asked of the functions that a message's reading calls. -/
structure Top.Ok (T : Top) (P : Program) (D : Dec) (g : Nat) (u : Bool) : Prop where
  rv : ∀ f, T.rv = some f → RdC P f fun s => (.int .i16 (IntKind.i16.wrap (rdN 2 s).1), (rdN 2 s).2)
  ok : OkC P T.ok
  cpl : CplC P T.cpl g
  short : D.Short
  dfl : ∀ ver, DfC P T.dfl (.int .i16 ver :: T.sc.dcs.flatten) (.int .i16 ver :: T.sc.dcs.flatten)
  sc : ∀ x, (T.flex = none → x = false) → T.sc.Ok P D u x

theorem RdC.v {f : FuncId} {val : RS → Value × RS} (h : RdC P f val) : RdV P f (fun _ s v _ => v = (val s).1) fun s => (val s).2 :=
  fun S w rb s hr hrb _ => (h S w rb s hr hrb).mono fun _e _w' ⟨h1, h2, h3⟩ => ⟨_, h1, rfl, h2, h3⟩

theorem wpL_snoc2 {l : List IC} {a b : IC} {Q : Exit → Sl → World → Prop} {σ : Sl} {w : World} (h : wpL P l (thenC (wpL P [a, b] Q) Q) σ w) : wpL P (l ++ [a, b]) Q σ w := by
  rw [wpL_append]; exact h

theorem mkRd_wp {t : Nat} {σ : Sl} {w : World} {v : Value} {Q : Exit → Sl → World → Prop} (hv : σ 1 = v) (h1 : v.cells.size = 1) (h2 : ∀ y ∈ v.cells.toList, y.oneCell' = true) (lt : 8 ≤ t)
    (hQ : ∀ σ' w', (∀ j, j < t → j ≠ 7 → σ' j = σ j) → σ' 7 = .pointer (some ⟨w.heap.size, 0, none⟩) → Blk w' w.heap.size (v.cells.toList ++ [.bool false]) → Mod [] w w' → Q .normal σ' w') :
    wpC P (.blk [⟨some t, .mv (.tmp 1), none⟩, ⟨some (t + 1), .build [.slice none 0 0, .bool false] [(0, 1, .tmp t)], none⟩, ⟨some 7, .alloc [.slice none 0 0, .bool false], none⟩, ⟨none, .st (.tmp 7) 2 (.tmp (t + 1)), none⟩]) Q σ w := by
  have hl : v.cells.toList.length = 1 := by simpa using h1
  simp only [wpC, wpR, RI.wp, gOk, if_true, RK.run, ev, updo, List.map_cons, List.map_nil, fillL, upd_same, hv]
  rw [if_pos ⟨h1, by simp⟩]
  have e1 : splice [Value.slice none 0 0, .bool false] 0 v.cells.toList = v.cells.toList ++ [.bool false] := by
    simp [splice, hl]
  simp only [e1]
  intro T
  have ec : ∀ cs, (Value.agg cs).cells = cs := fun _ => rfl
  simp only [upd, if_true, show t + 1 ≠ 7 by omega, if_false, ec]
  obtain ⟨k1, k2, k3⟩ := new_put w [.slice none 0 0, .bool false] (v.cells.toList ++ [.bool false]) T (by simp [hl]) (by
    intro y hy
    rcases List.mem_append.1 hy with hy | hy
    · exact h2 y hy
    · simp only [List.mem_singleton] at hy; subst hy; rfl)
  refine ⟨by simp [h1], k1, hQ _ _ ?_ ?_ k2 k3⟩
  · intro j hj hne
    simp only [upd, hne, show j ≠ t by omega, show j ≠ t + 1 by omega, if_false]
  · simp only [upd, if_true]

theorem callF_wp {t x : Nat} {f : FuncId} {σ : Sl} {w : World} {v : Value} {R : Ending → World → Prop} {Q : Exit → Sl → World → Prop} (hx : σ x = v) (hc : Calls P f [v].toArray w R)
    (hQ : ∀ e w', R e w' → ∃ u, e = .returned u ∧ ∀ σ', Ag t σ σ' → Q .normal σ' w') : wpC P (.blk [⟨some t, .mv (.tmp x), none⟩, ⟨some (t + 1), .call f [.tmp t], none⟩]) Q σ w := by
  simp only [wpC, wpR, RI.wp, gOk, if_true, RK.run, ev, updo, List.map_cons, List.map_nil, upd_same, hx]
  refine hc.mono fun e w' hR => ?_
  obtain ⟨u, rfl, h⟩ := hQ e w' hR
  refine ⟨u, rfl, h _ fun j hj => ?_⟩
  simp only [upd, show j ≠ t by omega, show j ≠ t + 1 by omega, if_false]

theorem mvF_wp {t x : Nat} {σ : Sl} {w : World} {Q : Exit → Sl → World → Prop} (hQ : ∀ σ', Ag t σ σ' → Q .normal σ' w) : wpC P (.blk [⟨some t, .mv (.tmp x), none⟩]) Q σ w := by
  simp only [wpC, wpR, RI.wp, gOk, if_true, RK.run, ev, updo]
  exact hQ _ fun j hj => by simp only [upd, show j ≠ t by omega, if_false]

/-- The parts behind the version. -/
def Top.rest (T : Top) : List IC :=
  T.flexF ++ ([cpF 0 (T.nv - 1) T.t2] ++ (T.sc.gen T.env (T.nv - 1) 1 T.nv (T.t2 + 1) 0 ++
     [.blk [⟨some (T.t2 + 1 + T.sc.nt T.flex.isSome), .call T.cpl [.tmp 7], none⟩, ⟨some 6, .mv (.tmp (T.t2 + 1 + T.sc.nt T.flex.isSome)), none⟩], .ret]))

theorem Top.rest_wp {T : Top} {g : Nat} {u : Bool} (hT : T.Ok P D g u) {σ : Sl} {w w0 : World} {b0 rb : Nat} {ver : Int} {s : RS} {Te : TypeId} {ve : Value}
    (hb : Blk w b0 (.int .i16 ver :: T.sc.dcs.flatten)) (hr : IsRd [b0] w rb s) (hrb : rb ≠ b0) (hg : GErr g w Te ve) (hgb : g ≠ b0) (hgr : g ≠ rb) (hw0 : Mod [b0] w0 w) (hfr : w0.heap.size ≤ rb)
    (h0 : σ 0 = .pointer (some ⟨b0, 0, none⟩)) (h2 : σ 2 = .bool u) (h7 : σ 7 = .pointer (some ⟨rb, 0, none⟩)) (h8 : σ 8 = .int .i16 ver) :
    wpL P T.rest (postC [.tmp 6] fun e w' => Mod [b0] w0 w' ∧
      match T.sc.dec D ver (T.x ver) s with
      | none => e = .returned (.iface Te ve)
      | some (gs, s) => e = .returned (errVal s.bad Te ve) ∧ ∃ css, RepL [b0] w' gs css ∧ css.flatten.length = T.sc.dcs.flatten.length ∧ Blk w' b0 (.int .i16 ver :: css.flatten)) σ w := by
  have hnv10 : 10 ≤ T.nv := by unfold Top.nv; split <;> omega
  have ht0 : T.t0 = T.nv + T.sc.nv := rfl
  have ht1 : T.t0 + 4 ≤ T.t1 := by unfold Top.t1; split <;> omega
  have ht2 : T.t1 + 5 ≤ T.t2 := by unfold Top.t2; split <;> omega
  unfold Top.rest
  rw [wpL_append]
  have key : ∀ σ', (∀ j, j < T.t0 → j ≠ 9 → σ' j = σ j) → (T.flex.isSome = true → σ' 9 = .bool (T.x ver)) → wpL P ([cpF 0 (T.nv - 1) T.t2] ++ (T.sc.gen T.env (T.nv - 1) 1 T.nv (T.t2 + 1) 0 ++
     [.blk [⟨some (T.t2 + 1 + T.sc.nt T.flex.isSome), .call T.cpl [.tmp 7], none⟩, ⟨some 6, .mv (.tmp (T.t2 + 1 + T.sc.nt T.flex.isSome)), none⟩], .ret])) (postC [.tmp 6] fun e w' => Mod [b0] w0 w' ∧
      match T.sc.dec D ver (T.x ver) s with
      | none => e = .returned (.iface Te ve)
      | some (gs, s) => e = .returned (errVal s.bad Te ve) ∧ ∃ css, RepL [b0] w' gs css ∧ css.flatten.length = T.sc.dcs.flatten.length ∧ Blk w' b0 (.int .i16 ver :: css.flatten)) σ' w := by
    intro σ1 a1 h9
    simp only [List.cons_append, List.nil_append, wpL]
    refine cpF_wp (by omega) fun σ2 a2 v2 => ?_
    simp only [thenC]
    have a2' : ∀ j, j < T.nv - 1 → j ≠ 9 → σ2 j = σ j := fun j hj hne => by rw [a2 j (by omega) (by omega), a1 j (by omega) hne]
    have hE : RV.Env T.env T.nv rb u (T.x ver) ver σ2 := by
      refine ⟨by simp only [Top.env]; omega, by simp only [Top.env]; omega, fun hf => ?_, by simp only [Top.env]; omega, ?_, ?_, ?_, fun hf => ?_, fun hf => ?_⟩
      · simp only [Top.env] at hf ⊢; unfold Top.nv; rw [if_pos hf]; omega
      · exact (a2' 7 (by omega) (by omega)).trans h7
      · exact (a2' 8 (by omega) (by omega)).trans h8
      · exact (a2' 2 (by omega) (by omega)).trans h2
      · have hn : T.nv = 11 := by unfold Top.nv; rw [if_pos (show T.flex.isSome = true from hf)]
        show σ2 9 = _
        rw [a2 9 (by omega) (by omega)]; exact h9 hf
      · unfold Top.x; cases hfl : T.flex with
        | none => rfl
        | some n => simp only [Top.env, hfl, Option.isSome_some] at hf; exact absurd hf (by simp)
    rw [wpL_append]
    have hs := T.sc.sound (E := T.env) (g := g) (rb := rb) (Te := Te) (ve := ve) (u := u) (x := T.x ver) (ver := ver) hT.ok hT.cpl hT.short
    refine hs (T.nv - 1) 1 T.nv (T.t2 + 1) 0 b0 0 [b0] s [.int .i16 ver] [] σ2 w _ (hT.sc _ fun hf => by unfold Top.x; rw [hf]) hE (by omega) (by omega) ?_ (by simp) hr (by simpa using hrb) (by simp)
      (fun y hy => by simp only [List.mem_singleton] at hy; subst hy; exact hb.lt) hg (by simp [hgb, hgr]) (by simpa using hb) ?_
    · rw [v2, a1 _ (by omega) (by omega)]; exact h0
    · have hdrop : ∀ {w'}, Mod [rb, b0] w w' → Mod [b0] w0 w' := fun h => Mod.drop (b := rb) ((hw0.mono (by simp)).trans h) hfr
      cases hd : T.sc.dec D ver (T.x ver) s with
      | none =>
        intro σ' w' hm' hret
        have hret : σ' 6 = .iface Te ve := hret
        simp only [thenC, postC, rvals, List.mapM_cons, List.mapM_nil, RV.val, hret, Option.bind_eq_bind, Option.bind_some, Option.pure_def, tup_one]
        exact ⟨hdrop hm', trivial⟩
      | some q =>
        obtain ⟨gs, s'⟩ := q
        intro σ' w' css a' hm' hr' hrep hl' hb'
        have h7' : σ' 7 = .pointer (some ⟨rb, 0, none⟩) := (a' 7 (by omega)).trans ((a2' 7 (by omega) (by omega)).trans h7)
        have hg' : GErr g w' Te ve := cell_mod hg hm' (by simp [hgb, hgr])
        simp only [thenC, wpL, wpC, wpR, RI.wp, gOk, if_true, RK.run, ev, updo, List.map_cons, List.map_nil, h7']
        refine (hT.cpl [b0] w' rb s' Te ve hr' hg').mono ?_
        rintro e w2 ⟨rfl, rfl⟩
        refine ⟨_, rfl, ?_⟩
        simp only [postC, rvals, List.mapM_cons, List.mapM_nil, RV.val, upd, if_true, Option.bind_eq_bind, Option.bind_some, Option.pure_def, tup_one]
        refine ⟨hdrop hm', trivial, css, hrep.weaken (by simp), hl', by simpa using hb'⟩
  unfold Top.flexF
  cases hf : T.flex with
  | none =>
    rw [hf] at key
    exact key σ (fun _ _ _ => rfl) (fun h => by simp at h)
  | some n =>
    rw [hf] at key
    simp only [wpL, wpC, wpR, RI.wp, gOk, if_true, RK.run, ev, updo, thenC, upd_same]
    have hx : T.x ver = decide (ver ≥ n) := by unfold Top.x; rw [hf]
    simp only [if_true, h8, isShift, decide_true, Bool.or_true, intBin]
    refine key _ ?_ ?_
    · intro j hj hne
      simp only [upd, hne, show j ≠ T.t1 + 5 by omega, show j ≠ T.t1 + 6 by omega, show j ≠ T.t1 + 7 by omega, if_false]
    · intro _
      simp only [upd, show (9 : Nat) ≠ T.t1 + 7 by omega, if_false, if_true, hx]

theorem Top.read_call {T : Top} {g : Nat} {u : Bool} (hm : P.follows .mixedOrders = true) {f : FuncId} (h : liftF P f = some T.gen) (hT : T.Ok P D g u) {w : World} {b0 : Nat} {ver : Int} {base : Option Addr} {len cap : Nat} {src : List UInt8}
    {Te : TypeId} {ve : Value} (hb : Blk w b0 (.int .i16 ver :: T.sc.dcs.flatten)) (hsrc : IsBytes w base len cap src) (hbase : ∀ a, base = some a → a.block ≠ b0 ∧ a.block < w.heap.size) (hshort : src.length ≤ 2147483647)
    (hg : GErr g w Te ve) (hgb : g ≠ b0) :
    Calls P f [.pointer (some ⟨b0, 0, none⟩), .slice base len cap, .bool u].toArray w fun e w' => Mod [b0] w w' ∧
      match T.dec D ver ⟨src, false, base.isNone⟩ with
      | none => e = .returned (.iface Te ve)
      | some ((v, gs), s) => e = .returned (errVal s.bad Te ve) ∧ ∃ css, RepL [b0] w' gs css ∧ css.flatten.length = T.sc.dcs.flatten.length ∧ Blk w' b0 (.int .i16 v :: css.flatten) := by
  have hnv10 : 10 ≤ T.nv := by unfold Top.nv; split <;> omega
  have ht0 : T.t0 = T.nv + T.sc.nv := rfl
  have ht1 : T.t0 + 4 ≤ T.t1 := by unfold Top.t1; split <;> omega
  have ht2 : T.t1 + 5 ≤ T.t2 := by unfold Top.t2; split <;> omega
  unfold Top.gen at h
  refine call_of h hm (by simp only [List.length_cons, List.length_nil]; omega) ?_
  rw [wpC_seqs]
  have s0 : args0 [.pointer (some ⟨b0, 0, none⟩), .slice base len cap, .bool u] 0 = .pointer (some ⟨b0, 0, none⟩) := rfl
  have s1 : args0 [.pointer (some ⟨b0, 0, none⟩), .slice base len cap, .bool u] 1 = .slice base len cap := rfl
  have s2 : args0 [.pointer (some ⟨b0, 0, none⟩), .slice base len cap, .bool u] 2 = .bool u := rfl
  generalize args0 [.pointer (some ⟨b0, 0, none⟩), .slice base len cap, .bool u] = σ0 at s0 s1 s2
  simp only [List.cons_append, List.nil_append, wpL]
  refine cF_wp ?_
  simp only [thenC]
  have hd := hT.dfl ver w b0 [] [] (by simpa using hb)
  refine callF_wp (v := .pointer (some ⟨b0, 0, none⟩)) (by rw [upd_ne _ _ (by omega)]; exact s0) hd ?_
  rintro e w1 ⟨rfl, hb1, hm1⟩
  refine ⟨_, rfl, fun σ1 a1 => ?_⟩
  simp only [List.nil_append, List.append_nil] at hb1
  simp only [thenC]
  refine mkRd_wp (v := .slice base len cap) (by rw [a1 _ (by omega), upd_ne _ _ (by omega)]; exact s1) rfl (by simp [Value.cells, Value.oneCell']) (by omega) fun σ2 w2 a2 v2 hb2 hm2 => ?_
  simp only [thenC]
  have a2' : ∀ j, j < T.t0 → j ≠ 6 → j ≠ 7 → σ2 j = σ0 j := fun j hj h6 h7 => by rw [a2 j (by omega) h7, a1 j (by omega), upd_ne _ _ h6]
  have hb12 : Blk w2 b0 (.int .i16 ver :: T.sc.dcs.flatten) := hb1.mod hm2 (by simp)
  have hr2 : IsRd [b0] w2 w1.heap.size ⟨src, false, base.isNone⟩ := by
    refine ⟨⟨base, len, cap, hb2, ((hsrc.mod hm1 (fun a ha => by simpa using (hbase a ha).1)).mod hm2 (by simp)), rfl, fun a ha => ⟨?_, by simpa using (hbase a ha).1, Nat.lt_of_lt_of_le (hbase a ha).2 (Nat.le_trans hm1.size hm2.size)⟩⟩, hshort⟩
    have := (hbase a ha).2; have := hm1.size; omega
  have hgl : g < w.heap.size := World.block_lt_of_cell? w ⟨g, 0, none⟩ hg
  have hg2 : GErr g w2 Te ve := cell_mod (cell_mod hg hm1 (by simpa using hgb)) hm2 (by simp)
  have hgr : g ≠ w1.heap.size := by have := hm1.size; omega
  have hbr : w1.heap.size ≠ b0 := by have := hb1.lt; omega
  rw [wpL_append]
  -- from the version on
  have key : ∀ σ3 w3 v s, (∀ j, j < T.t0 → j ≠ 6 → j ≠ 7 → σ3 j = σ0 j) → σ3 7 = .pointer (some ⟨w1.heap.size, 0, none⟩) → Blk w3 b0 (.int .i16 v :: T.sc.dcs.flatten) → IsRd [b0] w3 w1.heap.size s → GErr g w3 Te ve → Mod [b0] w w3 →
      wpL P (ldF 0 8 T.t1 0 :: .blk [⟨some (T.t1 + 4), .mv (.tmp 8), none⟩] :: T.rest) (postC [.tmp 6] fun e w' => Mod [b0] w w' ∧
        match T.sc.dec D v (T.x v) s with
        | none => e = .returned (.iface Te ve)
        | some (gs, s) => e = .returned (errVal s.bad Te ve) ∧ ∃ css, RepL [b0] w' gs css ∧ css.flatten.length = T.sc.dcs.flatten.length ∧ Blk w' b0 (.int .i16 v :: css.flatten)) σ3 w3 := by
    intro σ3 w3 v s a3 h7 hb3 hr3 hg3 hm3
    simp only [wpL]
    refine ldF_wp (v := .int .i16 v) (by rw [a3 0 (by omega) (by omega) (by omega)]; exact s0) hb3 rfl (by omega) (by omega) fun σ4 a4 v4 => ?_
    simp only [thenC]
    refine mvF_wp fun σ5 a5 => ?_
    simp only [thenC]
    have a5' : ∀ j, j < T.t0 → j ≠ 6 → j ≠ 7 → j ≠ 8 → σ5 j = σ0 j := fun j hj h6 h7 h8 => by rw [a5 j (by omega), a4 j (by omega) h8, a3 j hj h6 h7]
    refine Top.rest_wp hT hb3 hr3 hbr hg3 hgb hgr hm3 hm1.size ?_ ?_ ?_ ?_
    · rw [a5' 0 (by omega) (by omega) (by omega) (by omega)]; exact s0
    · rw [a5' 2 (by omega) (by omega) (by omega) (by omega)]; exact s2
    · rw [a5 7 (by omega), a4 7 (by omega) (by omega)]; exact h7
    · rw [a5 8 (by omega)]; exact v4
  have eQ : ∀ v s, (T.dec D ver ⟨src, false, base.isNone⟩ = match T.sc.dec D v (T.x v) s with | none => none | some (l, s2) => some ((v, l), s2)) →
      (fun (e : Ending) (w' : World) => Mod [b0] w w' ∧ match T.dec D ver ⟨src, false, base.isNone⟩ with
        | none => e = .returned (.iface Te ve)
        | some ((v, gs), s) => e = .returned (errVal s.bad Te ve) ∧ ∃ css, RepL [b0] w' gs css ∧ css.flatten.length = T.sc.dcs.flatten.length ∧ Blk w' b0 (.int .i16 v :: css.flatten)) =
      (fun e w' => Mod [b0] w w' ∧ match T.sc.dec D v (T.x v) s with
        | none => e = .returned (.iface Te ve)
        | some (gs, s) => e = .returned (errVal s.bad Te ve) ∧ ∃ css, RepL [b0] w' gs css ∧ css.flatten.length = T.sc.dcs.flatten.length ∧ Blk w' b0 (.int .i16 v :: css.flatten)) := by
    intro v s h
    funext e w'
    rw [h]
    cases T.sc.dec D v (T.x v) s <;> rfl
  cases hrv : T.rv with
  | none =>
    rw [eQ ver ⟨src, false, base.isNone⟩ (by unfold Top.dec; rw [hrv]; rfl)]
    have hv0 : T.verF = [] := by unfold Top.verF; rw [hrv]
    rw [hv0]
    simp only [wpL, thenC]
    exact key σ2 w2 ver ⟨src, false, base.isNone⟩ a2' v2 hb12 hr2 hg2 (hm1.trans hm2.nil)
  | some f =>
    rw [eQ (IntKind.i16.wrap (rdN 2 ⟨src, false, base.isNone⟩).1) (rdN 2 ⟨src, false, base.isNone⟩).2 (by unfold Top.dec; rw [hrv]; rfl)]
    have hv0 : T.verF = [rdF 0 7 (T.t0 + 4) 0 f] := by unfold Top.verF; rw [hrv]
    rw [hv0]
    simp only [wpL]
    have ht1' : T.t0 + 8 = T.t1 := by unfold Top.t1; rw [hrv]; rfl
    refine rdF_wp (S := [b0]) (pre := []) (old := [.int .i16 ver]) (post := T.sc.dcs.flatten) (hT.rv f hrv).v (by rw [a2' 0 (by omega) (by omega) (by omega)]; exact s0) v2 (by omega) (by omega) hr2 (by simpa using hbr) (by simp)
      (fun y hy => by simp only [List.mem_singleton] at hy; subst hy; exact hb12.lt) (by simpa using hb12) rfl rfl (fun O v w h => by rw [h]; exact ⟨rfl, by simp [Value.cells, Value.oneCell']⟩) fun σ3 wm w3 v a3 hv hm3 hm4 hr3 hb3 => ?_
    subst hv
    simp only [thenC]
    exact key σ3 w3 _ _ (fun j hj h6 h7 => by rw [a3 j (by omega)]; exact a2' j hj h6 h7) (by rw [a3 7 (by omega)]; exact v2) (by simpa [Value.cells] using hb3) hr3 (cell_mod (cell_mod hg2 hm3 (by simpa using hgr)) hm4 (by simpa using hgb))
      (Mod.drop (b := w1.heap.size) (S := [b0]) (((hm1.trans hm2.nil).mono (by simp)).trans ((hm3.mono (by simp)).trans (hm4.mono (by simp)))) hm1.size)

end
end Go.Msk

/-! Trees: what a message says, and how it lies in memory. -/
namespace Go.Msk
open Go.RowKit
set_option maxRecDepth 100000

inductive TR where
  | mk (n : Int) (s : List UInt8) (null : Bool) (l : List TR) (u : List (Nat × List UInt8))
  deriving Inhabited

/-- The cells of unknown tags. -/
inductive RepU (ok : Nat → Prop) (w : World) : List (Nat × List UInt8) → List (List Value) → Prop
  | nil : RepU ok w [] []
  | cons {k : Nat} {b : List UInt8} {u : List (Nat × List UInt8)} {v : Value} {css : List (List Value)} : SlC ok w v b.length (u8s b) → RepU ok w u css → RepU ok w ((k, b) :: u) ([.int .u32 k, v] :: css)

mutual
inductive RepT (ok : Nat → Prop) (w : World) : TR → List Value → Prop
  | mk {n : Int} {s : List UInt8} {null : Bool} {l : List TR} {u : List (Nat × List UInt8)} {sv lv uv : Value} {css uss : List (List Value)} : SlC ok w sv s.length (u8s s) → SlC ok w lv l.length css.flatten → RepTL ok w l css →
      SlC ok w uv u.length uss.flatten → RepU ok w u uss → RepT ok w (.mk n s null l u) [.int .i64 n, sv, .bool null, lv, uv]
inductive RepTL (ok : Nat → Prop) (w : World) : List TR → List (List Value) → Prop
  | nil : RepTL ok w [] []
  | cons {t : TR} {l : List TR} {cs : List Value} {css : List (List Value)} : RepT ok w t cs → RepTL ok w l css → RepTL ok w (t :: l) (cs :: css)
end

theorem RepU.mod {ok ok' : Nat → Prop} {S : List Nat} {w w' : World} {u : List (Nat × List UInt8)} {css : List (List Value)} (h : RepU ok w u css) (hm : Mod S w w') (hS : ∀ b ∈ S, ¬ ok b) (ho : ∀ b, b < w.heap.size → ok b → ok' b) : RepU ok' w' u css := by
  induction h with
  | nil => exact .nil
  | cons h _ ih => exact .cons (h.mod hm hS ho) ih

theorem RepT.mod {ok ok' : Nat → Prop} {S : List Nat} {w w' : World} (hm : Mod S w w') (hS : ∀ b ∈ S, ¬ ok b) (ho : ∀ b, b < w.heap.size → ok b → ok' b) {t : TR} {cs : List Value} (h : RepT ok w t cs) : RepT ok' w' t cs := by
  refine RepT.rec (motive_1 := fun t cs _ => RepT ok' w' t cs) (motive_2 := fun l css _ => RepTL ok' w' l css) ?_ ?_ ?_ h
  · intro n s null l u sv lv uv css uss h1 h2 _ h4 h5 ih
    exact .mk (h1.mod hm hS ho) (h2.mod hm hS ho) ih (h4.mod hm hS ho) (h5.mod hm hS ho)
  · exact .nil
  · intro t l cs css _ _ ih1 ih2; exact .cons ih1 ih2

theorem RepTL.mod {ok ok' : Nat → Prop} {S : List Nat} {w w' : World} (hm : Mod S w w') (hS : ∀ b ∈ S, ¬ ok b) (ho : ∀ b, b < w.heap.size → ok b → ok' b) {l : List TR} {css : List (List Value)} (h : RepTL ok w l css) : RepTL ok' w' l css := by
  induction l generalizing css with
  | nil => cases h; exact .nil
  | cons t l ih => cases h with | cons h1 h2 => exact .cons (h1.mod hm hS ho) (ih h2)

theorem RepTL.append {ok : Nat → Prop} {w : World} {l l' : List TR} {css css' : List (List Value)} (h : RepTL ok w l css) (h' : RepTL ok w l' css') : RepTL ok w (l ++ l') (css ++ css') := by
  induction l generalizing css with
  | nil => cases h; exact h'
  | cons g l ih => cases h with | cons h1 h2 => exact .cons h1 (ih h2)

theorem RepTL.length {ok : Nat → Prop} {w : World} {l : List TR} {css : List (List Value)} (h : RepTL ok w l css) : l.length = css.length := by
  induction l generalizing css with
  | nil => cases h; rfl
  | cons g l ih => cases h with | cons h1 h2 => simp [ih h2]

theorem RepT.five {ok : Nat → Prop} {w : World} {t : TR} {cs : List Value} (h : RepT ok w t cs) : cs.length = 5 := by cases h; rfl
theorem RepTL.five {ok : Nat → Prop} {w : World} {l : List TR} {css : List (List Value)} (h : RepTL ok w l css) : ∀ cs ∈ css, cs.length = 5 := by
  induction l generalizing css with
  | nil => cases h; simp
  | cons g l ih =>
    cases h with
    | cons h1 h2 =>
      intro cs hc
      rcases List.mem_cons.1 hc with rfl | hc
      · exact h1.five
      · exact ih h2 cs hc

theorem RepT.oneCell {ok : Nat → Prop} {w : World} {t : TR} {cs : List Value} (h : RepT ok w t cs) : ∀ v ∈ cs, v.oneCell' = true := by
  cases h with
  | mk h1 h2 h3 h4 h5 =>
    intro v hv
    simp only [List.mem_cons, List.not_mem_nil, or_false] at hv
    rcases hv with rfl | rfl | rfl | rfl | rfl
    · rfl
    · exact h1.one
    · rfl
    · exact h2.one
    · exact h4.one

/-- Nothing. -/
def TR.zero : TR := .mk 0 [] false [] []
def tzero : List Value := [.int .i64 0, .slice none 0 0, .bool false, .slice none 0 0, .slice none 0 0]

theorem RepT.num {ok : Nat → Prop} {w : World} (n : Int) (b : Bool) : RepT ok w (.mk n [] b [] []) [.int .i64 n, .slice none 0 0, .bool b, .slice none 0 0, .slice none 0 0] :=
  .mk (css := []) (uss := []) SlC.nil SlC.nil .nil SlC.nil .nil

theorem RepT.zero {ok : Nat → Prop} {w : World} : RepT ok w TR.zero tzero := .num 0 false

theorem RepT.oct {ok : Nat → Prop} {w : World} {v : Value} {s : List UInt8} (b : Bool) (h : SlC ok w v s.length (u8s s)) : RepT ok w (.mk 0 s b [] []) [.int .i64 0, v, .bool b, .slice none 0 0, .slice none 0 0] :=
  .mk (css := []) (uss := []) h SlC.nil .nil SlC.nil .nil

/-- A function that hands back a tree, all of it new. -/
def TellC (P : Program) (f : FuncId) (args : List Value) (w : World) (t : TR) : Prop :=
  Calls P f args.toArray w fun e w' => ∃ cs, e = .returned (.agg cs.toArray) ∧ RepT (fun b => w.heap.size ≤ b) w' t cs ∧ Mod [] w w'

/-- Tags by rising numbers (the numbers differ). -/
def insT (k : Nat) (l : List UInt8) : List (Nat × List UInt8) → List (Nat × List UInt8)
  | [] => [(k, l)]
  | (k', l') :: m => if k < k' then (k, l) :: (k', l') :: m else (k', l') :: insT k l m
def sortT : List (Nat × List UInt8) → List (Nat × List UInt8)
  | [] => []
  | (k, l) :: m => insT k l (sortT m)

/-- The unknown tags of a struct. -/
def GV.tagsF : List GV → List (Nat × List UInt8)
  | [] => []
  | .tag m :: _ => sortT m
  | _ :: l => GV.tagsF l

mutual
/-- What a value is told as. -/
def GV.told : GV → TR
  | .num (.int _ n) => .mk (IntKind.i64.wrap n) [] false [] []
  | .num (.bool b) => .mk (if b then 1 else 0) [] false [] []
  | .num (.string s) => .mk 0 s.data.toList false [] []
  | .num _ => .zero
  | .nstr none => .mk 0 [] true [] []
  | .nstr (some l) => .mk 0 l false [] []
  | .byt none => .mk 0 [] true [] []
  | .byt (some l) => .mk 0 l false [] []
  | .arr l => .mk 0 l false [] []
  | .lst isnil _ l => .mk 0 [] isnil (GV.toldL l) []
  | .rcd l => .mk 0 [] false (GV.toldF l) (GV.tagsF l)
  | .tag _ => .zero
def GV.toldL : List GV → List TR
  | [] => []
  | g :: l => g.told :: GV.toldL l
/-- The fields, but for the unknown tags. -/
def GV.toldF : List GV → List TR
  | [] => []
  | g :: l => match g with
    | .tag _ => GV.toldF l
    | g => g.told :: GV.toldF l
end

theorem GV.toldL_map (l : List GV) : GV.toldL l = l.map GV.told := by
  induction l with
  | nil => simp [GV.toldL]
  | cons g l ih => simp [GV.toldL, ih]

theorem GV.toldF_cons {g : GV} {l : List GV} (h : ∀ m, g ≠ .tag m) : GV.toldF (g :: l) = g.told :: GV.toldF l := by
  cases g with
  | tag m => exact absurd rfl (h m)
  | _ => simp only [GV.toldF]

end Go.Msk

/-! Telling: the fields of a struct, each into its place of a tree. -/
namespace Go.Msk
open Go.RowKit
set_option maxRecDepth 100000

/-- What a reading refers to is there, and so is no block that is made later. -/
theorem Rep.fresh {O O' T : List Nat} {w w' : World} (hm : Mod T w w') (hT : ∀ x ∈ T, x ∈ O ∨ w.heap.size ≤ x) (hO : ∀ x ∈ O', x ∈ O ∨ w.heap.size ≤ x) {g : GV} {cs : List Value} (h : Rep O w g cs) : Rep O' w' g cs := by
  have hcell : ∀ {a : Addr} {v : Value}, w.cell? a = some v → a.block ∉ O → w'.cell? a = some v := by
    intro a v hc hn
    exact cell_mod hc hm fun hx => (hT _ hx).elim hn fun hge => by have := World.block_lt_of_cell? w a hc; omega
  refine Rep.rec (motive_1 := fun g cs _ => Rep O' w' g cs) (motive_2 := fun l css _ => RepL O' w' l css) ?_ ?_ ?_ ?_ ?_ ?_ ?_ ?_ ?_ ?_ ?_ ?_ h
  · intro v hv; exact .num hv
  · exact .nstr0
  · intro b l hb hc
    refine .nstr1 (fun hx => (hO _ hx).elim hb fun hge => ?_) (hcell hc hb)
    have := World.block_lt_of_cell? w ⟨b, 0, none⟩ hc
    simp only at this; omega
  · intro v o ho
    refine .byt ⟨?_, fun a n c e => ⟨fun hx => (hO _ hx).elim (ho.2 a n c e).1 fun hge => by have := (ho.2 a n c e).2; omega, Nat.lt_of_lt_of_le (ho.2 a n c e).2 hm.size⟩⟩
    obtain ⟨h1, h2⟩ := ho
    cases o with
    | none => exact h1
    | some l =>
      obtain ⟨a, n, c, rfl, hb⟩ := h1
      exact ⟨a, n, c, rfl, hb.mod hm (fun a' e hc => by cases e; exact (hT _ hc).elim (h2 a n c rfl).1 fun hge => by have := (h2 a n c rfl).2; omega)⟩
  · intro l; exact .arr
  · intro sz; exact .lst0
  · intro a n c sz l css ha hlt hn hc hsz _ hcells ih
    exact .lst1 (fun hx => (hO _ hx).elim ha fun hge => by omega) (Nat.lt_of_lt_of_le hlt hm.size) hn hc hsz ih (hcells.mod hm (.inr fun hx => (hT _ hx).elim ha fun hge => by omega))
  · intro l css _ ih; exact .rcd ih
  · exact .tag0
  · intro r m hr h
    have hlt := h.lt
    have h2 : MapRep (fun b => b ∉ O ∧ b < w.heap.size) w r m := h.mod (Mod.refl [] _) (by simp) (by simp) fun b hb hx => ⟨hx, hb⟩
    exact .tag1 (fun hx => (hO _ hx).elim hr fun hge => by omega) (h2.mod hm (fun hx => (hT _ hx).elim hr fun hge => by omega) (fun b hb hx => (hT _ hb).elim hx.1 fun hge => by omega)
      fun b _ hx hy => (hO _ hy).elim hx.1 fun hge => by omega)
  · exact .nil
  · intro g l cs css _ _ ih1 ih2; exact .cons ih1 ih2

theorem RepL.fresh {O O' T : List Nat} {w w' : World} (hm : Mod T w w') (hT : ∀ x ∈ T, x ∈ O ∨ w.heap.size ≤ x) (hO : ∀ x ∈ O', x ∈ O ∨ w.heap.size ≤ x) {l : List GV} {css : List (List Value)} (h : RepL O w l css) : RepL O' w' l css := by
  induction l generalizing css with
  | nil => cases h; exact .nil
  | cons g l ih => cases h with | cons h1 h2 => exact .cons (h1.fresh hm hT hO) (ih h2)

/-- Kinds of told fields. -/
inductive TK where
  | num (conv : Bool)
  | str
  | boo (f : FuncId)
  | txt (f : FuncId)
  | oct (f : FuncId)
  deriving Inhabited

def TK.ty : TK → GV → Prop
  | .num true, g => ∃ k n, g = .num (.int k n)
  | .num false, g => ∃ n, g = .num (.int .i64 n) ∧ IntKind.i64.wrap n = n
  | .str, g => ∃ l, g = .num (Msk.str l)
  | .boo _, g => ∃ b, g = .num (.bool b)
  | .txt _, g => ∃ o, g = .nstr o
  | .oct _, g => ∃ o, g = .byt o ∧ ∀ l, o = some l → l.length ≤ 2147483647

theorem TK.ty_tag {k : TK} {m : List (Nat × List UInt8)} (h : k.ty (.tag m)) : False := by
  cases k with
  | num c => cases c <;> simp [TK.ty] at h
  | _ => simp [TK.ty] at h

theorem TK.one {k : TK} {g : GV} {O : List Nat} {w : World} {cs : List Value} (h : k.ty g) (hr : Rep O w g cs) : cs.length = 1 := by
  cases k with
  | num c =>
    cases c with
    | true => obtain ⟨_, _, rfl⟩ := h; cases hr; rfl
    | false => obtain ⟨_, rfl, -⟩ := h; cases hr; rfl
  | str => obtain ⟨_, rfl⟩ := h; cases hr; rfl
  | boo f => obtain ⟨_, rfl⟩ := h; cases hr; rfl
  | txt f => obtain ⟨_, rfl⟩ := h; cases hr <;> rfl
  | oct f => obtain ⟨_, rfl, -⟩ := h; cases hr; rfl

/-- What is asked of the function that the kind calls. -/
def TK.Ok (P : Program) : TK → Prop
  | .num _ => True
  | .str => True
  | k@(.boo f) | k@(.txt f) | k@(.oct f) => ∀ O w g v, k.ty g → Rep O w g [v] → TellC P f [v] w g.told

/-- How many slots the field's region has. -/
def TK.nt : TK → Nat
  | .num true => 9
  | .num false => 8
  | .str => 9
  | _ => 8

def nd (r : RI) : DI := ⟨r, false, []⟩

/-- The region's head: the tree's fields, the struct's field. -/
def headD (t off : Nat) : List DI :=
  [nd ⟨some t, .fad (.tmp 3) 3, none⟩, nd ⟨some (t + 1), .ld (.tmp t), none⟩, nd ⟨some (t + 2), .mv (.tmp 0), none⟩, nd ⟨some (t + 3), .nilc (.tmp (t + 2)), none⟩, nd ⟨some (t + 4), .fad (.tmp (t + 3)) off, none⟩, nd ⟨some (t + 5), .ld (.tmp (t + 4)), none⟩]

def TK.gen (i t off : Nat) : TK → IC
  | .num true => .drw (headD t off ++ [nd ⟨some (t + 6), .conv .i64 (.tmp (t + 5)), none⟩, nd ⟨some (t + 7), .build tzero [(0, 1, .tmp (t + 6))], none⟩, nd ⟨some (t + 8), .iad (.tmp (t + 1)) (.const (.int .i64 i)) 5, none⟩])
      [⟨none, .st (.tmp (t + 8)) 5 (.tmp (t + 7)), none⟩]
  | .num false => .drw (headD t off ++ [nd ⟨some (t + 6), .build tzero [(0, 1, .tmp (t + 5))], none⟩, nd ⟨some (t + 7), .iad (.tmp (t + 1)) (.const (.int .i64 i)) 5, none⟩])
      [⟨none, .st (.tmp (t + 7)) 5 (.tmp (t + 6)), none⟩]
  | .str => .drw (headD t off ++ [⟨⟨some (t + 6), .s2b (.tmp (t + 5)), none⟩, true, []⟩, ⟨⟨some (t + 7), .build tzero [(1, 1, .tmp (t + 6))], none⟩, false, [6]⟩, ⟨⟨some (t + 8), .iad (.tmp (t + 1)) (.const (.int .i64 i)) 5, none⟩, false, [6]⟩])
      [⟨none, .st (.tmp (t + 8)) 5 (.tmp (t + 7)), none⟩]
  | .boo f | .txt f | .oct f => .drw (headD t off ++ [⟨⟨some (t + 6), .call f [.tmp (t + 5)], none⟩, true, []⟩, ⟨⟨some (t + 7), .iad (.tmp (t + 1)) (.const (.int .i64 i)) 5, none⟩, false, [6]⟩])
      [⟨none, .st (.tmp (t + 7)) 5 (.tmp (t + 6)), none⟩]

section
variable {P : Program}




/-- The values along the head. -/
theorem head_vals {t off Tb Lb n B base : Nat} {σ : Sl} {w : World} {v : Value} (ht : 4 ≤ t)
    (h0 : σ 0 = .pointer (some ⟨B, base, none⟩)) (h3 : σ 3 = .pointer (some ⟨Tb, 0, none⟩)) (c3 : w.cell? ⟨Tb, 3, none⟩ = some (.slice (some ⟨Lb, 0, none⟩) n n)) (hc : w.cell? ⟨B, base + off, none⟩ = some v) :
    ∃ v0 v1 v2 v3 v4, (RK.fad (.tmp 3) 3).val? σ w = some v0 ∧ (RK.ld (.tmp t)).val? (upd σ t v0) w = some v1 ∧ (RK.mv (.tmp 0)).val? (upd (upd σ t v0) (t + 1) v1) w = some v2 ∧
      (RK.nilc (.tmp (t + 2))).val? (upd (upd (upd σ t v0) (t + 1) v1) (t + 2) v2) w = some v3 ∧ (RK.fad (.tmp (t + 3)) off).val? (upd (upd (upd (upd σ t v0) (t + 1) v1) (t + 2) v2) (t + 3) v3) w = some v4 ∧
      (RK.ld (.tmp (t + 4))).val? (upd (upd (upd (upd (upd σ t v0) (t + 1) v1) (t + 2) v2) (t + 3) v3) (t + 4) v4) w = some v ∧
      Ag t σ (upd (upd (upd (upd (upd (upd σ t v0) (t + 1) v1) (t + 2) v2) (t + 3) v3) (t + 4) v4) (t + 5) v) ∧
      (upd (upd (upd (upd (upd (upd σ t v0) (t + 1) v1) (t + 2) v2) (t + 3) v3) (t + 4) v4) (t + 5) v) (t + 1) = .slice (some ⟨Lb, 0, none⟩) n n ∧
      (upd (upd (upd (upd (upd (upd σ t v0) (t + 1) v1) (t + 2) v2) (t + 3) v3) (t + 4) v4) (t + 5) v) (t + 5) = v := by
  refine ⟨.pointer (some ⟨Tb, 3, none⟩), .slice (some ⟨Lb, 0, none⟩) n n, .pointer (some ⟨B, base, none⟩), .pointer (some ⟨B, base, none⟩), .pointer (some ⟨B, base + off, none⟩), ?_, ?_, ?_, ?_, ?_, ?_, ?_, ?_, ?_⟩
  · simp only [RK.val?, ev, h3, Addr.add_mk, Nat.zero_add]
  · simp only [RK.val?, ev, upd_same, c3]
  · simp only [RK.val?, ev, upd, show (0 : Nat) ≠ t by omega, show (0 : Nat) ≠ t + 1 by omega, if_false, h0]
  · simp only [RK.val?, ev, upd_same]
  · simp only [RK.val?, ev, upd_same, Addr.add_mk]
  · simp only [RK.val?, ev, upd_same, hc]
  · intro j hj
    simp only [upd, show j ≠ t by omega, show j ≠ t + 1 by omega, show j ≠ t + 2 by omega, show j ≠ t + 3 by omega, show j ≠ t + 4 by omega, show j ≠ t + 5 by omega, if_false]
  · simp only [upd, show t + 1 ≠ t + 5 by omega, show t + 1 ≠ t + 4 by omega, show t + 1 ≠ t + 3 by omega, show t + 1 ≠ t + 2 by omega, if_false, if_true]
  · simp only [upd_same]

theorem head_wpR {t off Tb Lb n B base : Nat} {σ : Sl} {w : World} {v : Value} {r : List DI} {sk : List RI} {Q : Sl → World → Prop} (ht : 4 ≤ t)
    (h0 : σ 0 = .pointer (some ⟨B, base, none⟩)) (h3 : σ 3 = .pointer (some ⟨Tb, 0, none⟩)) (c3 : w.cell? ⟨Tb, 3, none⟩ = some (.slice (some ⟨Lb, 0, none⟩) n n)) (hc : w.cell? ⟨B, base + off, none⟩ = some v)
    (h : ∀ σ', Ag t σ σ' → σ' (t + 1) = .slice (some ⟨Lb, 0, none⟩) n n → σ' (t + 5) = v → wpR P (r.map (·.ri) ++ sk) σ' w Q) : wpR P ((headD t off ++ r).map (·.ri) ++ sk) σ w Q := by
  obtain ⟨v0, v1, v2, v3, v4, e0, e1, e2, e3, e4, e5, e6, e7, e8⟩ := head_vals (v := v) ht h0 h3 c3 hc
  simp only [headD, nd, List.cons_append, List.nil_append, List.map_cons]
  refine wpR_step e0 (wpR_step e1 (wpR_step e2 (wpR_step e3 (wpR_step e4 (wpR_step e5 ?_)))))
  exact h _ e6 e7 e8

theorem head_walkB {t off Tb Lb n B base : Nat} {σ : Sl} {w : World} {v : Value} {r l : List DI} {Φ : Nat → Value → World → Prop} {E : Sl → Prop} (ht : 4 ≤ t)
    (h0 : σ 0 = .pointer (some ⟨B, base, none⟩)) (h3 : σ 3 = .pointer (some ⟨Tb, 0, none⟩)) (c3 : w.cell? ⟨Tb, 3, none⟩ = some (.slice (some ⟨Lb, 0, none⟩) n n)) (hc : w.cell? ⟨B, base + off, none⟩ = some v)
    (h : ∀ σ', Ag t σ σ' → σ' (t + 1) = .slice (some ⟨Lb, 0, none⟩) n n → σ' (t + 5) = v → walkB P l Φ w E 6 r σ') : walkB P l Φ w E 0 (headD t off ++ r) σ := by
  obtain ⟨v0, v1, v2, v3, v4, e0, e1, e2, e3, e4, e5, e6, e7, e8⟩ := head_vals (v := v) ht h0 h3 c3 hc
  simp only [headD, nd, List.cons_append, List.nil_append]
  refine walkB_step e0 (walkB_step e1 (walkB_step e2 (walkB_step e3 (walkB_step e4 (walkB_step e5 ?_)))))
  exact h _ e6 e7 e8

theorem Blk.new' (w : World) (cs : List Value) (T : TypeId) (fr : Nat × Nat) (h : cs.length ≤ fr.1) : Blk (w.alloc (.cells cs.toArray T fr)) w.heap.size cs :=
  ⟨T, fr, by show (w.heap.push _)[w.heap.size]? = _; simp, .inr h⟩

/-- The tree under way: its own cell, its fields' block. -/
structure TW (w : World) (Tb Lb n : Nat) (cs : List Value) : Prop where
  tb : Blk w Tb [.int .i64 0, .slice none 0 0, .bool false, .slice (some ⟨Lb, 0, none⟩) n n, .slice none 0 0]
  lb : Blk w Lb cs
  ne : Tb ≠ Lb

theorem TK.wp {k : TK} (hk : k.Ok P) {i t off Tb Lb n B base : Nat} {O : List Nat} {pre post : List Value} {g : GV} {v : Value} {σ : Sl} {w : World} {Q : Exit → Sl → World → Prop} (ht : 4 ≤ t)
    (h0 : σ 0 = .pointer (some ⟨B, base, none⟩)) (h3 : σ 3 = .pointer (some ⟨Tb, 0, none⟩)) (hw : TW w Tb Lb n (pre ++ (tzero ++ post))) (hpre : pre.length = i * 5) (hi : i < n)
    (hg : k.ty g) (hr : Rep O w g [v]) (hc : w.cell? ⟨B, base + off, none⟩ = some v)
    (hQ : ∀ σ' w' cs, Ag t σ σ' → Mod [Lb] w w' → RepT (fun b => w.heap.size ≤ b) w' g.told cs → TW w' Tb Lb n (pre ++ (cs ++ post)) → Q .normal σ' w') : wpC P (k.gen i t off) Q σ w := by
  have c3 : w.cell? ⟨Tb, 3, none⟩ = some (.slice (some ⟨Lb, 0, none⟩) n n) := hw.tb.cell 3
  have c3' : w.drew.cell? ⟨Tb, 3, none⟩ = some (.slice (some ⟨Lb, 0, none⟩) n n) := c3
  have hc' : w.drew.cell? ⟨B, base + off, none⟩ = some v := hc
  have hst : ∀ (w1 : World) (cs : List Value), Mod [] w w1 → RepT (fun b => w.heap.size ≤ b) w1 g.told cs →
      StOk w1 ⟨Lb, i * 5, none⟩ cs ∧ ∀ σ', Ag t σ σ' → Q .normal σ' (putCells w1 ⟨Lb, i * 5, none⟩ 0 cs) := by
    intro w1 cs hm hrep
    have hlb1 : Blk w1 Lb (pre ++ (tzero ++ post)) := hw.lb.mod hm (by simp)
    have h5 := hrep.five
    have hput : Mod [Lb] w1 (putCells w1 ⟨Lb, i * 5, none⟩ 0 cs) := Mod.put (by simp)
    refine ⟨stOk_many hlb1 (by simp [tzero]; omega) hrep.oneCell, fun σ' ha => hQ σ' _ cs ha (hm.nil.trans hput) (hrep.mod hput (fun b hb => ?_) fun _ _ h => h) ⟨?_, ?_, hw.ne⟩⟩
    · simp only [List.mem_singleton] at hb; subst hb; have := hw.lb.lt; omega
    · exact (hw.tb.mod hm (by simp)).mod hput (by simpa using hw.ne)
    · have := hlb1.put (o := i * 5) (vs := cs) (by simp [tzero]; omega)
      rwa [splice_mid hpre (by simp [h5, tzero])] at this
  have callK : ∀ (f : FuncId) (k' : TK), k'.gen i t off = .drw (headD t off ++ [⟨⟨some (t + 6), .call f [.tmp (t + 5)], none⟩, true, []⟩, ⟨⟨some (t + 7), .iad (.tmp (t + 1)) (.const (.int .i64 i)) 5, none⟩, false, [6]⟩])
      [⟨none, .st (.tmp (t + 7)) 5 (.tmp (t + 6)), none⟩] → (∀ O w g v, k.ty g → Rep O w g [v] → TellC P f [v] w g.told) → wpC P (k'.gen i t off) Q σ w := by
    intro f k' hgen hf
    rw [hgen]
    simp only [wpC]
    refine wpD_of_B (fun _ v w1 => ∃ cs, v = .agg cs.toArray ∧ RepT (fun b => w.heap.size ≤ b) w1 g.told cs) (fun _ v w1 w2 h hm => ?_) (head_walkB ht h0 h3 c3' hc' fun σ1 a1 s1 s5 => ?_)
    · obtain ⟨cs, h1, h2⟩ := h
      exact ⟨cs, h1, h2.mod hm (by simp) fun _ _ h => h⟩
    refine walkB_node (fun w1 hm1 _ => ?_) fun u hu => ?_
    · simp only [RK.run, ev, s5, List.map_cons, List.map_nil]
      have hm1' : Mod [] w w1 := (Mod.drew _ _).trans hm1
      refine (hf O w1 g v hg (hr.fresh hm1' (by simp) (fun x hx => .inl hx))).mono ?_
      rintro e w2 ⟨cs, rfl, hrep, hm2⟩
      exact ⟨_, rfl, hm2, cs, rfl, hrep.mod (Mod.refl [] _) (by simp) fun b _ hb => Nat.le_trans hm1'.size hb⟩
    obtain ⟨wu, cs, rfl, hcs⟩ := hu
    refine walkB_step (v := .pointer (some ⟨Lb, i * 5, none⟩)) (by
        simp only [RK.val?, ev, updo, upd, show t + 1 ≠ t + 6 by omega, if_false, s1]
        rw [if_pos (by omega)]; simp [Addr.add_mk]) ?_
    simp only [walkB]
    intro w1 hm1 hkn
    have h6 := hkn 6 (by simp [headD]) ⟨⟨some (t + 6), .call f [.tmp (t + 5)], none⟩, true, []⟩ (by simp [headD]) rfl rfl (t + 6) rfl
    simp only [updo, upd, show t + 6 ≠ t + 7 by omega, if_false, if_true] at h6
    obtain ⟨cs', e1, h6⟩ := h6
    have e2 : cs = cs' := by
      have := congrArg (fun v => match v with | Value.agg a => a.toList | _ => []) e1
      simpa using this
    subst e2
    obtain ⟨k1, k2⟩ := hst w1 _ ((Mod.drew _ _).trans hm1) h6
    simp only [wpR, RI.wp, gOk, if_true, RK.run, ev, updo, upd_same]
    have e7 : ∀ x, upd (upd σ1 (t + 6) x) (t + 7) (.pointer (some ⟨Lb, i * 5, none⟩)) (t + 6) = x := fun x => by
      simp only [upd, show t + 6 ≠ t + 7 by omega, if_false, if_true]
    rw [e7]
    have hag : Ag t σ (upd (upd σ1 (t + 6) (Value.agg cs.toArray)) (t + 7) (.pointer (some ⟨Lb, i * 5, none⟩))) := fun j hj => by
      simp only [upd, show j ≠ t + 6 by omega, show j ≠ t + 7 by omega, if_false]
      exact a1 j hj
    exact ⟨by simp [Value.cells, hcs.five], by simpa [Value.cells] using k1, by simpa [Value.cells] using k2 _ hag⟩
  cases k with
  | num c =>
    cases c with
    | true =>
      obtain ⟨k, m, rfl⟩ := hg
      have hv : v = .int k m := by cases hr; rfl
      subst hv
      simp only [TK.gen, wpC]
      refine wpD_pure rfl (head_wpR ht h0 h3 c3' hc' fun σ1 a1 s1 s5 => ?_)
      obtain ⟨k1, k2⟩ := hst w.drew _ (Mod.drew _ _) (RepT.num (IntKind.i64.wrap m) false)
      simp only [nd, List.map_cons, List.map_nil, List.cons_append, List.nil_append]
      refine wpR_step (v := .int .i64 (IntKind.i64.wrap m)) (by simp only [RK.val?, ev, s5]) ?_
      refine wpR_step (v := .agg #[.int .i64 (IntKind.i64.wrap m), .slice none 0 0, .bool false, .slice none 0 0, .slice none 0 0]) (by simp only [RK.val?, ev, updo, upd_same, tzero, fillL, List.map_cons, List.map_nil, Value.cells]; simp [splice]) ?_
      refine wpR_step (v := .pointer (some ⟨Lb, i * 5, none⟩)) (by
        simp only [RK.val?, ev, updo, upd, show t + 1 ≠ t + 7 by omega, show t + 1 ≠ t + 6 by omega, if_false, s1]
        rw [if_pos (by omega)]; simp [Addr.add_mk]) ?_
      simp only [wpR, RI.wp, gOk, if_true, RK.run, ev, updo, upd_same]
      have e7 : ∀ x, upd (upd (upd σ1 (t + 6) (Value.int .i64 (IntKind.i64.wrap m))) (t + 7) x) (t + 8) (.pointer (some ⟨Lb, i * 5, none⟩)) (t + 7) = x := fun x => by
        simp only [upd, show t + 7 ≠ t + 8 by omega, if_false, if_true]
      rw [e7]
      refine ⟨rfl, k1, k2 _ fun j hj => ?_⟩
      simp only [upd, show j ≠ t + 6 by omega, show j ≠ t + 7 by omega, show j ≠ t + 8 by omega, if_false]
      exact a1 j hj
    | false =>
      obtain ⟨m, rfl, hm⟩ := hg
      have hv : v = .int .i64 m := by cases hr; rfl
      subst hv
      simp only [TK.gen, wpC]
      refine wpD_pure rfl (head_wpR ht h0 h3 c3' hc' fun σ1 a1 s1 s5 => ?_)
      obtain ⟨k1, k2⟩ := hst w.drew _ (Mod.drew _ _) (RepT.num (IntKind.i64.wrap m) false)
      simp only [nd, List.map_cons, List.map_nil, List.cons_append, List.nil_append]
      refine wpR_step (v := .agg #[.int .i64 (IntKind.i64.wrap m), .slice none 0 0, .bool false, .slice none 0 0, .slice none 0 0]) (by simp only [RK.val?, ev, s5, tzero, fillL, List.map_cons, List.map_nil, Value.cells]; simp [splice, hm]) ?_
      refine wpR_step (v := .pointer (some ⟨Lb, i * 5, none⟩)) (by
        simp only [RK.val?, ev, updo, upd, show t + 1 ≠ t + 6 by omega, if_false, s1]
        rw [if_pos (by omega)]; simp [Addr.add_mk]) ?_
      simp only [wpR, RI.wp, gOk, if_true, RK.run, ev, updo, upd_same]
      have e7 : ∀ x, upd (upd σ1 (t + 6) x) (t + 7) (.pointer (some ⟨Lb, i * 5, none⟩)) (t + 6) = x := fun x => by
        simp only [upd, show t + 6 ≠ t + 7 by omega, if_false, if_true]
      rw [e7]
      refine ⟨rfl, k1, k2 _ fun j hj => ?_⟩
      simp only [upd, show j ≠ t + 6 by omega, show j ≠ t + 7 by omega, if_false]
      exact a1 j hj
  | str =>
    obtain ⟨l, rfl⟩ := hg
    have hv : v = Msk.str l := by cases hr; rfl
    subst hv
    simp only [TK.gen, wpC]
    refine wpD_of_B (fun _ v w1 => SlC (fun b => w.heap.size ≤ b) w1 v l.length (u8s l)) (fun _ v w1 w2 h hm => h.mod hm (by simp) fun _ _ h => h) (head_walkB ht h0 h3 c3' hc' fun σ1 a1 s1 s5 => ?_)
    refine walkB_node (fun w1 hm1 _ => ?_) fun u hu => ?_
    · simp only [RK.run, ev, s5, Msk.str]
      intro T cap rest hcap hrest
      have hsz : (⟨l.toArray⟩ : ByteArray).size = l.length := by simp [ByteArray.size]
      rw [hsz] at hcap hrest ⊢
      have hblk := Blk.new' w1.drew (u8s l ++ rest) T (cap, cap + 1) (by simp only [List.length_append, u8s_length]; omega)
      refine ⟨(Mod.drew _ _).trans (Mod.alloc _ _ _), some ⟨w1.heap.size, 0, none⟩, cap, rfl, hcap, fun h => by simp at h, fun a ha => ?_⟩
      simp only [Option.some.injEq] at ha
      subst ha
      refine ⟨hm1.size, hblk.lt, ?_⟩
      have := hblk.cells.take (u8s l).length
      simpa using this
    refine walkB_step (v := .agg #[.int .i64 0, u, .bool false, .slice none 0 0, .slice none 0 0]) ?_ ?_
    · obtain ⟨w1, hu⟩ := hu
      obtain ⟨b1, c1, rfl, -⟩ := hu
      simp only [RK.val?, ev, updo, upd_same, tzero, fillL, List.map_cons, List.map_nil, Value.cells]; simp [splice]
    refine walkB_step (v := .pointer (some ⟨Lb, i * 5, none⟩)) (by
        simp only [RK.val?, ev, updo, upd, show t + 1 ≠ t + 7 by omega, show t + 1 ≠ t + 6 by omega, if_false, s1]
        rw [if_pos (by omega)]; simp [Addr.add_mk]) ?_
    simp only [walkB]
    intro w1 hm1 hkn
    have h6 := hkn 6 (by simp [headD]) ⟨⟨some (t + 6), .s2b (.tmp (t + 5)), none⟩, true, []⟩ (by simp [headD]) rfl rfl (t + 6) rfl
    simp only [updo, upd, show t + 6 ≠ t + 8 by omega, show t + 6 ≠ t + 7 by omega, if_false, if_true] at h6
    obtain ⟨k1, k2⟩ := hst w1 _ ((Mod.drew _ _).trans hm1) (RepT.oct false h6)
    simp only [wpR, RI.wp, gOk, if_true, RK.run, ev, updo, upd_same]
    have e7 : ∀ x, upd (upd (upd σ1 (t + 6) u) (t + 7) x) (t + 8) (.pointer (some ⟨Lb, i * 5, none⟩)) (t + 7) = x := fun x => by
      simp only [upd, show t + 7 ≠ t + 8 by omega, if_false, if_true]
    rw [e7]
    refine ⟨rfl, k1, k2 _ fun j hj => ?_⟩
    simp only [upd, show j ≠ t + 6 by omega, show j ≠ t + 7 by omega, show j ≠ t + 8 by omega, if_false]
    exact a1 j hj
  | boo f => exact callK f _ rfl hk
  | txt f => exact callK f _ rfl hk
  | oct f => exact callK f _ rfl hk

end
end Go.Msk

/-! Telling: lists. -/
namespace Go.Msk
open Go.RowKit
set_option maxRecDepth 100000

/-- Kinds of told elements. -/
inductive EK where
  | num (conv : Bool)
  | str
  | tell (f : FuncId)
  deriving Inhabited

/-- The instructions for an element: its address in slot p, slots from e on, places from idx on. -/
def EK.dis (p e idx : Nat) : EK → List DI
  | .num true => [nd ⟨some e, .ld (.tmp p), none⟩, nd ⟨some (e + 1), .conv .i64 (.tmp e), none⟩, nd ⟨some (e + 2), .build tzero [(0, 1, .tmp (e + 1))], none⟩]
  | .num false => [nd ⟨some e, .ld (.tmp p), none⟩, nd ⟨some (e + 1), .build tzero [(0, 1, .tmp e)], none⟩]
  | .str => [nd ⟨some e, .ld (.tmp p), none⟩, ⟨⟨some (e + 1), .s2b (.tmp e), none⟩, true, []⟩, ⟨⟨some (e + 2), .build tzero [(1, 1, .tmp (e + 1))], none⟩, false, [idx + 1]⟩]
  | .tell f => [⟨⟨some e, .call f [.tmp p], none⟩, true, []⟩]

/-- How many; which of them, if any, makes something; where the value stands. -/
def EK.n : EK → Nat
  | .num true => 3
  | .num false => 2
  | .str => 3
  | .tell _ => 1

def EK.node (idx : Nat) : EK → List Nat
  | .num _ => []
  | .str => [idx + 1]
  | .tell _ => [idx]

def EK.sz : EK → Nat → Nat
  | .tell _, n => n
  | _, _ => 1

/-- What an element's value is. -/
def EK.ty (T : List GV → Prop) : EK → GV → Prop
  | .num true, g => ∃ k n, g = .num (.int k n)
  | .num false, g => ∃ n, g = .num (.int .i64 n) ∧ IntKind.i64.wrap n = n
  | .str, g => ∃ l, g = .num (Msk.str l)
  | .tell _, g => ∃ l, g = .rcd l ∧ T l

/-- A function that tells a struct. -/
def TellS (P : Program) (f : FuncId) (T : List GV → Prop) : Prop :=
  ∀ (O : List Nat) (w : World) (B base : Nat) (gs : List GV) (css : List (List Value)), T gs → RepL O w gs css → Cells w ⟨B, base, none⟩ css.flatten →
    TellC P f [.pointer (some ⟨B, base, none⟩)] w (GV.rcd gs).told

def EK.Ok (P : Program) (T : List GV → Prop) : EK → Prop
  | .tell f => TellS P f T
  | _ => True

/-- What the region knows of what it makes. -/
def EK.Phi (n0 : Nat) (g : GV) : EK → Value → World → Prop
  | .num _, _, _ => True
  | .str, v, w => ∃ l, g = .num (Msk.str l) ∧ SlC (fun b => n0 ≤ b) w v l.length (u8s l)
  | .tell _, v, w => ∃ cs, v = .agg cs.toArray ∧ RepT (fun b => n0 ≤ b) w g.told cs

theorem EK.Phi.mod {k : EK} {n0 : Nat} {g : GV} {v : Value} {w w' : World} {S : List Nat} (h : k.Phi n0 g v w) (hm : Mod S w w') (hS : ∀ b ∈ S, b < n0) : k.Phi n0 g v w' := by
  cases k with
  | num c => trivial
  | str =>
    obtain ⟨l, h1, h2⟩ := h
    exact ⟨l, h1, h2.mod hm (fun b hb => by have := hS b hb; omega) fun _ _ h => h⟩
  | tell f =>
    obtain ⟨cs, h1, h2⟩ := h
    exact ⟨cs, h1, h2.mod hm (fun b hb => by have := hS b hb; omega) fun _ _ h => h⟩

section
variable {P : Program}

theorem walk_step {l : List DI} {R : World → World → Prop} {Φ : Nat → Value → World → Prop} {w0 : World} {E : Sl → Prop} {n : Nat} {k : RK} {d : Option Nat} {ds : List Nat} {r : List DI} {σ : Sl} {v : Value} (hv : ∀ w, R w0 w → k.val? σ w = some v)
    (h : walk P l R Φ NT w0 E (n + 1) r (updo σ d v)) : walk P l R Φ NT w0 E n (⟨⟨d, k, none⟩, false, ds⟩ :: r) σ := by
  simp only [walk, gOk, if_true, Bool.false_eq_true, if_false]
  exact ⟨v, fun w hw _ => hv w hw, h⟩

theorem walk_node {l : List DI} {R : World → World → Prop} {Φ : Nat → Value → World → Prop} {w0 : World} {E : Sl → Prop} {n : Nat} {k : RK} {d : Option Nat} {ds : List Nat} {r : List DI} {σ : Sl}
    (hn : ∀ w, R w0 w → known l Φ ds σ w → k.run P σ w fun v w' => R w w' ∧ Φ n v w') (h : ∀ v, (∃ w, Φ n v w) → walk P l R Φ NT w0 E (n + 1) r (updo σ d v)) : walk P l R Φ NT w0 E n (⟨⟨d, k, none⟩, true, ds⟩ :: r) σ := by
  simp only [walk, gOk, if_true]
  exact ⟨fun w h1 _ h2 => run_mono (hn w h1 h2) fun v w' hk => ⟨hk.1, hk.2, fun _ _ _ => trivial⟩, h⟩

/-- The value slot of an element. -/
def EK.val (e : Nat) (k : EK) : Nat := e + k.n - 1

/-- The walk over an element's instructions. T: what the told structs are. -/
theorem EK.walk_wp {k : EK} {T : List GV → Prop} (hk : k.Ok P T) {l : List DI} {R : World → World → Prop} {Φ : Nat → Value → World → Prop} {w0 : World} {E : Sl → Prop} {r : List DI} {p e idx A o : Nat} {O S : List Nat} {g : GV} {cs : List Value} {σ : Sl}
    (_hp : p < e) (hσ : σ p = .pointer (some ⟨A, o, none⟩)) (hRS : ∀ w, R w0 w → Mod S w0 w) (hR0 : ∀ w w', Mod [] w w' → R w w') (hS : ∀ x ∈ S, x ∈ O ∧ x ≠ A) (hg : k.ty T g) (hr : Rep O w0 g cs) (hc : Cells w0 ⟨A, o, none⟩ cs) (hcs : cs ≠ [] ∨ True)
    (hΦ : ∀ j v w, j ∈ k.node idx → (k.Phi w0.heap.size g v w ↔ Φ j v w))
    (h : ∀ σ', Ag e σ σ' → (∀ w, (∀ j ∈ k.node idx, Φ j (σ' (e + (j - idx))) w) → ∃ cs, σ' (k.val e) = .agg cs.toArray ∧ RepT (fun b => w0.heap.size ≤ b) w g.told cs) → walk P l R Φ NT w0 E (idx + k.n) r σ') :
    walk P l R Φ NT w0 E idx (k.dis p e idx ++ r) σ := by
  have hcw : ∀ w, R w0 w → Cells w ⟨A, o, none⟩ cs := fun w hw => hc.mod (hRS w hw) (.inr fun hx => (hS _ hx).2 rfl)
  cases k with
  | num c =>
    cases c with
    | true =>
      obtain ⟨kk, m, rfl⟩ := hg
      have hv : cs = [.int kk m] := by cases hr; rfl
      subst hv
      simp only [EK.dis, nd, List.cons_append, List.nil_append]
      refine walk_step (v := .int kk m) (fun w hw => by simp only [RK.val?, ev, hσ]; exact (hcw w hw).head) ?_
      refine walk_step (v := .int .i64 (IntKind.i64.wrap m)) (fun w hw => by simp only [RK.val?, ev, updo, upd_same]) ?_
      refine walk_step (v := .agg #[.int .i64 (IntKind.i64.wrap m), .slice none 0 0, .bool false, .slice none 0 0, .slice none 0 0]) (fun w hw => by
        simp only [RK.val?, ev, updo, upd_same, tzero, fillL, List.map_cons, List.map_nil, Value.cells]; simp [splice]) ?_
      refine h _ (fun j hj => ?_) fun w _ => ⟨[.int .i64 (IntKind.i64.wrap m), .slice none 0 0, .bool false, .slice none 0 0, .slice none 0 0], ?_, RepT.num _ _⟩
      · simp only [updo, upd, show j ≠ e by omega, show j ≠ e + 1 by omega, show j ≠ e + 2 by omega, if_false]
      · show updo _ (some (e + 2)) _ (e + 3 - 1) = _
        simp only [updo, upd, show e + 3 - 1 = e + 2 by omega, if_true]
    | false =>
      obtain ⟨m, rfl, hm⟩ := hg
      have hv : cs = [.int .i64 m] := by cases hr; rfl
      subst hv
      simp only [EK.dis, nd, List.cons_append, List.nil_append]
      refine walk_step (v := .int .i64 m) (fun w hw => by simp only [RK.val?, ev, hσ]; exact (hcw w hw).head) ?_
      refine walk_step (v := .agg #[.int .i64 (IntKind.i64.wrap m), .slice none 0 0, .bool false, .slice none 0 0, .slice none 0 0]) (fun w hw => by
        simp only [RK.val?, ev, updo, upd_same, tzero, fillL, List.map_cons, List.map_nil, Value.cells]; simp [splice, hm]) ?_
      refine h _ (fun j hj => ?_) fun w _ => ⟨[.int .i64 (IntKind.i64.wrap m), .slice none 0 0, .bool false, .slice none 0 0, .slice none 0 0], ?_, RepT.num _ _⟩
      · simp only [updo, upd, show j ≠ e by omega, show j ≠ e + 1 by omega, if_false]
      · show updo _ (some (e + 1)) _ (e + 2 - 1) = _
        simp only [updo, upd, show e + 2 - 1 = e + 1 by omega, if_true]
  | str =>
    obtain ⟨s, rfl⟩ := hg
    have hv : cs = [Msk.str s] := by cases hr; rfl
    subst hv
    simp only [EK.dis, nd, List.cons_append, List.nil_append]
    refine walk_step (v := Msk.str s) (fun w hw => by simp only [RK.val?, ev, hσ]; exact (hcw w hw).head) ?_
    refine walk_node (fun w1 hw1 _ => ?_) fun u hu => ?_
    · simp only [RK.run, ev, updo, upd_same, Msk.str]
      intro T cap rest hcap hrest
      have hsz : (⟨s.toArray⟩ : ByteArray).size = s.length := by simp [ByteArray.size]
      rw [hsz] at hcap hrest ⊢
      have hblk := Blk.new' w1.drew (u8s s ++ rest) T (cap, cap + 1) (by simp only [List.length_append, u8s_length]; omega)
      refine ⟨hR0 _ _ ((Mod.drew _ _).trans (Mod.alloc _ _ _)), (hΦ (idx + 1) _ _ (by simp [EK.node])).1 ⟨s, rfl, some ⟨w1.heap.size, 0, none⟩, cap, rfl, hcap, fun h => by simp at h, fun a ha => ?_⟩⟩
      simp only [Option.some.injEq] at ha
      subst ha
      refine ⟨(hRS _ hw1).size, hblk.lt, ?_⟩
      have := hblk.cells.take (u8s s).length
      simpa using this
    have hu' : ∃ b c, u = .slice b s.length c := by
      obtain ⟨w1, hu⟩ := hu
      obtain ⟨s', e1, b1, c1, rfl, -⟩ := (hΦ (idx + 1) _ _ (by simp [EK.node])).2 hu
      have : s = s' := by
        have := congrArg (fun g => match g with | GV.num (.string x) => x.data.toList | _ => []) e1
        simpa [Msk.str] using this
      subst this
      exact ⟨_, _, rfl⟩
    obtain ⟨b1, c1, rfl⟩ := hu'
    refine walk_step (v := .agg #[.int .i64 0, .slice b1 s.length c1, .bool false, .slice none 0 0, .slice none 0 0]) (fun w hw => by
      simp only [RK.val?, ev, updo, upd_same, tzero, fillL, List.map_cons, List.map_nil, Value.cells]; simp [splice]) ?_
    refine h _ (fun j hj => ?_) fun w hkn => ⟨[.int .i64 0, .slice b1 s.length c1, .bool false, .slice none 0 0, .slice none 0 0], ?_, ?_⟩
    · simp only [updo, upd, show j ≠ e by omega, show j ≠ e + 1 by omega, show j ≠ e + 2 by omega, if_false]
    · show updo _ (some (e + 2)) _ (e + 3 - 1) = _
      simp only [updo, upd, show e + 3 - 1 = e + 2 by omega, if_true]
    · have h6 := hkn (idx + 1) (by simp [EK.node])
      simp only [Nat.add_sub_cancel_left, updo, upd, show e + 1 ≠ e + 2 by omega, if_false, if_true] at h6
      obtain ⟨s', e1, h6⟩ := (hΦ (idx + 1) _ _ (by simp [EK.node])).2 h6
      have : s = s' := by
        have := congrArg (fun g => match g with | GV.num (.string x) => x.data.toList | _ => []) e1
        simpa [Msk.str] using this
      subst this
      exact RepT.oct false h6
  | tell f =>
    obtain ⟨gl, rfl, hT⟩ := hg
    obtain ⟨css, rfl, hrl⟩ : ∃ css, cs = css.flatten ∧ RepL O w0 gl css := by
      cases hr with
      | rcd h => exact ⟨_, rfl, h⟩
    simp only [EK.dis, List.cons_append, List.nil_append]
    refine walk_node (fun w1 hw1 _ => ?_) fun u hu => ?_
    · simp only [RK.run, ev, hσ, List.map_cons, List.map_nil]
      have hm1 := hRS w1 hw1
      refine (hk O w1 A o gl css hT (hrl.fresh hm1 (fun x hx => .inl (hS x hx).1) (fun x hx => .inl hx)) (hcw w1 hw1)).mono ?_
      rintro e w2 ⟨cs, rfl, hrep, hm2⟩
      exact ⟨_, rfl, hR0 _ _ hm2, (hΦ idx _ _ (by simp [EK.node])).1 ⟨cs, rfl, hrep.mod (Mod.refl [] _) (by simp) fun b _ hb => Nat.le_trans hm1.size hb⟩⟩
    refine h _ (fun j hj => ?_) fun w hkn => ?_
    · simp only [updo, upd, show j ≠ e by omega, if_false]
    · have h6 := hkn idx (by simp [EK.node])
      simp only [Nat.sub_self, Nat.add_zero] at h6
      obtain ⟨cs', e1, h6⟩ := (hΦ idx _ _ (by simp [EK.node])).2 h6
      exact ⟨cs', by simpa [EK.val, EK.n] using e1, h6⟩

end
end Go.Msk
