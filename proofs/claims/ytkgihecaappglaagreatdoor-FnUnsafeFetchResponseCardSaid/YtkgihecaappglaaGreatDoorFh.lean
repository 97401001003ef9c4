/- A small language of resolved operations, and what the generic and the generated functions do in it (part 8). -/
import Derived.Test.YtkgihecaappglaaGreatDoorFg

namespace Go.Msk
open Go.RowKit
set_option maxRecDepth 100000
theorem splice_mid {pre old post vs : List Value} {o : Nat} (h : pre.length = o) (hl : vs.length = old.length) : splice (pre ++ (old ++ post)) o vs = pre ++ (vs ++ post) := by
  subst h
  simp [splice, hl]
theorem Df.zero_length (d : Df) : d.zero.length = d.size := by cases d <;> simp [Df.zero, Df.size, u8s]
section
variable {P : Program} {E : RE} {D : Dec}
theorem stF_mid {sp x t off n B base : Nat} {σ : Sl} {w : World} {v : Value} {pre old post : List Value} {Q : Exit → Sl → World → Prop} (hs : σ sp = .pointer (some ⟨B, base, none⟩)) (hx : σ x = v)
    (hb : Blk w B (pre ++ (old ++ post))) (hpre : pre.length = base + off) (hv : v.cells.size = n) (ho : old.length = n) (h1 : ∀ y ∈ v.cells.toList, y.oneCell' = true) (lx : x < t) (ls : sp < t)
    (hQ : ∀ σ' w', Ag t σ σ' → Mod [B] w w' → Blk w' B (pre ++ (v.cells.toList ++ post)) → Q .normal σ' w') : wpC P (stF sp x t off n) Q σ w := by
  have hl : v.cells.toList.length = n := by simpa using hv
  refine stF_wp hs hx hb (by simp only [List.length_append]; omega) hv h1 lx ls fun σ' a' => hQ σ' _ a' (Mod.put (by simp)) ?_
  have := hb.put (o := base + off) (vs := v.cells.toList) (by simp only [List.length_append]; omega)
  rwa [splice_mid hpre (by omega)] at this
theorem initF_wp {init : Option Value} {x : Nat} {l : List IC} {Q : Exit → Sl → World → Prop} {σ : Sl} {w : World} (h : ∀ σ', (∀ j, j ≠ x → σ' j = σ j) → wpL P l Q σ' w) : wpL P (initF init x ++ l) Q σ w := by
  cases init with
  | none => exact h σ fun _ _ => rfl
  | some v =>
    simp only [initF, List.cons_append, List.nil_append, wpL]
    refine cF_wp ?_
    simp only [thenC]
    exact h _ fun j hj => upd_ne _ _ hj
theorem elemP {nv t n A k c rb : Nat} {init : Option Value} {r : VR} {S : List Nat} {u x : Bool} {ver : Int} {z : List Value} {Te : TypeId} {ve : Value} {σ0 : Sl} {w0 : World} {dec : RS → GV × RS}
    (hE : RV.Env E nv rb u x ver σ0) (ha : σ0 (nv + 1) = .slice (some ⟨A, 0, none⟩) k c) (lt : nv + 5 ≤ t) (hr : RdG P (r.sel u x) n dec) (hz : z.length = n) (hrb : rb ∉ A :: S) (hS : ∀ y ∈ A :: S, y < w0.heap.size) :
    ElC P (initF init (nv + 4) ++ [r.gen E (nv + 4) t, stE nv (t + r.nt E.hasFx) n]) E.ret (nv + 4) (nv + 3) k n A rb S z Te ve σ0 w0 fun s => some (dec s) := by
  intro i σ w s pre post Q hi hag hic hm hrd hb hpre hQ
  refine initF_wp fun σ1 a1 => ?_
  simp only [wpL]
  have g1 : Ag nv σ0 σ1 := fun j hj => by rw [a1 j (by omega)]; exact hag j (by omega) (by omega)
  refine VR.wp r _ _ w (hE.ag g1 (Nat.le_refl _)) (by omega) (by omega) hr hrd hrb (fun y hy => Nat.lt_of_lt_of_le (hS y hy) hm.size) fun σ2 w2 v a2 v2 hv hr2 hm2 => ?_
  obtain ⟨hv1, hv2⟩ := hv
  have hArb : A ≠ rb := fun e => hrb (by rw [e]; exact List.mem_cons_self)
  have hb2 : Blk w2 A (pre ++ (z ++ post)) := hb.mod hm2 (by simpa using hArb)
  have hl : v.cells.toList.length = n := by simpa using hv1
  simp only [thenC]
  refine stE_wp (i := i) (k := k) (c := c) ?_ ?_ v2 hi hb2 (by simp only [List.length_append]; omega) hv1 hv2.oneCell (by omega) fun σ3 a3 => ?_
  · rw [a2 _ (by omega) (by omega), a1 _ (by omega), hag _ (by omega) (by omega)]; exact ha
  · rw [a2 _ (by omega) (by omega), a1 _ (by omega)]; exact hic
  have hput : Mod [A] w2 (putCells w2 ⟨A, i * n, none⟩ 0 v.cells.toList) := Mod.put (by simp)
  refine hQ _ _ v.cells.toList (fun j hj => ?_) ((hm2.mono (by simp)).trans (hput.mono (by simp))) (hr2.mod hput (by simpa using hArb.symm) (by simp)) (hv2.mod hput (by simp)) hl ?_
  · rw [a3 j (by omega), a2 j (by omega) (by omega), a1 j (by omega)]
  · have := hb2.put (o := i * n) (vs := v.cells.toList) (by simp only [List.length_append]; omega)
    rwa [splice_mid hpre (by omega)] at this
theorem rdF_wp {sp rb rbs t off B o : Nat} {f : FuncId} {S : List Nat} {s : RS} {σ : Sl} {w : World} {pre old post : List Value} {Φ : List Nat → RS → Value → World → Prop} {nx : RS → RS} {Q : Exit → Sl → World → Prop}
    (hR : RdV P f Φ nx) (hs : σ sp = .pointer (some ⟨B, o, none⟩)) (hrb : σ rbs = .pointer (some ⟨rb, 0, none⟩)) (_ls : sp < t) (lr : rbs < t) (hr : IsRd S w rb s) (hrS : rb ∉ S) (hBS : B ∈ S) (hS : ∀ y ∈ S, y < w.heap.size)
    (hb : Blk w B (pre ++ (old ++ post))) (hpre : pre.length = o + off) (ho : old.length = 1)
    (hone : ∀ O v w, Φ O s v w → v.cells.size = 1 ∧ ∀ y ∈ v.cells.toList, y.oneCell' = true)
    (hQ : ∀ σ' w1 w' v, Ag t σ σ' → Φ (rb :: S) s v w1 → Mod [rb] w w1 → Mod [B] w1 w' → IsRd S w' rb (nx s) → Blk w' B (pre ++ (v.cells.toList ++ post)) → Q .normal σ' w') : wpC P (rdF sp rbs t off f) Q σ w := by
  have hBrb : B ≠ rb := fun e => hrS (e ▸ hBS)
  simp only [rdF, wpC, wpR, RI.wp, gOk, if_true, RK.run, ev, updo, List.map_cons, List.map_nil]
  simp only [upd, if_true, hs, hrb, show rbs ≠ t by omega, if_false]
  refine (hR S w rb s hr hrS hS).mono ?_
  rintro e w1 ⟨v, rfl, hv, hr1, hm1⟩
  refine ⟨v, rfl, ?_⟩
  simp only [show t ≠ t + 1 by omega, show t + 1 ≠ t + 2 by omega, show t + 1 ≠ t + 3 by omega, if_false, Addr.add_mk]
  obtain ⟨h1, h2⟩ := hone _ _ _ hv
  have hl : v.cells.toList.length = 1 := by simpa using h1
  have hb1 : Blk w1 B (pre ++ (old ++ post)) := hb.mod hm1 (by simpa using hBrb)
  have hput : Mod [B] w1 (putCells w1 ⟨B, o + off, none⟩ 0 v.cells.toList) := Mod.put (by simp)
  refine ⟨h1, stOk_many hb1 (by simp only [List.length_append]; omega) h2, hQ _ w1 _ v ?_ hv hm1 hput (hr1.mod hput (by simpa using hBrb.symm) (by simpa using hBS)) ?_⟩
  · intro j hj
    simp only [upd, show j ≠ t by omega, show j ≠ t + 1 by omega, show j ≠ t + 2 by omega, show j ≠ t + 3 by omega, if_false]
  · have := hb1.put (o := o + off) (vs := v.cells.toList) (by simp only [List.length_append]; omega)
    rwa [splice_mid hpre (by omega)] at this
theorem uidR_wp {sp rb rbs nv t off B o : Nat} {f : FuncId} {S : List Nat} {s : RS} {σ : Sl} {w : World} {pre old post : List Value} {dec : RS → GV × RS} {Q : Exit → Sl → World → Prop}
    (hR : RdG P f 16 dec) (hs : σ sp = .pointer (some ⟨B, o, none⟩)) (hrb : σ rbs = .pointer (some ⟨rb, 0, none⟩)) (ls : sp < nv) (_lr : rbs < nv) (ln : nv < t) (hr : IsRd S w rb s) (hrS : rb ∉ S) (hBS : B ∈ S) (hS : ∀ y ∈ S, y < w.heap.size)
    (hb : Blk w B (pre ++ (old ++ post))) (hpre : pre.length = o + off) (ho : old.length = 16)
    (hQ : ∀ σ' w' cs, Ag nv σ σ' → Mod [rb, B] w w' → IsRd S w' rb (dec s).2 → Rep (rb :: S) w' (dec s).1 cs → cs.length = 16 → Blk w' B (pre ++ (cs ++ post)) → Q .normal σ' w') : wpC P (uidR sp rbs nv t off f) Q σ w := by
  have hBrb : B ≠ rb := fun e => hrS (e ▸ hBS)
  unfold uidR
  rw [wpC_seq, wpC_blk]
  refine wpR_call (vs := [.pointer (some ⟨rb, 0, none⟩)]) (by simp only [List.map_cons, List.map_nil, ev, hrb]) (hR S w rb s hr hrS hS) ?_
  rintro e w1 ⟨v, rfl, ⟨hv, hrep⟩, hr1, hm1⟩
  refine ⟨v, rfl, ?_⟩
  have hl : v.cells.toList.length = 16 := by simpa using hv
  have hb1 : Blk w1 B (pre ++ (old ++ post)) := hb.mod hm1 (by simpa using hBrb)
  refine wpR_run ?_
  intro T
  obtain ⟨k1, k2, k3⟩ := new_put w1 (u8s (List.replicate 16 0)) v.cells.toList T (by rw [hl]; rfl) hrep.oneCell
  generalize hw2 : w1.alloc (.cells (u8s (List.replicate 16 0)).toArray T) = w2 at k1 k2 k3 ⊢
  refine wpR_run ?_
  simp only [RK.run, ev, updo, upd, if_true, show t ≠ nv by omega, if_false]
  refine ⟨hv, k1, ?_⟩
  generalize putCells w2 ⟨w1.heap.size, 0, none⟩ 0 v.cells.toList = w3 at k2 k3 ⊢
  refine wpR_done ?_
  rw [wpC_blk]
  refine wpR_step (v := .pointer (some ⟨B, o, none⟩)) (by simp only [RK.val?, ev, upd, show sp ≠ nv by omega, show sp ≠ t by omega, if_false, hs]) ?_
  refine wpR_step (v := .agg v.cells.toList.toArray) (by
    simp only [RK.val?, ev, updo, upd, show nv ≠ t + 1 by omega, if_false, if_true, cellsAt_of' k2.cells hl, Option.map_some]) ?_
  refine wpR_step (v := .pointer (some ⟨B, o, none⟩)) (by simp only [RK.val?, ev, updo, upd, show t + 1 ≠ t + 2 by omega, if_false, if_true]) ?_
  refine wpR_step (v := .pointer (some ⟨B, o + off, none⟩)) (by simp only [RK.val?, ev, updo, upd_same, Addr.add_mk]) ?_
  have hb3 : Blk w3 B (pre ++ (old ++ post)) := hb1.mod k3 (by simp)
  have hput : Mod [B] w3 (putCells w3 ⟨B, o + off, none⟩ 0 v.cells.toList) := Mod.put (by simp)
  refine wpR_run ?_
  have ec : (Value.agg v.cells.toList.toArray).cells.toList = v.cells.toList := rfl
  simp only [RK.run, ev, updo, upd, show t + 2 ≠ t + 3 by omega, show t + 2 ≠ t + 4 by omega, if_false, if_true, ec]
  refine ⟨by show v.cells.toList.toArray.size = 16; simpa using hv, stOk_many hb3 (by simp only [List.length_append]; omega) hrep.oneCell, ?_⟩
  have hm13 : Mod [rb, B] w1 (putCells w3 ⟨B, o + off, none⟩ 0 v.cells.toList) := (k3.mono (by simp)).trans (hput.mono (by simp))
  simp only [wpR]
  refine hQ _ _ v.cells.toList (fun j hj => ?_) ((hm1.mono (by simp)).trans hm13) ((hr1.mod k3 (by simp) (by simp)).mod hput (by simpa using hBrb.symm) (by simpa using hBS)) ((hrep.mod k3 (by simp)).mod hput (by simpa using .inr hBS)) hl ?_
  · simp only [upd, show j ≠ t by omega, show j ≠ nv by omega, show j ≠ t + 1 by omega, show j ≠ t + 2 by omega, show j ≠ t + 3 by omega, show j ≠ t + 4 by omega, if_false]
  · have := hb3.put (o := o + off) (vs := v.cells.toList) (by simp only [List.length_append]; omega)
    rwa [splice_mid hpre (by omega)] at this
def Sc.Sound (P : Program) (E : RE) (D : Dec) (g rb : Nat) (Te : TypeId) (ve : Value) (u x : Bool) (ver : Int) (sc : Sc) : Prop :=
  ∀ (sp off nv nt nb B base : Nat) (S : List Nat) (s : RS) (pre post : List Value) (σ : Sl) (w : World) (Q : Exit → Sl → World → Prop), sc.Ok P D u x →
    RV.Env E nv rb u x ver σ → sp < nv → nv + sc.nv ≤ nt → σ sp = .pointer (some ⟨B, base, none⟩) → pre.length = base + off →
    IsRd S w rb s → rb ∉ S → B ∈ S → (∀ y ∈ S, y < w.heap.size) → GErr g w Te ve → g ∉ rb :: S → Blk w B (pre ++ (sc.dcs.flatten ++ post)) →
    (match sc.dec D ver x s with
      | some (gs, s') => ∀ σ' w' css, Ag nv σ σ' → Mod [rb, B] w w' → IsRd S w' rb s' → RepL (rb :: S) w' gs css → css.flatten.length = sc.dcs.flatten.length → Blk w' B (pre ++ (css.flatten ++ post)) → Q .normal σ' w'
      | none => ∀ σ' w', Mod [rb, B] w w' → σ' E.ret = .iface Te ve → Q .ret σ' w') →
    wpL P (sc.gen E sp off nv nt nb) Q σ w
theorem consD_wp {g rb B base sp off nv nt' nb nv' k : Nat} {Te : TypeId} {ve : Value} {u x : Bool} {ver : Int} {S : List Nat} {σ : Sl} {w : World} {pre post old : List Value} {rest : Sc} {c : IC}
    {f : Option (GV × RS)} {Q : Exit → Sl → World → Prop} (ih : rest.Sound P E D g rb Te ve u x ver) (hok : rest.Ok P D u x) (hE : RV.Env E nv rb u x ver σ) (ls : sp < nv) (hnv : nv ≤ nv') (hnt : nv' + rest.nv ≤ nt')
    (hs : σ sp = .pointer (some ⟨B, base, none⟩)) (hpre : pre.length = base + off) (hrb : rb ∉ S) (hB : B ∈ S) (hS : ∀ y ∈ S, y < w.heap.size) (hg : GErr g w Te ve) (hgn : g ∉ rb :: S) (hk : old.length = k)
    (hc : ∀ Q' : Exit → Sl → World → Prop, (match f with
        | some (gv, s') => ∀ σ' w' cs, Ag nv σ σ' → Mod [rb, B] w w' → IsRd S w' rb s' → Rep (rb :: S) w' gv cs → cs.length = k → Blk w' B (pre ++ (cs ++ (rest.dcs.flatten ++ post))) → Q' .normal σ' w'
        | none => ∀ σ' w', Mod [rb, B] w w' → σ' E.ret = .iface Te ve → Q' .ret σ' w') → wpC P c Q' σ w)
    (hQ : match consD f (rest.dec D ver x) with
      | some (gs, s') => ∀ σ' w' css, Ag nv σ σ' → Mod [rb, B] w w' → IsRd S w' rb s' → RepL (rb :: S) w' gs css → css.flatten.length = (old ++ rest.dcs.flatten).length → Blk w' B (pre ++ (css.flatten ++ post)) → Q .normal σ' w'
      | none => ∀ σ' w', Mod [rb, B] w w' → σ' E.ret = .iface Te ve → Q .ret σ' w') :
    wpL P (c :: rest.gen E sp (off + k) nv' nt' nb) Q σ w := by
  simp only [wpL]
  refine hc _ ?_
  cases f with
  | none =>
    simp only [consD] at hQ
    intro σ' w' hm hret
    exact hQ σ' w' hm hret
  | some p =>
    obtain ⟨gv, s1⟩ := p
    intro σ1 w1 cs a1 hm1 hr1 hrep hcs hb1
    simp only [thenC]
    have hgm : g ∉ [rb, B] := by
      simp only [List.mem_cons, not_or, List.not_mem_nil, not_false_eq_true, and_true] at hgn ⊢
      exact ⟨hgn.1, fun e => hgn.2 (e ▸ hB)⟩
    refine ih sp (off + k) nv' nt' nb B base S s1 (pre ++ cs) post σ1 w1 Q hok (hE.ag a1 hnv) (by omega) hnt (by rw [a1 _ ls]; exact hs) (by simp only [List.length_append]; omega) hr1 hrb hB
      (fun y hy => Nat.lt_of_lt_of_le (hS y hy) hm1.size) (cell_mod hg hm1 hgm) hgn (by simpa only [List.append_assoc] using hb1) ?_
    simp only [consD] at hQ
    cases hd : rest.dec D ver x s1 with
    | none =>
      rw [hd] at hQ
      intro σ' w' hm hret
      exact hQ σ' w' (hm1.trans hm) hret
    | some q =>
      obtain ⟨gs, s2⟩ := q
      rw [hd] at hQ
      intro σ' w' css a2 hm2 hr2 hrep2 hlen hb2
      refine hQ σ' w' (cs :: css) ((a1).trans (a2.mono hnv)) (hm1.trans hm2) hr2 (.cons (hrep.mod hm2 ?_) hrep2) ?_ ?_
      · simp only [List.mem_cons, List.not_mem_nil, or_false]
        rintro y (rfl | rfl)
        · exact .inl rfl
        · exact .inr hB
      · simp only [List.flatten_cons, List.length_append]; omega
      · simpa only [List.flatten_cons, List.append_assoc] using hb2
theorem body_wp {g rb : Nat} {Te : TypeId} {ve : Value} {u x : Bool} {ver : Int} {body : Sc} (ihb : body.Sound P E D g rb Te ve u x ver) (hOb : body.Ok P D u x) {sp nv nt nb B base : Nat} {S : List Nat} {s : RS}
    {pre post : List Value} {σ : Sl} {w : World} {Q : Exit → Sl → World → Prop}
    (hE : RV.Env E nv rb u x ver σ) (ls : sp < nv) (hnt : nv + body.nv ≤ nt) (hs : σ sp = .pointer (some ⟨B, base, none⟩)) (hpre : pre.length = base)
    (hr : IsRd S w rb s) (hrb : rb ∉ S) (hB : B ∈ S) (hS : ∀ y ∈ S, y < w.heap.size) (hg : GErr g w Te ve) (hgn : g ∉ rb :: S) (hb : Blk w B (pre ++ (body.dcs.flatten ++ post)))
    (hQ : match rcdD (body.dec D ver x s) with
      | some (gv, s') => ∀ σ' w' cs, Ag nv σ σ' → Mod [rb, B] w w' → IsRd S w' rb s' → Rep (rb :: S) w' gv cs → cs.length = body.size → Blk w' B (pre ++ (cs ++ post)) → Q .normal σ' w'
      | none => ∀ σ' w', Mod [rb, B] w w' → σ' E.ret = .iface Te ve → Q .ret σ' w') : wpL P (body.gen E sp 0 nv nt nb) Q σ w := by
  refine ihb sp 0 nv nt nb B base S s pre post σ w Q hOb hE ls hnt hs hpre hr hrb hB hS hg hgn hb ?_
  cases hd : body.dec D ver x s with
  | none => rw [hd] at hQ; exact hQ
  | some q =>
    obtain ⟨gs, s'⟩ := q
    rw [hd] at hQ
    intro σ' w' css a' hm' hr' hrep' hl' hb'
    exact hQ σ' w' css.flatten a' hm' hr' (.rcd hrep') hl' hb'
theorem elemS {g rb : Nat} {Te : TypeId} {ve : Value} {u x : Bool} {ver : Int} {body : Sc} (ihb : body.Sound P E D g rb Te ve u x ver) (hOb : body.Ok P D u x) {nv t nb A k c dfl : Nat} {S : List Nat} {z : List Value} {σ0 : Sl} {w0 : World}
    (hE : RV.Env E nv rb u x ver σ0) (ha : σ0 (nv + 1) = .slice (some ⟨A, 0, none⟩) k c) (lt : nv + 6 + body.nv ≤ t) (hz : z.length = body.size) (hD : DfC P dfl z body.dcs.flatten) (hrb : rb ∉ A :: S) (hS : ∀ y ∈ A :: S, y < w0.heap.size)
    (hg : GErr g w0 Te ve) (hgn : g ∉ rb :: A :: S) :
    ElC P (elF nv t z.length dfl ++ body.gen E (nv + 5) 0 (nv + 6) (t + 6) nb) E.ret (nv + 4) (nv + 3) k z.length A rb S z Te ve σ0 w0 fun s => rcdD (body.dec D ver x s) := by
  intro i σ w s pre post Q hi hag hic hm hrd hb hpre hQ
  dsimp only at hQ
  have hArb : A ≠ rb := fun e => hrb (by rw [e]; exact List.mem_cons_self)
  have hv1 : σ (nv + 1) = .slice (some ⟨A, 0, none⟩) k c := by rw [hag _ (by omega) (by omega)]; exact ha
  have hgm : g ∉ [rb, A] := by
    simp only [List.mem_cons, not_or] at hgn ⊢
    exact ⟨hgn.1, hgn.2.1, by simp⟩
  simp only [elF, List.cons_append, List.nil_append, wpL, wpC, wpR, RI.wp, gOk, if_true, RK.run, ev, updo, thenC]
  simp only [upd, if_true, hv1, hic, show nv + 3 ≠ t by omega, show t ≠ t + 1 by omega, if_false, Int.toNat_natCast, Addr.add_mk, Nat.zero_add, List.map_cons, List.map_nil, ev]
  refine ⟨by omega, by omega, ?_⟩
  have hcall := hD w A pre post hb
  rw [hpre] at hcall
  refine hcall.mono ?_
  rintro e w1 ⟨rfl, hb1, hm1⟩
  refine ⟨_, rfl, ?_⟩
  refine cpF_wp (by omega) fun σ1 a1 v1 => ?_
  simp only [thenC]
  have hagA : ∀ j, j < nv + 4 → σ1 j = σ j := by
    intro j hj
    rw [a1 j (by omega) (by omega)]
    simp only [upd, show j ≠ t by omega, show j ≠ t + 1 by omega, show j ≠ t + 2 by omega, show j ≠ t + 3 by omega, show j ≠ t + 4 by omega, show j ≠ nv + 4 by omega, if_false]
  have hE1 : RV.Env E (nv + 6) rb u x ver σ1 := hE.ag (fun j hj => by rw [hagA j (by omega)]; exact hag j (by omega) (by omega)) (by omega)
  have hm01 : Mod [rb, A] w0 w1 := hm.trans (hm1.mono (by simp))
  refine body_wp ihb hOb (B := A) (base := i * z.length) (S := A :: S) hE1 (by omega) (by omega) ?_ hpre (hrd.mod hm1 (by simpa using hArb.symm) (by simp)) hrb (by simp)
    (fun y hy => Nat.lt_of_lt_of_le (hS y hy) hm01.size) (cell_mod hg hm01 hgm) hgn hb1 ?_
  · rw [v1]; simp only [upd, show nv + 4 ≠ t + 3 by omega, show nv + 4 ≠ t + 4 by omega, if_false, if_true]
  · cases hd : rcdD (body.dec D ver x s) with
    | none =>
      rw [hd] at hQ
      intro σ' w' hm' hret
      exact hQ σ' w' ((hm1.mono (by simp)).trans hm') hret
    | some q =>
      obtain ⟨gv, s'⟩ := q
      rw [hd] at hQ
      intro σ' w' cs a' hm' hr' hrep' hl' hb'
      exact hQ σ' w' cs (fun j hj => by rw [a' j (by omega)]; exact hagA j (by omega)) ((hm1.mono (by simp)).trans hm') hr' hrep' (by rw [hl', hz]) hb'
theorem vstF_wp {sp off nv t rb B base : Nat} {V : Int} {r1 r2 : VR} {S : List Nat} {s : RS} {σ : Sl} {w : World} {pre old post : List Value} {u x : Bool} {ver : Int} {Q : Exit → Sl → World → Prop}
    (h1 : RdG P (r1.sel u x) 1 (D.prim .str x)) (h2 : RdG P (r2.sel u x) 1 (D.prim .nstr x)) (hstr : ∀ s, ∃ l, (D.prim .str x s).1 = .num (Msk.str l)) (hE : RV.Env E nv rb u x ver σ) (ls : sp < nv) (ln : nv + 2 ≤ t) (hs : σ sp = .pointer (some ⟨B, base, none⟩))
    (hr : IsRd S w rb s) (hrb : rb ∉ S) (hB : B ∈ S) (hS : ∀ y ∈ S, y < w.heap.size) (hb : Blk w B (pre ++ (old ++ post))) (hpre : pre.length = base + off) (ho : old.length = 1)
    (hQ : ∀ σ' w' cs, Ag nv σ σ' → Mod [rb, B] w w' → IsRd S w' rb (decV D x V ver s).2 → Rep (rb :: S) w' (decV D x V ver s).1 cs → cs.length = 1 → Blk w' B (pre ++ (cs ++ post)) → Q .normal σ' w') : wpC P (vstF E sp off nv V r1 r2 t) Q σ w := by
  have hBrb : B ≠ rb := fun e => hrb (e ▸ hB)
  have lv := hE.lv
  unfold vstF
  rw [wpC_seqs]
  simp only [wpL]
  refine cF_wp ?_
  simp only [thenC]
  rw [wpC_seq, wpC_blk]
  refine wpR_step (v := .int .i16 ver) (by simp only [RK.val?, ev, upd, show E.vs ≠ nv by omega, if_false, hE.hv]) ?_
  refine wpR_step (v := .bool (decide (ver < V))) (by simp [RK.val?, ev, updo, upd, isShift, intBin]) ?_
  refine wpR_done ?_
  generalize hσ : updo _ (some (t + 1)) _ = σ1
  have g1 : Ag nv σ σ1 := fun j hj => by rw [← hσ]; simp only [updo, upd, show j ≠ t + 1 by omega, show j ≠ t by omega, show j ≠ nv by omega, if_false]
  have c1 : σ1 (t + 1) = .bool (decide (ver < V)) := by rw [← hσ]; simp only [updo, upd_same]
  clear hσ
  by_cases hv : ver < V
  · rw [decide_eq_true hv] at c1
    rw [wpC_cond_t (by simp only [ev, c1]), wpC_seqs]
    simp only [decV, if_pos hv] at hQ
    simp only [wpL]
    rw [wpC_blk]
    refine wpR_run ?_
    intro T
    have hA := Blk.new w [.string .empty] T
    have m1 : Mod [] w (w.alloc (.cells [Value.string .empty].toArray T)) := Mod.alloc _ _ _
    generalize w.alloc (.cells [Value.string .empty].toArray T) = w1 at hA m1 ⊢
    have hsz1 := m1.size
    have hrlt := hr.lt
    have hBlt := hb.lt
    have hr1 : IsRd (w.heap.size :: S) w1 rb s := hr.fresh m1 (Nat.le_refl _)
    have hAS : w.heap.size ∉ rb :: S := by
      simp only [List.mem_cons, not_or]
      exact ⟨by omega, fun hc => by have := hS _ hc; omega⟩
    refine wpR_done ?_
    refine VR.wpS (A := w.heap.size) r1 _ _ w1 (.string .empty) (hE.ag (m := nv) (g1.upd (by omega)) (Nat.le_refl _)) (by omega) (by omega) h1 hr1 (by simp only [List.mem_cons, not_or]; exact ⟨by omega, hrb⟩)
      (fun y hy => by rcases List.mem_cons.1 hy with rfl | hy
                      · exact hA.lt
                      · exact Nat.lt_of_lt_of_le (hS y hy) hsz1) (by simp only [updo, upd_same]) hA fun σ2 w2 cs a2 hrep hr2 hA2 m2 => ?_
    obtain ⟨l, hl⟩ := hstr s
    rw [hl] at hrep hQ
    cases hrep
    simp only [thenC]
    rw [wpC_blk]
    refine wpR_step (v := .pointer (some ⟨w.heap.size, 0, none⟩)) (by simp only [RK.val?, ev, a2 (nv + 1) (by omega), updo, upd_same]) ?_
    refine wpR_done ?_
    have g2 : Ag nv σ (updo σ2 (some nv) (.pointer (some ⟨w.heap.size, 0, none⟩))) := fun j hj => by
      simp only [updo, upd, show j ≠ nv by omega, if_false]
      rw [a2 j (by omega)]
      simp only [updo, upd, show j ≠ nv + 1 by omega, if_false]
      exact g1 j hj
    have hb2 : Blk w2 B (pre ++ (old ++ post)) := (hb.mod m1 (by simp)).mod m2 (by simp only [List.mem_cons, List.not_mem_nil, or_false, not_or]; exact ⟨hBrb, by omega⟩)
    refine stF_mid (old := old) (v := .pointer (some ⟨w.heap.size, 0, none⟩)) (by rw [g2 _ ls]; exact hs) (by simp only [updo, upd_same]) hb2 hpre rfl ho (by simp [Value.cells, Value.oneCell']) (by omega) (by omega) fun σ4 w4 a4 m4 hb4 => ?_
    refine hQ σ4 w4 [.pointer (some ⟨w.heap.size, 0, none⟩)] (fun j hj => by rw [a4 j (by omega)]; exact g2 j hj) ?_ ((hr2.weaken fun y hy => List.mem_cons_of_mem _ hy).mod m4 (by simpa using hBrb.symm) (by simpa using hB)) ?_ rfl hb4
    · exact Mod.drop (b := w.heap.size) (S := [rb, B]) ((m1.nil.trans (m2.mono (by simp))).trans (m4.mono (by simp))) (Nat.le_refl _)
    · have hA4 := hA2.mod m4 (by simp only [List.mem_singleton]; omega)
      have e : GV.toN (.num (Msk.str l)) = .nstr (some l) := by simp [GV.toN, Msk.str]
      rw [e]
      exact .nstr1 hAS (hA4.cell 0)
  · rw [decide_eq_false hv] at c1
    rw [wpC_cond_f (by simp only [ev, c1])]
    simp only [decV, if_neg hv] at hQ
    refine VR.wp r2 _ _ w (hE.ag g1 (Nat.le_refl _)) (by omega) (by omega) h2 hr hrb hS fun σ3 w3 v a3 v3 hv3 hr3 hm3 => ?_
    obtain ⟨hv1, hv2⟩ := hv3
    simp only [thenC]
    have g3 : Ag nv σ σ3 := fun j hj => by rw [a3 j (by omega) (by omega)]; exact g1 j hj
    refine stF_mid (old := old) (by rw [g3 _ ls]; exact hs) v3 (hb.mod hm3 (by simpa using hBrb)) hpre hv1 ho hv2.oneCell (by omega) (by omega) fun σ4 w4 a4 hm4 hb4 => ?_
    exact hQ σ4 w4 v.cells.toList (fun j hj => by rw [a4 j (by omega)]; exact g3 j hj) ((hm3.mono (by simp)).trans (hm4.mono (by simp))) (hr3.mod hm4 (by simpa using hBrb.symm) (by simpa using hB)) (hv2.mod hm4 (by simpa using .inr hB)) (by simpa using hv1) hb4
def Sc.lists : Sc → Bool
  | .nil => false
  | .tags _ => false
  | .prm _ _ _ _ _ rest => rest.lists
  | .enm _ _ _ _ _ rest => rest.lists
  | .uid _ _ rest => rest.lists
  | .vst _ _ _ _ rest => rest.lists
  | .lsp _ _ _ _ _ _ _ _ => true
  | .lss _ _ _ _ _ _ _ => true
  | .sub _ _ body rest => body.lists || rest.lists
  | .ktg .. => true
theorem Sc.sound {g rb : Nat} {Te : TypeId} {ve : Value} {u x : Bool} {ver : Int} (hcpl : CplC P E.cpl g) (hsh : D.Short) : ∀ sc : Sc, (sc.lists = true → OkC P E.ok) → sc.Sound P E D g rb Te ve u x ver := by
  intro sc
  induction sc with
  | nil =>
    intro hok sp off nv nt nb B base S s pre post σ w Q hO hE ls hnt hs hpre hr hrb hB hS hg hgn hb hQ
    simp only [Sc.dec] at hQ
    exact hQ σ w [] (Ag.refl _ _) (Mod.refl _ _) hr .nil rfl hb
  | ktg cs mid a b c _ =>
    intro hok sp off nv nt nb B base S s pre post σ w Q hO hE ls hnt hs hpre hr hrb hB hS hg hgn hb hQ
    exact hO E g rb Te ve ver hcpl (hok rfl) hsh sp off nv nt nb B base S s pre post σ w Q hE ls hnt hs hpre hr hrb hB hS hg hgn hb hQ
  | tags f =>
    intro hok sp off nv nt nb B base S s pre post σ w Q hO hE ls hnt hs hpre hr hrb hB hS hg hgn hb hQ
    simp only [Sc.dec] at hQ
    simp only [Sc.nv] at hnt
    have lb := hE.lb
    simp only [Sc.gen]
    cases hf : E.hasFx with
    | false =>
      have h0 := hE.h0 hf
      subst h0
      simp only [Bool.false_eq_true, if_false] at hQ ⊢
      exact hQ σ w [[.map none]] (Ag.refl _ _) (Mod.refl _ _) hr (.cons .tag0 .nil) rfl hb
    | true =>
      have lf := hE.lf hf
      simp only [if_true, wpL]
      rw [wpC_seq, wpC_blk]
      refine wpR_step (v := .bool x) (congrArg some (hE.hx hf)) ?_
      refine wpR_done ?_
      have hag : Ag nv σ (updo σ (some nt) (.bool x)) := (Ag.refl _ _).upd (by omega)
      cases x with
      | false =>
        rw [wpC_cond_f (by simp only [ev, updo, upd, if_true]), wpC_skip]
        simp only [Bool.false_eq_true, if_false] at hQ
        exact hQ _ w [[.map none]] hag (Mod.refl _ _) hr (.cons .tag0 .nil) rfl hb
      | true =>
        rw [wpC_cond_t (by simp only [ev, updo, upd, if_true])]
        simp only [if_true] at hQ
        have hb' : Blk w B (pre ++ ([Value.map none] ++ post)) := by simpa [Sc.dcs] using hb
        refine rdF_wp (old := [.map none]) (hO rfl) ((hag sp ls).trans hs) ((hag E.b lb).trans hE.hb) (by omega) (by omega) hr hrb hB hS hb' hpre rfl (fun O v w h => ⟨h.1, h.2.oneCell⟩) fun σ' w1 w' v a' hv m1 m2 hr' hbl => ?_
        have hl : v.cells.toList.length = 1 := by simpa using hv.1
        refine hQ σ' w' [v.cells.toList] (fun j hj => (a' j (by omega)).trans (hag j hj)) ((m1.mono (by simp)).trans (m2.mono (by simp))) hr' (.cons (hv.2.mod m2 (by simpa using .inr hB)) .nil) (by simp [Sc.dcs, hl]) (by simpa using hbl)
  | uid vc f rest ih =>
    intro hok sp off nv nt nb B base S s pre post σ w Q hO hE ls hnt hs hpre hr hrb hB hS hg hgn hb hQ
    have ih := ih hok
    obtain ⟨hR, hO⟩ := hO
    simp only [Sc.nv] at hnt
    simp only [Sc.dcs, List.flatten_cons] at hb
    have lb := hE.lb
    have h16 : (u8s (List.replicate 16 0)).length = 16 := by rfl
    refine consD_wp (old := u8s (List.replicate 16 0)) ih hO hE ls (nv' := nv + 1) (by omega) (by omega) hs hpre hrb hB hS hg hgn h16 (fun Q' hQ' => ?_) (by simpa only [Sc.dec, Sc.dcs, List.flatten_cons] using hQ)
    rw [List.append_assoc] at hb
    refine VC.wrap_wp hE (by omega) (fun hv σ1 a1 => ?_) fun hv σ1 a1 => ?_
    · rw [if_pos hv] at hQ'
      refine uidR_wp (old := u8s (List.replicate 16 0)) hR ((a1 sp (by omega)).trans hs) ((a1 E.b (by omega)).trans hE.hb) ls lb (by omega) hr hrb hB hS hb hpre h16 fun σ' w' cs a' hm' hr' hrep hl hb' => ?_
      exact hQ' σ' w' cs (fun j hj => (a' j hj).trans (a1 j (by omega))) hm' hr' hrep hl hb'
    · rw [if_neg (by simp [hv])] at hQ'
      exact hQ' σ1 w _ (fun j hj => a1 j (by omega)) (Mod.refl _ _) hr .arr h16 hb
  | vst vc V r1 r2 rest ih =>
    intro hok sp off nv nt nb B base S s pre post σ w Q hO hE ls hnt hs hpre hr hrb hB hS hg hgn hb hQ
    have ih := ih hok
    obtain ⟨hR1, hR2, hst, hO⟩ := hO
    simp only [Sc.nv] at hnt
    simp only [Sc.dcs, List.flatten_cons] at hb
    refine consD_wp (old := [.pointer none]) ih hO hE ls (nv' := nv + 2) (by omega) (by omega) hs hpre hrb hB hS hg hgn rfl (fun Q' hQ' => ?_) (by simpa only [Sc.dec, Sc.dcs, List.flatten_cons] using hQ)
    rw [List.append_assoc] at hb
    refine VC.wrap_wp hE (by omega) (fun hv σ1 a1 => ?_) fun hv σ1 a1 => ?_
    · rw [if_pos hv] at hQ'
      have hE1 := hE.ag (a1.mono (m := nv) (by omega)) (Nat.le_refl _)
      refine vstF_wp hR1 hR2 hst hE1 ls (by omega) (by rw [a1 _ (by omega)]; exact hs) hr hrb hB hS hb hpre rfl fun σ' w' cs a' hm' hr' hrep hl hb' => ?_
      exact hQ' σ' w' cs (fun j hj => (a' j hj).trans (a1 j (by omega))) hm' hr' hrep hl hb'
    · rw [if_neg (by simp [hv])] at hQ'
      exact hQ' σ1 w [.pointer none] (fun j hj => a1 j (by omega)) (Mod.refl _ _) hr .nstr0 rfl hb
  | prm vc init r p d rest ih =>
    intro hok sp off nv nt nb B base S s pre post σ w Q hO hE ls hnt hs hpre hr hrb hB hS hg hgn hb hQ
    have ih := ih hok
    obtain ⟨hR, hpd, hO⟩ := hO
    simp only [Sc.nv] at hnt
    simp only [Sc.dcs, List.flatten_cons] at hb
    have hBrb : B ≠ rb := fun e => hrb (e ▸ hB)
    refine consD_wp (old := d.cells) ih hO hE ls (nv' := nv + 1) (by omega) (by omega) hs hpre hrb hB hS hg hgn d.cells_length (fun Q' hQ' => ?_) (by simpa only [Sc.dec, Sc.dcs, List.flatten_cons] using hQ)
    rw [List.append_assoc] at hb
    refine VC.wrap_wp hE (by omega) (fun hv σ1 a1 => ?_) fun hv σ1 a1 => ?_
    · rw [if_pos hv] at hQ'
      rw [wpC_seqs]
      refine initF_wp fun σ2 a2 => ?_
      simp only [wpL]
      have g2 : Ag nv σ σ2 := fun j hj => by rw [a2 j (by omega)]; exact a1 j (by omega)
      refine VR.wp r _ _ w (hE.ag g2 (Nat.le_refl _)) (by omega) (by omega) hR hr hrb hS fun σ3 w3 v a3 v3 hv3 hr3 hm3 => ?_
      obtain ⟨hv1, hv2⟩ := hv3
      simp only [thenC]
      have g3 : Ag nv σ σ3 := fun j hj => by rw [a3 j (by omega) (by omega)]; exact g2 j hj
      refine stF_mid (old := d.cells) (by rw [g3 _ ls]; exact hs) v3 (hb.mod hm3 (by simpa using hBrb)) hpre (by rw [hv1, hpd]) d.cells_length hv2.oneCell (by omega) (by omega) fun σ4 w4 a4 hm4 hb4 => ?_
      refine hQ' σ4 w4 v.cells.toList (fun j hj => by rw [a4 j (by omega)]; exact g3 j hj) ((hm3.mono (by simp)).trans (hm4.mono (by simp))) (hr3.mod hm4 (by simpa using hBrb.symm) (by simpa using hB))
        (hv2.mod hm4 (by simpa using .inr hB)) (by rw [← hpd, ← hv1]; simp) hb4
    · rw [if_neg (by simp [hv])] at hQ'
      exact hQ' σ1 w d.cells (fun j hj => a1 j (by omega)) (Mod.refl _ _) hr (d.rep _ _) d.cells_length hb
  | enm vc init r p d rest ih =>
    intro hok sp off nv nt nb B base S s pre post σ w Q hO hE ls hnt hs hpre hr hrb hB hS hg hgn hb hQ
    have ih := ih hok
    obtain ⟨hR, hpd, hO⟩ := hO
    simp only [Sc.nv] at hnt
    simp only [Sc.dcs, List.flatten_cons] at hb
    have hBrb : B ≠ rb := fun e => hrb (e ▸ hB)
    refine consD_wp (old := d.cells) ih hO hE ls (nv' := nv + 3) (by omega) (by omega) hs hpre hrb hB hS hg hgn d.cells_length (fun Q' hQ' => ?_) (by simpa only [Sc.dec, Sc.dcs, List.flatten_cons] using hQ)
    rw [List.append_assoc] at hb
    refine VC.wrap_wp hE (by omega) (fun hv σ1 a1 => ?_) fun hv σ1 a1 => ?_
    · rw [if_pos hv] at hQ'
      rw [wpC_seqs]
      simp only [wpL]
      refine cF_wp ?_
      simp only [thenC]
      rw [wpC_seqs]
      simp only [wpL]
      have g2 : Ag nv σ (upd σ1 nv init) := fun j hj => by rw [upd_ne _ _ (by omega)]; exact a1 j (by omega)
      refine VR.wp r _ _ w (hE.ag g2 (Nat.le_refl _)) (by omega) (by omega) hR hr hrb hS fun σ3 w3 v a3 v3 hv3 hr3 hm3 => ?_
      obtain ⟨hv1, hv2⟩ := hv3
      simp only [thenC]
      have g3 : Ag nv σ σ3 := fun j hj => by rw [a3 j (by omega) (by omega)]; exact g2 j hj
      refine cpF_wp (by omega) fun σ5 a5 v5 => ?_
      simp only [thenC]
      refine cpF_wp (by omega) fun σ6 a6 v6 => ?_
      simp only [thenC]
      have g6 : Ag nv σ σ6 := fun j hj => by rw [a6 j (by omega) (by omega), a5 j (by omega) (by omega)]; exact g3 j hj
      refine stF_mid (old := d.cells) (by rw [g6 _ ls]; exact hs) (by rw [v6, v5]; exact v3) (hb.mod hm3 (by simpa using hBrb)) hpre (by rw [hv1, hpd]) d.cells_length hv2.oneCell (by omega) (by omega) fun σ4 w4 a4 hm4 hb4 => ?_
      refine hQ' σ4 w4 v.cells.toList (fun j hj => by rw [a4 j (by omega)]; exact g6 j hj) ((hm3.mono (by simp)).trans (hm4.mono (by simp))) (hr3.mod hm4 (by simpa using hBrb.symm) (by simpa using hB))
        (hv2.mod hm4 (by simpa using .inr hB)) (by rw [← hpd, ← hv1]; simp) hb4
    · rw [if_neg (by simp [hv])] at hQ'
      exact hQ' σ1 w d.cells (fun j hj => a1 j (by omega)) (Mod.refl _ _) hr (d.rep _ _) d.cells_length hb
  | lsp vc len bytes d init r p rest ih =>
    intro hok sp off nv nt nb B base S s pre post σ w Q hO hE ls hnt hs hpre hr hrb hB hS hg hgn hb hQ
    have hok := hok rfl
    have ih := ih fun _ => hok
    obtain ⟨hL, hby, hR, hpd, hO⟩ := hO
    simp only [Sc.nv] at hnt
    simp only [Sc.dcs, List.flatten_cons] at hb
    refine consD_wp (old := [.slice none 0 0]) ih hO hE ls (nv' := nv + 5) (by omega) (by omega) hs hpre hrb hB hS hg hgn rfl (fun Q' hQ' => ?_) (by simpa only [Sc.dec, Sc.dcs, List.flatten_cons] using hQ)
    rw [List.append_assoc] at hb
    refine VC.wrap_wp hE (by omega) (fun hv σ1 a1 => ?_) fun hv σ1 a1 => ?_
    · rw [if_pos hv] at hQ'
      have hE1 := hE.ag (a1.mono (m := nv) (by omega)) (Nat.le_refl _)
      refine lstF_wp (el := fun s => some (D.prim p x s)) hok hcpl hsh hE1 ls (by omega) (by rw [a1 _ (by omega)]; exact hs) hpre hr hrb hB hS hg hgn hb hL hby ?_ ?_
      · intro σ0 w0 A c n g0 v0 hm0 hA hA2
        rw [d.zero_length]
        exact elemP (hE1.ag g0 (Nat.le_refl _)) v0 (by omega) (hpd ▸ hR) d.zero_length (by simp only [List.mem_cons, not_or]; exact ⟨fun e => by have := hr.lt; omega, hrb⟩)
          (fun y hy => by rcases List.mem_cons.1 hy with rfl | hy
                          · exact hA2
                          · exact Nat.lt_of_lt_of_le (hS y hy) hm0.size)
      · rw [d.zero_length]
        cases hd : decLst D x bytes ver d.size (fun s => some (D.prim p x s)) s with
        | none => rw [hd] at hQ'; exact hQ'
        | some q =>
          obtain ⟨gv, s'⟩ := q
          rw [hd] at hQ'
          intro σ' w' v a' hm' hr' hrep' hb'
          exact hQ' σ' w' [v] (fun j hj => by rw [a' j hj]; exact a1 j (by omega)) hm' hr' hrep' rfl hb'
    · rw [if_neg (by simp [hv])] at hQ'
      exact hQ' σ1 w [.slice none 0 0] (fun j hj => a1 j (by omega)) (Mod.refl _ _) hr .lst0 rfl hb
  | lss vc len bytes z dfl body rest ihb ih =>
    intro hok sp off nv nt nb B base S s pre post σ w Q hO hE ls hnt hs hpre hr hrb hB hS hg hgn hb hQ
    have hok := hok rfl
    have ih := ih fun _ => hok
    have ihb := ihb fun _ => hok
    obtain ⟨hL, hby, hz, hD, hOb, hO⟩ := hO
    simp only [Sc.nv] at hnt
    simp only [Sc.dcs, List.flatten_cons] at hb
    refine consD_wp (old := [.slice none 0 0]) ih hO hE ls (nv' := nv + (6 + body.nv)) (by omega) (by omega) hs hpre hrb hB hS hg hgn rfl (fun Q' hQ' => ?_) (by simpa only [Sc.dec, Sc.dcs, List.flatten_cons] using hQ)
    rw [List.append_assoc] at hb
    refine VC.wrap_wp hE (by omega) (fun hv σ1 a1 => ?_) fun hv σ1 a1 => ?_
    · rw [if_pos hv] at hQ'
      have hE1 := hE.ag (a1.mono (m := nv) (by omega)) (Nat.le_refl _)
      refine lstF_wp (el := fun s => rcdD (body.dec D ver x s)) hok hcpl hsh hE1 ls (by omega) (by rw [a1 _ (by omega)]; exact hs) hpre hr hrb hB hS hg hgn hb hL hby ?_ ?_
      · intro σ0 w0 A c n g0 v0 hm0 hA hA2
        have hgn' := hgn
        simp only [List.mem_cons, not_or] at hgn
        refine elemS ihb hOb (hE1.ag g0 (Nat.le_refl _)) v0 (by omega) hz hD (by simp only [List.mem_cons, not_or]; exact ⟨fun e => by have := hr.lt; omega, hrb⟩)
          (fun y hy => by rcases List.mem_cons.1 hy with rfl | hy
                          · exact hA2
                          · exact Nat.lt_of_lt_of_le (hS y hy) hm0.size) (cell_mod hg hm0 (by simpa using hgn.1)) ?_
        simp only [List.mem_cons, not_or]
        exact ⟨hgn.1, fun e => by have : g < w.heap.size := World.block_lt_of_cell? w ⟨g, 0, none⟩ hg; omega, hgn.2⟩
      · rw [hz]
        cases hd : decLst D x bytes ver body.size (fun s => rcdD (body.dec D ver x s)) s with
        | none => rw [hd] at hQ'; exact hQ'
        | some q =>
          obtain ⟨gv, s'⟩ := q
          rw [hd] at hQ'
          intro σ' w' v a' hm' hr' hrep' hb'
          exact hQ' σ' w' [v] (fun j hj => by rw [a' j hj]; exact a1 j (by omega)) hm' hr' hrep' rfl hb'
    · rw [if_neg (by simp [hv])] at hQ'
      exact hQ' σ1 w [.slice none 0 0] (fun j hj => a1 j (by omega)) (Mod.refl _ _) hr .lst0 rfl hb
  | sub vc dfl body rest ihb ih =>
    intro hok sp off nv nt nb B base S s pre post σ w Q hO hE ls hnt hs hpre hr hrb hB hS hg hgn hb hQ
    have ih := ih fun h => hok (by simp [Sc.lists, h])
    have ihb := ihb fun h => hok (by simp [Sc.lists, h])
    obtain ⟨hD, hOb, hO⟩ := hO
    simp only [Sc.nv] at hnt
    simp only [Sc.dcs, List.flatten_cons] at hb
    have hBrb : B ≠ rb := fun e => hrb (e ▸ hB)
    refine consD_wp (old := body.dcs.flatten) ih hO hE ls (nv' := nv + (2 + body.nv)) (by omega) (by omega) hs hpre hrb hB hS hg hgn rfl (fun Q' hQ' => ?_) (by simpa only [Sc.dec, Sc.dcs, List.flatten_cons] using hQ)
    rw [List.append_assoc] at hb
    refine VC.wrap_wp hE (by omega) (fun hv σ1 a1 => ?_) fun hv σ1 a1 => ?_
    · rw [if_pos hv] at hQ'
      rw [wpC_seqs]
      have hs1 : σ1 sp = .pointer (some ⟨B, base, none⟩) := by rw [a1 _ (by omega)]; exact hs
      simp only [List.cons_append, List.nil_append, wpL, wpC, wpR, RI.wp, gOk, if_true, RK.run, ev, updo, thenC]
      simp only [upd, if_true, hs1, Addr.add_mk, List.map_cons, List.map_nil, ev]
      have hcall := hD w B pre (rest.dcs.flatten ++ post) hb
      rw [hpre] at hcall
      refine hcall.mono ?_
      rintro e w2 ⟨rfl, hb2, hm2⟩
      refine ⟨_, rfl, ?_⟩
      refine cpF_wp (by omega) fun σ3 a3 v3 => ?_
      simp only [thenC]
      have g3 : Ag nv σ σ3 := by
        intro j hj
        rw [a3 j (by omega) (by omega)]
        simp only [upd, show j ≠ nv by omega, show j ≠ nt + vc.nt by omega, show j ≠ nt + vc.nt + 1 by omega, show j ≠ nt + vc.nt + 2 by omega, show j ≠ nt + vc.nt + 3 by omega, show j ≠ nt + vc.nt + 4 by omega, if_false]
        exact a1 j (by omega)
      have hgm : g ∉ [B] := by
        simp only [List.mem_cons, not_or, List.not_mem_nil, not_false_eq_true, and_true] at hgn ⊢
        exact fun e => hgn.2 (e ▸ hB)
      refine body_wp ihb hOb (B := B) (base := base + off) (S := S) (hE.ag g3 (by omega)) (by omega) (by omega) ?_ hpre (hr.mod hm2 (by simpa using hBrb.symm) (by simpa using hB)) hrb hB
        (fun y hy => Nat.lt_of_lt_of_le (hS y hy) hm2.size) (cell_mod hg hm2 hgm) hgn hb2 ?_
      · rw [v3]; simp only [upd, show nv ≠ nt + vc.nt + 3 by omega, show nv ≠ nt + vc.nt + 4 by omega, if_false, if_true]
      · cases hd : rcdD (body.dec D ver x s) with
        | none =>
          rw [hd] at hQ'
          intro σ' w' hm' hret
          exact hQ' σ' w' ((hm2.mono (by simp)).trans hm') hret
        | some q =>
          obtain ⟨gv, s'⟩ := q
          rw [hd] at hQ'
          intro σ' w' cs a' hm' hr' hrep' hl' hb'
          exact hQ' σ' w' cs (fun j hj => by rw [a' j (by omega)]; exact g3 j hj) ((hm2.mono (by simp)).trans hm') hr' hrep' hl' hb'
    · rw [if_neg (by simp [hv])] at hQ'
      exact hQ' σ1 w body.dcs.flatten (fun j hj => a1 j (by omega)) (Mod.refl _ _) hr (.rcd (body.drep _ _)) rfl hb
end
end Go.Msk

namespace Go.Msk
open Go.RowKit
set_option maxRecDepth 100000
structure Top where
  rv : Option FuncId
  flex : Option Int
  dfl : FuncId
  ok : FuncId
  cpl : FuncId
  sc : Sc
  deriving Inhabited
def Top.env (T : Top) : RE := ⟨7, 8, 9, 2, 6, T.flex.isSome, T.ok, T.cpl⟩
def Top.nv (T : Top) : Nat := if T.flex.isSome then 11 else 10
def Top.t0 (T : Top) : Nat := T.nv + T.sc.nv
def Top.t1 (T : Top) : Nat := T.t0 + (if T.rv.isSome then 8 else 4)
def Top.t2 (T : Top) : Nat := T.t1 + (if T.flex.isSome then 8 else 5)
def Top.flexF (T : Top) : List IC :=
  match T.flex with
  | some n => [.blk [⟨some (T.t1 + 5), .mv (.tmp 8), none⟩, ⟨some (T.t1 + 6), .bin .geq (.tmp (T.t1 + 5)) (.const (.int .i16 n)), none⟩, ⟨some 9, .mv (.tmp (T.t1 + 6)), none⟩], .blk [⟨some (T.t1 + 7), .mv (.tmp 9), none⟩]]
  | none => []
def Top.verF (T : Top) : List IC :=
  match T.rv with
  | some f => [rdF 0 7 (T.t0 + 4) 0 f]
  | none => []
def Top.gen (T : Top) : IC × List RV × Nat :=
  (seqs ([cF 6 .nilIface, .blk [⟨some T.t0, .mv (.tmp 0), none⟩, ⟨some (T.t0 + 1), .call T.dfl [.tmp T.t0], none⟩],
     .blk [⟨some (T.t0 + 2), .mv (.tmp 1), none⟩, ⟨some (T.t0 + 3), .build [.slice none 0 0, .bool false] [(0, 1, .tmp (T.t0 + 2))], none⟩, ⟨some 7, .alloc [.slice none 0 0, .bool false], none⟩, ⟨none, .st (.tmp 7) 2 (.tmp (T.t0 + 3)), none⟩]] ++
    (T.verF ++ ([ldF 0 8 T.t1 0, .blk [⟨some (T.t1 + 4), .mv (.tmp 8), none⟩]] ++ (T.flexF ++ ([cpF 0 (T.nv - 1) T.t2] ++
    (T.sc.gen T.env (T.nv - 1) 1 T.nv (T.t2 + 1) 0 ++
     [.blk [⟨some (T.t2 + 1 + T.sc.nt T.flex.isSome), .call T.cpl [.tmp 7], none⟩, ⟨some 6, .mv (.tmp (T.t2 + 1 + T.sc.nt T.flex.isSome)), none⟩], .ret])))))),
   [.tmp 6], T.t2 + 2 + T.sc.nt T.flex.isSome)
def Top.x (T : Top) (ver : Int) : Bool := match T.flex with | some n => decide (ver ≥ n) | none => false
def Top.dec (T : Top) (D : Dec) (ver : Int) (s : RS) : Option ((Int × List GV) × RS) :=
  let (v, s1) := if T.rv.isSome then (IntKind.i16.wrap (rdN 2 s).1, (rdN 2 s).2) else (ver, s)
  match T.sc.dec D v (T.x v) s1 with
  | none => none
  | some (l, s2) => some ((v, l), s2)
section
variable {P : Program} {D : Dec}
structure Top.Ok (T : Top) (P : Program) (D : Dec) (g : Nat) (u : Bool) : Prop where
  rv : ∀ f, T.rv = some f → RdC P f fun s => (.int .i16 (IntKind.i16.wrap (rdN 2 s).1), (rdN 2 s).2)
  ok : T.sc.lists = true → OkC P T.ok
  cpl : CplC P T.cpl g
  short : D.Short
  dfl : ∀ ver, DfC P T.dfl (.int .i16 ver :: T.sc.dcs.flatten) (.int .i16 ver :: T.sc.dcs.flatten)
  sc : ∀ x, (T.flex = none → x = false) → T.sc.Ok P D u x
theorem RdC.v {f : FuncId} {val : RS → Value × RS} (h : RdC P f val) : RdV P f (fun _ s v _ => v = (val s).1) fun s => (val s).2 :=
  fun S w rb s hr hrb _ => (h S w rb s hr hrb).mono fun _e _w' ⟨h1, h2, h3⟩ => ⟨_, h1, rfl, h2, h3⟩
theorem mkRd_wp {t : Nat} {σ : Sl} {w : World} {v : Value} {Q : Exit → Sl → World → Prop} (hv : σ 1 = v) (h1 : v.cells.size = 1) (h2 : ∀ y ∈ v.cells.toList, y.oneCell' = true) (lt : 8 ≤ t)
    (hQ : ∀ σ' w', (∀ j, j < t → j ≠ 7 → σ' j = σ j) → σ' 7 = .pointer (some ⟨w.heap.size, 0, none⟩) → Blk w' w.heap.size (v.cells.toList ++ [.bool false]) → Mod [] w w' → Q .normal σ' w') :
    wpC P (.blk [⟨some t, .mv (.tmp 1), none⟩, ⟨some (t + 1), .build [.slice none 0 0, .bool false] [(0, 1, .tmp t)], none⟩, ⟨some 7, .alloc [.slice none 0 0, .bool false], none⟩, ⟨none, .st (.tmp 7) 2 (.tmp (t + 1)), none⟩]) Q σ w := by
  have hl : v.cells.toList.length = 1 := by simpa using h1
  simp only [wpC, wpR, RI.wp, gOk, if_true, RK.run, ev, updo, List.map_cons, List.map_nil, fillL, upd_same, hv]
  rw [if_pos ⟨h1, by simp⟩]
  have e1 : splice [Value.slice none 0 0, .bool false] 0 v.cells.toList = v.cells.toList ++ [.bool false] := by
    simp [splice, hl]
  simp only [e1]
  intro T
  have ec : ∀ cs, (Value.agg cs).cells = cs := fun _ => rfl
  simp only [upd, if_true, show t + 1 ≠ 7 by omega, if_false, ec]
  obtain ⟨k1, k2, k3⟩ := new_put w [.slice none 0 0, .bool false] (v.cells.toList ++ [.bool false]) T (by simp [hl]) (by
    intro y hy
    rcases List.mem_append.1 hy with hy | hy
    · exact h2 y hy
    · simp only [List.mem_singleton] at hy; subst hy; rfl)
  refine ⟨by simp [h1], k1, hQ _ _ ?_ ?_ k2 k3⟩
  · intro j hj hne
    simp only [upd, hne, show j ≠ t by omega, show j ≠ t + 1 by omega, if_false]
  · simp only [upd, if_true]
theorem callF_wp {t x : Nat} {f : FuncId} {σ : Sl} {w : World} {v : Value} {R : Ending → World → Prop} {Q : Exit → Sl → World → Prop} (hx : σ x = v) (hc : Calls P f [v].toArray w R)
    (hQ : ∀ e w', R e w' → ∃ u, e = .returned u ∧ ∀ σ', Ag t σ σ' → Q .normal σ' w') : wpC P (.blk [⟨some t, .mv (.tmp x), none⟩, ⟨some (t + 1), .call f [.tmp t], none⟩]) Q σ w := by
  simp only [wpC, wpR, RI.wp, gOk, if_true, RK.run, ev, updo, List.map_cons, List.map_nil, upd_same, hx]
  refine hc.mono fun e w' hR => ?_
  obtain ⟨u, rfl, h⟩ := hQ e w' hR
  refine ⟨u, rfl, h _ fun j hj => ?_⟩
  simp only [upd, show j ≠ t by omega, show j ≠ t + 1 by omega, if_false]
theorem mvF_wp {t x : Nat} {σ : Sl} {w : World} {Q : Exit → Sl → World → Prop} (hQ : ∀ σ', Ag t σ σ' → Q .normal σ' w) : wpC P (.blk [⟨some t, .mv (.tmp x), none⟩]) Q σ w := by
  simp only [wpC, wpR, RI.wp, gOk, if_true, RK.run, ev, updo]
  exact hQ _ fun j hj => by simp only [upd, show j ≠ t by omega, if_false]
def Top.rest (T : Top) : List IC :=
  T.flexF ++ ([cpF 0 (T.nv - 1) T.t2] ++ (T.sc.gen T.env (T.nv - 1) 1 T.nv (T.t2 + 1) 0 ++
     [.blk [⟨some (T.t2 + 1 + T.sc.nt T.flex.isSome), .call T.cpl [.tmp 7], none⟩, ⟨some 6, .mv (.tmp (T.t2 + 1 + T.sc.nt T.flex.isSome)), none⟩], .ret]))
theorem Top.rest_wp {T : Top} {g : Nat} {u : Bool} (hT : T.Ok P D g u) {σ : Sl} {w w0 : World} {b0 rb : Nat} {ver : Int} {s : RS} {Te : TypeId} {ve : Value}
    (hb : Blk w b0 (.int .i16 ver :: T.sc.dcs.flatten)) (hr : IsRd [b0] w rb s) (hrb : rb ≠ b0) (hg : GErr g w Te ve) (hgb : g ≠ b0) (hgr : g ≠ rb) (hw0 : Mod [b0] w0 w) (hfr : w0.heap.size ≤ rb)
    (h0 : σ 0 = .pointer (some ⟨b0, 0, none⟩)) (h2 : σ 2 = .bool u) (h7 : σ 7 = .pointer (some ⟨rb, 0, none⟩)) (h8 : σ 8 = .int .i16 ver) :
    wpL P T.rest (postC [.tmp 6] fun e w' => Mod [b0] w0 w' ∧
      match T.sc.dec D ver (T.x ver) s with
      | none => e = .returned (.iface Te ve)
      | some (gs, s) => e = .returned (errVal s.bad Te ve) ∧ ∃ css, RepL [b0] w' gs css ∧ css.flatten.length = T.sc.dcs.flatten.length ∧ Blk w' b0 (.int .i16 ver :: css.flatten)) σ w := by
  have hnv10 : 10 ≤ T.nv := by unfold Top.nv; split <;> omega
  have ht0 : T.t0 = T.nv + T.sc.nv := rfl
  have ht1 : T.t0 + 4 ≤ T.t1 := by unfold Top.t1; split <;> omega
  have ht2 : T.t1 + 5 ≤ T.t2 := by unfold Top.t2; split <;> omega
  unfold Top.rest
  rw [wpL_append]
  have key : ∀ σ', (∀ j, j < T.t0 → j ≠ 9 → σ' j = σ j) → (T.flex.isSome = true → σ' 9 = .bool (T.x ver)) → wpL P ([cpF 0 (T.nv - 1) T.t2] ++ (T.sc.gen T.env (T.nv - 1) 1 T.nv (T.t2 + 1) 0 ++
     [.blk [⟨some (T.t2 + 1 + T.sc.nt T.flex.isSome), .call T.cpl [.tmp 7], none⟩, ⟨some 6, .mv (.tmp (T.t2 + 1 + T.sc.nt T.flex.isSome)), none⟩], .ret])) (postC [.tmp 6] fun e w' => Mod [b0] w0 w' ∧
      match T.sc.dec D ver (T.x ver) s with
      | none => e = .returned (.iface Te ve)
      | some (gs, s) => e = .returned (errVal s.bad Te ve) ∧ ∃ css, RepL [b0] w' gs css ∧ css.flatten.length = T.sc.dcs.flatten.length ∧ Blk w' b0 (.int .i16 ver :: css.flatten)) σ' w := by
    intro σ1 a1 h9
    simp only [List.cons_append, List.nil_append, wpL]
    refine cpF_wp (by omega) fun σ2 a2 v2 => ?_
    simp only [thenC]
    have a2' : ∀ j, j < T.nv - 1 → j ≠ 9 → σ2 j = σ j := fun j hj hne => by rw [a2 j (by omega) (by omega), a1 j (by omega) hne]
    have hE : RV.Env T.env T.nv rb u (T.x ver) ver σ2 := by
      refine ⟨by simp only [Top.env]; omega, by simp only [Top.env]; omega, fun hf => ?_, by simp only [Top.env]; omega, ?_, ?_, ?_, fun hf => ?_, fun hf => ?_⟩
      · simp only [Top.env] at hf ⊢; unfold Top.nv; rw [if_pos hf]; omega
      · exact (a2' 7 (by omega) (by omega)).trans h7
      · exact (a2' 8 (by omega) (by omega)).trans h8
      · exact (a2' 2 (by omega) (by omega)).trans h2
      · have hn : T.nv = 11 := by unfold Top.nv; rw [if_pos (show T.flex.isSome = true from hf)]
        show σ2 9 = _
        rw [a2 9 (by omega) (by omega)]; exact h9 hf
      · unfold Top.x; cases hfl : T.flex with
        | none => rfl
        | some n => simp only [Top.env, hfl, Option.isSome_some] at hf; exact absurd hf (by simp)
    rw [wpL_append]
    have hs := Sc.sound (E := T.env) (g := g) (rb := rb) (Te := Te) (ve := ve) (u := u) (x := T.x ver) (ver := ver) hT.cpl hT.short T.sc hT.ok
    refine hs (T.nv - 1) 1 T.nv (T.t2 + 1) 0 b0 0 [b0] s [.int .i16 ver] [] σ2 w _ (hT.sc _ fun hf => by unfold Top.x; rw [hf]) hE (by omega) (by omega) ?_ (by simp) hr (by simpa using hrb) (by simp)
      (fun y hy => by simp only [List.mem_singleton] at hy; subst hy; exact hb.lt) hg (by simp [hgb, hgr]) (by simpa using hb) ?_
    · rw [v2, a1 _ (by omega) (by omega)]; exact h0
    · have hdrop : ∀ {w'}, Mod [rb, b0] w w' → Mod [b0] w0 w' := fun h => Mod.drop (b := rb) ((hw0.mono (by simp)).trans h) hfr
      cases hd : T.sc.dec D ver (T.x ver) s with
      | none =>
        intro σ' w' hm' hret
        have hret : σ' 6 = .iface Te ve := hret
        simp only [thenC, postC, rvals, List.mapM_cons, List.mapM_nil, RV.val, hret, Option.bind_eq_bind, Option.bind_some, Option.pure_def, tup_one]
        exact ⟨hdrop hm', trivial⟩
      | some q =>
        obtain ⟨gs, s'⟩ := q
        intro σ' w' css a' hm' hr' hrep hl' hb'
        have h7' : σ' 7 = .pointer (some ⟨rb, 0, none⟩) := (a' 7 (by omega)).trans ((a2' 7 (by omega) (by omega)).trans h7)
        have hg' : GErr g w' Te ve := cell_mod hg hm' (by simp [hgb, hgr])
        simp only [thenC, wpL, wpC, wpR, RI.wp, gOk, if_true, RK.run, ev, updo, List.map_cons, List.map_nil, h7']
        refine (hT.cpl [b0] w' rb s' Te ve hr' hg').mono ?_
        rintro e w2 ⟨rfl, rfl⟩
        refine ⟨_, rfl, ?_⟩
        simp only [postC, rvals, List.mapM_cons, List.mapM_nil, RV.val, upd, if_true, Option.bind_eq_bind, Option.bind_some, Option.pure_def, tup_one]
        refine ⟨hdrop hm', trivial, css, hrep.weaken (by simp), hl', by simpa using hb'⟩
  unfold Top.flexF
  cases hf : T.flex with
  | none =>
    rw [hf] at key
    exact key σ (fun _ _ _ => rfl) (fun h => by simp at h)
  | some n =>
    rw [hf] at key
    simp only [wpL, wpC, wpR, RI.wp, gOk, if_true, RK.run, ev, updo, thenC, upd_same]
    have hx : T.x ver = decide (ver ≥ n) := by unfold Top.x; rw [hf]
    simp only [if_true, h8, isShift, decide_true, Bool.or_true, intBin]
    refine key _ ?_ ?_
    · intro j hj hne
      simp only [upd, hne, show j ≠ T.t1 + 5 by omega, show j ≠ T.t1 + 6 by omega, show j ≠ T.t1 + 7 by omega, if_false]
    · intro _
      simp only [upd, show (9 : Nat) ≠ T.t1 + 7 by omega, if_false, if_true, hx]
theorem Top.read_call {T : Top} {g : Nat} {u : Bool} (hm : P.follows .mixedOrders = true) {f : FuncId} (h : liftF P f = some T.gen) (hT : T.Ok P D g u) {w : World} {b0 : Nat} {ver : Int} {base : Option Addr} {len cap : Nat} {src : List UInt8}
    {Te : TypeId} {ve : Value} (hb : Blk w b0 (.int .i16 ver :: T.sc.dcs.flatten)) (hsrc : IsBytes w base len cap src) (hbase : ∀ a, base = some a → a.block ≠ b0 ∧ a.block < w.heap.size) (hshort : src.length ≤ 1152921504606846976)
    (hg : GErr g w Te ve) (hgb : g ≠ b0) :
    Calls P f [.pointer (some ⟨b0, 0, none⟩), .slice base len cap, .bool u].toArray w fun e w' => Mod [b0] w w' ∧
      match T.dec D ver ⟨src, false, base.isNone⟩ with
      | none => e = .returned (.iface Te ve)
      | some ((v, gs), s) => e = .returned (errVal s.bad Te ve) ∧ ∃ css, RepL [b0] w' gs css ∧ css.flatten.length = T.sc.dcs.flatten.length ∧ Blk w' b0 (.int .i16 v :: css.flatten) := by
  have hnv10 : 10 ≤ T.nv := by unfold Top.nv; split <;> omega
  have ht0 : T.t0 = T.nv + T.sc.nv := rfl
  have ht1 : T.t0 + 4 ≤ T.t1 := by unfold Top.t1; split <;> omega
  have ht2 : T.t1 + 5 ≤ T.t2 := by unfold Top.t2; split <;> omega
  unfold Top.gen at h
  refine call_of h hm (by simp only [List.length_cons, List.length_nil]; omega) ?_
  rw [wpC_seqs]
  have s0 : args0 [.pointer (some ⟨b0, 0, none⟩), .slice base len cap, .bool u] 0 = .pointer (some ⟨b0, 0, none⟩) := rfl
  have s1 : args0 [.pointer (some ⟨b0, 0, none⟩), .slice base len cap, .bool u] 1 = .slice base len cap := rfl
  have s2 : args0 [.pointer (some ⟨b0, 0, none⟩), .slice base len cap, .bool u] 2 = .bool u := rfl
  generalize args0 [.pointer (some ⟨b0, 0, none⟩), .slice base len cap, .bool u] = σ0 at s0 s1 s2
  simp only [List.cons_append, List.nil_append, wpL]
  refine cF_wp ?_
  simp only [thenC]
  have hd := hT.dfl ver w b0 [] [] (by simpa using hb)
  refine callF_wp (v := .pointer (some ⟨b0, 0, none⟩)) (by rw [upd_ne _ _ (by omega)]; exact s0) hd ?_
  rintro e w1 ⟨rfl, hb1, hm1⟩
  refine ⟨_, rfl, fun σ1 a1 => ?_⟩
  simp only [List.nil_append, List.append_nil] at hb1
  simp only [thenC]
  refine mkRd_wp (v := .slice base len cap) (by rw [a1 _ (by omega), upd_ne _ _ (by omega)]; exact s1) rfl (by simp [Value.cells, Value.oneCell']) (by omega) fun σ2 w2 a2 v2 hb2 hm2 => ?_
  simp only [thenC]
  have a2' : ∀ j, j < T.t0 → j ≠ 6 → j ≠ 7 → σ2 j = σ0 j := fun j hj h6 h7 => by rw [a2 j (by omega) h7, a1 j (by omega), upd_ne _ _ h6]
  have hb12 : Blk w2 b0 (.int .i16 ver :: T.sc.dcs.flatten) := hb1.mod hm2 (by simp)
  have hr2 : IsRd [b0] w2 w1.heap.size ⟨src, false, base.isNone⟩ := by
    refine ⟨⟨base, len, cap, hb2, ((hsrc.mod hm1 (fun a ha => by simpa using (hbase a ha).1)).mod hm2 (by simp)), rfl, fun a ha => ⟨?_, by simpa using (hbase a ha).1, Nat.lt_of_lt_of_le (hbase a ha).2 (Nat.le_trans hm1.size hm2.size)⟩⟩, hshort⟩
    have := (hbase a ha).2; have := hm1.size; omega
  have hgl : g < w.heap.size := World.block_lt_of_cell? w ⟨g, 0, none⟩ hg
  have hg2 : GErr g w2 Te ve := cell_mod (cell_mod hg hm1 (by simpa using hgb)) hm2 (by simp)
  have hgr : g ≠ w1.heap.size := by have := hm1.size; omega
  have hbr : w1.heap.size ≠ b0 := by have := hb1.lt; omega
  rw [wpL_append]
  -- from the version on
  have key : ∀ σ3 w3 v s, (∀ j, j < T.t0 → j ≠ 6 → j ≠ 7 → σ3 j = σ0 j) → σ3 7 = .pointer (some ⟨w1.heap.size, 0, none⟩) → Blk w3 b0 (.int .i16 v :: T.sc.dcs.flatten) → IsRd [b0] w3 w1.heap.size s → GErr g w3 Te ve → Mod [b0] w w3 →
      wpL P (ldF 0 8 T.t1 0 :: .blk [⟨some (T.t1 + 4), .mv (.tmp 8), none⟩] :: T.rest) (postC [.tmp 6] fun e w' => Mod [b0] w w' ∧
        match T.sc.dec D v (T.x v) s with
        | none => e = .returned (.iface Te ve)
        | some (gs, s) => e = .returned (errVal s.bad Te ve) ∧ ∃ css, RepL [b0] w' gs css ∧ css.flatten.length = T.sc.dcs.flatten.length ∧ Blk w' b0 (.int .i16 v :: css.flatten)) σ3 w3 := by
    intro σ3 w3 v s a3 h7 hb3 hr3 hg3 hm3
    simp only [wpL]
    refine ldF_wp (v := .int .i16 v) (by rw [a3 0 (by omega) (by omega) (by omega)]; exact s0) hb3 rfl (by omega) (by omega) fun σ4 a4 v4 => ?_
    simp only [thenC]
    refine mvF_wp fun σ5 a5 => ?_
    simp only [thenC]
    have a5' : ∀ j, j < T.t0 → j ≠ 6 → j ≠ 7 → j ≠ 8 → σ5 j = σ0 j := fun j hj h6 h7 h8 => by rw [a5 j (by omega), a4 j (by omega) h8, a3 j hj h6 h7]
    refine Top.rest_wp hT hb3 hr3 hbr hg3 hgb hgr hm3 hm1.size ?_ ?_ ?_ ?_
    · rw [a5' 0 (by omega) (by omega) (by omega) (by omega)]; exact s0
    · rw [a5' 2 (by omega) (by omega) (by omega) (by omega)]; exact s2
    · rw [a5 7 (by omega), a4 7 (by omega) (by omega)]; exact h7
    · rw [a5 8 (by omega)]; exact v4
  have eQ : ∀ v s, (T.dec D ver ⟨src, false, base.isNone⟩ = match T.sc.dec D v (T.x v) s with | none => none | some (l, s2) => some ((v, l), s2)) →
      (fun (e : Ending) (w' : World) => Mod [b0] w w' ∧ match T.dec D ver ⟨src, false, base.isNone⟩ with
        | none => e = .returned (.iface Te ve)
        | some ((v, gs), s) => e = .returned (errVal s.bad Te ve) ∧ ∃ css, RepL [b0] w' gs css ∧ css.flatten.length = T.sc.dcs.flatten.length ∧ Blk w' b0 (.int .i16 v :: css.flatten)) =
      (fun e w' => Mod [b0] w w' ∧ match T.sc.dec D v (T.x v) s with
        | none => e = .returned (.iface Te ve)
        | some (gs, s) => e = .returned (errVal s.bad Te ve) ∧ ∃ css, RepL [b0] w' gs css ∧ css.flatten.length = T.sc.dcs.flatten.length ∧ Blk w' b0 (.int .i16 v :: css.flatten)) := by
    intro v s h
    funext e w'
    rw [h]
    cases T.sc.dec D v (T.x v) s <;> rfl
  cases hrv : T.rv with
  | none =>
    rw [eQ ver ⟨src, false, base.isNone⟩ (by unfold Top.dec; rw [hrv]; rfl)]
    have hv0 : T.verF = [] := by unfold Top.verF; rw [hrv]
    rw [hv0]
    simp only [wpL, thenC]
    exact key σ2 w2 ver ⟨src, false, base.isNone⟩ a2' v2 hb12 hr2 hg2 (hm1.trans hm2.nil)
  | some f =>
    rw [eQ (IntKind.i16.wrap (rdN 2 ⟨src, false, base.isNone⟩).1) (rdN 2 ⟨src, false, base.isNone⟩).2 (by unfold Top.dec; rw [hrv]; rfl)]
    have hv0 : T.verF = [rdF 0 7 (T.t0 + 4) 0 f] := by unfold Top.verF; rw [hrv]
    rw [hv0]
    simp only [wpL]
    have ht1' : T.t0 + 8 = T.t1 := by unfold Top.t1; rw [hrv]; rfl
    refine rdF_wp (S := [b0]) (pre := []) (old := [.int .i16 ver]) (post := T.sc.dcs.flatten) (hT.rv f hrv).v (by rw [a2' 0 (by omega) (by omega) (by omega)]; exact s0) v2 (by omega) (by omega) hr2 (by simpa using hbr) (by simp)
      (fun y hy => by simp only [List.mem_singleton] at hy; subst hy; exact hb12.lt) (by simpa using hb12) rfl rfl (fun O v w h => by rw [h]; exact ⟨rfl, by simp [Value.cells, Value.oneCell']⟩) fun σ3 wm w3 v a3 hv hm3 hm4 hr3 hb3 => ?_
    subst hv
    simp only [thenC]
    exact key σ3 w3 _ _ (fun j hj h6 h7 => by rw [a3 j (by omega)]; exact a2' j hj h6 h7) (by rw [a3 7 (by omega)]; exact v2) (by simpa [Value.cells] using hb3) hr3 (cell_mod (cell_mod hg2 hm3 (by simpa using hgr)) hm4 (by simpa using hgb))
      (Mod.drop (b := w1.heap.size) (S := [b0]) (((hm1.trans hm2.nil).mono (by simp)).trans ((hm3.mono (by simp)).trans (hm4.mono (by simp)))) hm1.size)
end
end Go.Msk

namespace Go.Msk
open Go.RowKit
set_option maxRecDepth 100000
def TagS (S : List Nat) (n0 : Nat) (w : World) (rb tb b2 : Nat) (mv : Value) (m : List (Nat × List UInt8)) (s : RS) : Prop :=
  (mv = .map none ∧ m = [] ∧ IsRd (b2 :: tb :: S) w rb s) ∨
  ∃ r, mv = .map (some r) ∧ n0 ≤ r ∧ r ≠ tb ∧ r ≠ b2 ∧ r ≠ rb ∧ MapRep (fun b => b ∉ rb :: r :: b2 :: tb :: S) w r m ∧ IsRd (r :: b2 :: tb :: S) w rb s
theorem TagS.rd {S : List Nat} {n0 : Nat} {w : World} {rb tb b2 : Nat} {mv : Value} {m : List (Nat × List UInt8)} {s : RS} (h : TagS S n0 w rb tb b2 mv m s) : ∃ S', (∀ x ∈ b2 :: tb :: S, x ∈ S') ∧ (∀ x ∈ S', x ∈ b2 :: tb :: S ∨ (n0 ≤ x ∧ x ≠ rb)) ∧ IsRd S' w rb s ∧
    (∀ (w' : World) (s' : RS), IsRd S' w' rb s' → Mod [rb] w w' → TagS S n0 w' rb tb b2 mv m s') ∧ (mv = .map none ∧ m = [] ∧ S' = b2 :: tb :: S ∨ ∃ r, mv = .map (some r) ∧ n0 ≤ r ∧ r ≠ tb ∧ r ≠ b2 ∧ r ≠ rb ∧ S' = r :: b2 :: tb :: S ∧ MapRep (fun b => b ∉ rb :: S') w r m) := by
  rcases h with ⟨h1, h2, h3⟩ | ⟨r, h1, h2, h3, h4, h5, h6, h7⟩
  · exact ⟨b2 :: tb :: S, fun _ h => h, fun _ h => .inl h, h3, fun w' s' hr hm => .inl ⟨h1, h2, hr⟩, .inl ⟨h1, h2, rfl⟩⟩
  · refine ⟨r :: b2 :: tb :: S, fun x h => List.mem_cons_of_mem _ h, fun x hx => ?_, h7, fun w' s' hr hm => .inr ⟨r, h1, h2, h3, h4, h5, h6.mod hm (by simpa using h5) (by simp) (fun _ _ h => h), hr⟩, .inr ⟨r, h1, h2, h3, h4, h5, rfl, h6⟩⟩
    rcases List.mem_cons.1 hx with rfl | hx
    · exact .inr ⟨h2, h5⟩
    · exact .inl hx
theorem OctX.slcN {O : List Nat} {w : World} {v : Value} {o : Option (List UInt8)} (h : OctX O w v o) : SlC (fun b => b ∉ O) w v (o.getD []).length (u8s (o.getD [])) := by
  obtain ⟨h1, h2⟩ := h
  cases o with
  | none => simp only [IsOct] at h1; subst h1; exact SlC.nil
  | some l =>
    obtain ⟨a, n, c, rfl, hb⟩ := h1
    refine ⟨some a, c, by rw [hb.hlen]; rfl, by have := hb.hcap; have := hb.hlen; simp only [Option.getD_some]; omega, fun h => by simp at h, fun a' e _ => ?_⟩
    simp only [Option.some.injEq] at e; subst e
    exact ⟨(h2 a n c rfl).1, (h2 a n c rfl).2, hb.hcells a rfl⟩
section
variable {P : Program} {F : Nat → Nat}
theorem tag_step {S : List Nat} (hm : P.follows .mixedOrders = true) (huv : liftF P (F rUvarint) = some (ir_rUvarint F)) (hk : liftF P (F kUvarint) = some (ir_kUvarint F)) (hsp : liftF P (F rSpan) = some (ir_rSpan F)) (hset : liftF P (F tSet) = some (ir_tSet F))
    {rb tb b2 : Nat} {mv : Value} {m : List (Nat × List UInt8)} {s : RS} {σ : Sl} {w w0 : World} {Q : Exit → Sl → World → Prop} (h0 : σ 0 = .pointer (some ⟨rb, 0, none⟩)) (h3 : σ 3 = .pointer (some ⟨tb, 0, none⟩))
    (hb : Blk w tb [mv]) (hb2 : Blk w b2 [.map none]) (hS : TagS S w0.heap.size w rb tb b2 mv m s) (hrt : rb ≠ tb) (hr2 : rb ≠ b2) (h2t : b2 ≠ tb) (hrS : rb ∉ S) (_hSl : ∀ x ∈ S, x < w0.heap.size) (htb : w0.heap.size ≤ tb) (hmw : Mod [rb] w0 w)
    (hQ : ∀ σ' w' mv', (∀ j, j < 5 → σ' j = σ j) → Blk w' tb [mv'] → Blk w' b2 [.map none] → Mod [rb] w0 w' →
      TagS S w0.heap.size w' rb tb b2 mv' (putTag m (rdUv s).1 ((rdSpan (rdUv (rdUv s).2).1 (rdUv (rdUv s).2).2).1.getD [])) (rdSpan (rdUv (rdUv s).2).1 (rdUv (rdUv s).2).2).2 → Q .normal σ' w') :
    wpC P (.seq (.blk [⟨some 13, .mv (.tmp 0), none⟩, ⟨some 14, .call (F rUvarint) [.tmp 13], none⟩, ⟨some 15, .mv (.tmp 0), none⟩, ⟨some 16, .call (F rUvarint) [.tmp 15], none⟩, ⟨some 5, .mv (.tmp 14), none⟩, ⟨some 6, .mv (.tmp 16), none⟩])
      (.blk [⟨some 17, .mv (.tmp 5), none⟩, ⟨some 18, .mv (.tmp 0), none⟩, ⟨some 19, .mv (.tmp 6), none⟩, ⟨some 20, .conv .i64 (.tmp 19), none⟩, ⟨some 21, .call (F rSpan) [.tmp 18, .tmp 20], none⟩, ⟨some 22, .call (F tSet) [.tmp 3, .tmp 17, .tmp 21], none⟩])) Q σ w := by
  obtain ⟨S', e1, e2, hr, hkeep, hcase⟩ := hS.rd
  have hrS' : rb ∉ S' := fun hx => by
    rcases e2 _ hx with hx | ⟨-, hx⟩
    · simp only [List.mem_cons] at hx
      rcases hx with hx | hx | hx
      · exact hr2 hx
      · exact hrt hx
      · exact hrS hx
    · exact hx rfl
  rw [wpC_seq, wpC_blk]
  refine wpR_step (v := .pointer (some ⟨rb, 0, none⟩)) (congrArg some h0) ?_
  refine wpR_call (vs := [.pointer (some ⟨rb, 0, none⟩)]) (by simp only [List.map_cons, List.map_nil, ev, updo, upd, if_true]) (rUvarint_call hm huv hk S' w rb s hr hrS') ?_
  rintro e w1 ⟨rfl, hr1, m1⟩
  refine ⟨_, rfl, ?_⟩
  refine wpR_step (v := .pointer (some ⟨rb, 0, none⟩)) (by simp only [RK.val?, ev, updo, upd]; simp [h0]) ?_
  refine wpR_call (vs := [.pointer (some ⟨rb, 0, none⟩)]) (by simp only [List.map_cons, List.map_nil, ev, updo, upd, if_true]) (rUvarint_call hm huv hk S' w1 rb _ hr1 hrS') ?_
  rintro e w2 ⟨rfl, hr2', m2⟩
  refine ⟨_, rfl, ?_⟩
  simp only at hr1 hr2' ⊢
  have hk1 := rdUv_lt s
  have hk2 := rdUv_lt (rdUv s).2
  generalize rdUv s = q1 at *
  obtain ⟨k, s1⟩ := q1
  simp only at *
  generalize rdUv s1 = q2 at *
  obtain ⟨z, s2⟩ := q2
  simp only at *
  refine wpR_step (v := .int .u32 k) (by simp only [RK.val?, ev, updo, upd]; simp) ?_
  refine wpR_step (v := .int .u32 z) (by simp only [RK.val?, ev, updo, upd]; simp) ?_
  refine wpR_done ?_
  generalize hσ : updo _ (some 6) _ = σ1
  have q0 : σ1 0 = .pointer (some ⟨rb, 0, none⟩) := by rw [← hσ]; simp [updo, upd, h0]
  have q3 : σ1 3 = .pointer (some ⟨tb, 0, none⟩) := by rw [← hσ]; simp [updo, upd, h3]
  have q5 : σ1 5 = .int .u32 k := by rw [← hσ]; simp [updo, upd]
  have q6 : σ1 6 = .int .u32 z := by rw [← hσ]; simp [updo, upd]
  have qa : ∀ j, j < 5 → σ1 j = σ j := fun j hj => by
    rw [← hσ]; simp only [updo, upd, show j ≠ 6 by omega, show j ≠ 5 by omega, show j ≠ 16 by omega, show j ≠ 15 by omega, show j ≠ 14 by omega, show j ≠ 13 by omega, if_false]
  clear hσ
  rw [wpC_blk]
  refine wpR_step (v := .int .u32 k) (congrArg some q5) ?_
  refine wpR_step (v := .pointer (some ⟨rb, 0, none⟩)) (by simp only [RK.val?, ev, updo, upd]; simp [q0]) ?_
  refine wpR_step (v := .int .u32 z) (by simp only [RK.val?, ev, updo, upd]; simp [q6]) ?_
  refine wpR_step (v := .int .i64 z) (by simp only [RK.val?, ev, updo, upd, if_true, i64_small (n := z) (by omega) (by omega)]) ?_
  refine wpR_call (vs := [.pointer (some ⟨rb, 0, none⟩), .int .i64 z]) (by simp only [List.map_cons, List.map_nil, ev, updo, upd]; simp) (rSpan_call hm hsp hr2' z) ?_
  rintro e w3 ⟨v, rfl, ho, hr3, m3⟩
  refine ⟨_, rfl, ?_⟩
  have m03 : Mod [rb] w w3 := (m1.trans m2).trans m3
  have hT3 := hkeep w3 _ hr3 m03
  have hb3 := hb.mod m03 (by simpa using hrt.symm)
  have hb23 := hb2.mod m03 (by simpa using hr2.symm)
  have hv := ho.slcN
  have ntb : tb ∈ S' := e1 _ (by simp)
  have nb2 : b2 ∈ S' := e1 _ (by simp)
  have hTM : TagM (fun b => b ∉ rb :: S') w3 mv m := by
    rcases hcase with ⟨c1, c2, -⟩ | ⟨r, c1, c2, c3, c4, c5, c6, c7⟩
    · exact .inl ⟨c1, c2⟩
    · exact .inr ⟨r, c1, c7.mod m03 (by simpa using c5) (by simp) fun _ _ h => h⟩
  refine wpR_call (vs := [.pointer (some ⟨tb, 0, none⟩), .int .u32 k, v]) (by simp only [List.map_cons, List.map_nil, ev, updo, upd]; simp [q3]) (tSet_call hm hset hb3 hTM hk1 hv (fun h => h (List.mem_cons_of_mem _ ntb)) (fun r hr => by
    rcases hcase with ⟨c1, -, -⟩ | ⟨r', c1, c2, c3, c4, c5, c6, c7⟩
    · rw [c1] at hr; simp at hr
    · rw [c1] at hr
      simp only [Value.map.injEq, Option.some.injEq] at hr; subst hr
      exact ⟨fun h => h (by rw [c6]; simp), c3⟩)) ?_
  rintro e w4 ⟨rfl, r, hb4, hM4, hrtb, hmod4⟩
  refine ⟨_, rfl, ?_⟩
  have hwl : w0.heap.size ≤ w3.heap.size := (hmw.trans m03).size
  have hb2l := hb23.lt
  have hb3l := hb3.lt
  have hrl := hr3.lt
  have hsub : ∀ {x}, x ∈ S → x ∈ S' := fun hx => e1 _ (by simp [hx])
  simp only [wpR]
  rcases hmod4 with ⟨c0, mm⟩ | ⟨c0, c1, mm⟩
  · -- the map was there
    rcases hcase with ⟨k1, -, -⟩ | ⟨r', k1, k2, k3, k4, k5, k6, k7⟩
    · rw [k1] at c0; simp at c0
    · rw [k1] at c0
      simp only [Value.map.injEq, Option.some.injEq] at c0; subst c0
      refine hQ _ w4 _ (fun j hj => ?_) hb4 (hb23.mod mm (by simp [h2t, k4.symm])) ?_ (.inr ⟨r', rfl, k2, k3, k4, k5, ?_, ?_⟩)
      · rw [← qa j hj]
        simp only [updo, upd, show j ≠ 22 by omega, show j ≠ 21 by omega, show j ≠ 20 by omega, show j ≠ 19 by omega, show j ≠ 18 by omega, show j ≠ 17 by omega, if_false]
      · refine Mod.drop (b := tb) (S := [rb]) ?_ htb
        refine Mod.drop (b := r') (S := [tb, rb]) ?_ k2
        exact ((hmw.trans m03).mono (by simp)).trans (mm.mono (by simp))
      · rw [← k6]
        exact hM4.mod (Mod.refl [] _) (by simp) (by simp) fun b _ hb => hb.1
      · rw [← k6]
        refine hr3.mod mm (by simp [hrt, k5.symm]) fun x hx => ?_
        simp only [List.mem_cons, List.not_mem_nil, or_false] at hx
        rcases hx with rfl | rfl
        · exact ntb
        · rw [k6]; simp
  · rcases hcase with ⟨k1, k2, k3⟩ | ⟨r', k1, -⟩
    · subst k3
      have hrr : r ≠ rb := by omega
      have hr2b : r ≠ b2 := by omega
      refine hQ _ w4 _ (fun j hj => ?_) hb4 (hb23.mod mm (by simpa using h2t)) ?_ (.inr ⟨r, rfl, by omega, hrtb, hr2b, hrr, ?_, ?_⟩)
      · rw [← qa j hj]
        simp only [updo, upd, show j ≠ 22 by omega, show j ≠ 21 by omega, show j ≠ 20 by omega, show j ≠ 19 by omega, show j ≠ 18 by omega, show j ≠ 17 by omega, if_false]
      · refine Mod.drop (b := tb) (S := [rb]) ?_ htb
        exact ((hmw.trans m03).mono (by simp)).trans (mm.mono (by simp))
      · refine hM4.mod (Mod.refl [] _) (by simp) (by simp) fun b _ hb => ?_
        simp only [List.mem_cons, not_or] at hb ⊢
        obtain ⟨⟨q1, q2, q3, q4⟩, q5⟩ := hb
        exact ⟨q1, by omega, q2, q3, q4⟩
      · have h5 : IsRd (b2 :: tb :: S) w4 rb _ := hr3.mod mm (by simpa using hrt) (by simp)
        obtain ⟨base, len, cap, p1, p2, p3, p4⟩ := h5.ex
        obtain ⟨base', len', cap', p1', p2', p3', p4'⟩ := hr3.ex
        refine ⟨⟨base, len, cap, p1, p2, p3, fun a ha => ⟨(p4 a ha).1, ?_, (p4 a ha).2.2⟩⟩, h5.short⟩
        -- the source's block is an old one
        have hsame : base' = base := by
          have x1 := p1.cell 0
          have x2 := (p1'.mod mm (by simpa using hrt)).cell 0
          rw [x1] at x2
          have x3 : base' = base ∧ len' = len ∧ cap' = cap := by simpa using x2.symm
          exact x3.1
        subst hsame
        have := (p4' a ha).2.2
        simp only [List.mem_cons, not_or]
        have q := (p4 a ha).2.1
        simp only [List.mem_cons, not_or] at q
        exact ⟨by omega, q.1, q.2.1, q.2.2⟩
    · rw [k1] at c0; simp at c0
theorem tRead_call (hm : P.follows .mixedOrders = true) (h : liftF P (F tRead) = some (ir_tRead F)) (huv : liftF P (F rUvarint) = some (ir_rUvarint F)) (hk : liftF P (F kUvarint) = some (ir_kUvarint F)) (hsp : liftF P (F rSpan) = some (ir_rSpan F)) (hset : liftF P (F tSet) = some (ir_tSet F)) :
    RdG P (F tRead) 1 fun s => (.tag (rdTags s).1, (rdTags s).2) := by
  intro S w rb s hr hrb hSl
  unfold ir_tRead at h
  refine call_of h hm (by simp) ?_
  have a0 : args0 [.pointer (some ⟨rb, 0, none⟩)] 0 = .pointer (some ⟨rb, 0, none⟩) := rfl
  generalize args0 [.pointer (some ⟨rb, 0, none⟩)] = σ0 at a0 ⊢
  have hrl := hr.lt
  rw [wpC_seq, wpC_blk]
  refine wpR_run ?_
  intro T2
  have b2 := Blk.new w [.map none] T2
  have m1 : Mod [] w (w.alloc (.cells [Value.map none].toArray T2)) := Mod.alloc _ _ _
  have z1 : (w.alloc (.cells [Value.map none].toArray T2)).heap.size = w.heap.size + 1 := by simp
  generalize w.alloc (.cells [Value.map none].toArray T2) = w1 at b2 m1 z1 ⊢
  refine wpR_done ?_
  rw [wpC_seq, wpC_blk]
  refine wpR_run ?_
  intro T3
  have b3 := Blk.new w1 [.map none] T3
  have m2 : Mod [] w1 (w1.alloc (.cells [Value.map none].toArray T3)) := Mod.alloc _ _ _
  have z2 : (w1.alloc (.cells [Value.map none].toArray T3)).heap.size = w1.heap.size + 1 := by simp
  generalize w1.alloc (.cells [Value.map none].toArray T3) = w2 at b3 m2 z2 ⊢
  refine wpR_done ?_
  have hrd2 : IsRd (w.heap.size :: w1.heap.size :: S) w2 rb s := hr.freshL (m1.trans m2) fun x hx => by
    simp only [List.mem_cons] at hx
    rcases hx with rfl | rfl | hx
    · exact .inr (Nat.le_refl _)
    · exact .inr (by omega)
    · exact .inl hx
  have n1 : rb ≠ w.heap.size := by omega
  have n2 : rb ≠ w1.heap.size := by omega
  rw [wpC_seq, wpC_seq, wpC_blk]
  refine wpR_step (v := .pointer (some ⟨rb, 0, none⟩)) (by simp only [RK.val?, ev, updo, upd]; simp [a0]) ?_
  refine wpR_call (vs := [.pointer (some ⟨rb, 0, none⟩)]) (by simp only [List.map_cons, List.map_nil, ev, updo, upd, if_true]) (rUvarint_call hm huv hk _ w2 rb s hrd2 (by simp [n1, n2, hrb])) ?_
  rintro e w3 ⟨rfl, hr3, m3⟩
  refine ⟨_, rfl, ?_⟩
  simp only at hr3 ⊢
  refine wpR_step (v := .int .u32 (rdUv s).1) (by simp only [RK.val?, ev, updo, upd, if_true]) ?_
  refine wpR_done ?_
  generalize hσ : updo _ (some 4) _ = σ1
  have q0 : σ1 0 = .pointer (some ⟨rb, 0, none⟩) := by rw [← hσ]; simp [updo, upd, a0]
  have q2 : σ1 2 = .pointer (some ⟨w.heap.size, 0, none⟩) := by rw [← hσ]; simp [updo, upd]
  have q3 : σ1 3 = .pointer (some ⟨w1.heap.size, 0, none⟩) := by rw [← hσ]; simp [updo, upd]
  have q4 : σ1 4 = .int .u32 (rdUv s).1 := by rw [← hσ]; simp [updo, upd]
  clear hσ
  have hk1 := rdUv_lt s
  have hres : rdTagsN (rdUv s).1 [] (rdUv s).2 = rdTags s := rfl
  rw [wpC_block, wpC_loop]
  -- behind the loop
  have hfin : ∀ (σ' : Sl) (w' : World) (mv : Value), σ' 2 = .pointer (some ⟨w.heap.size, 0, none⟩) → σ' 3 = .pointer (some ⟨w1.heap.size, 0, none⟩) → Blk w' w1.heap.size [mv] → Blk w' w.heap.size [.map none] → Mod [rb] w w' →
      TagS S w.heap.size w' rb w1.heap.size w.heap.size mv (rdTags s).1 (rdTags s).2 →
      wpC P (.seq (.blk [⟨some 23, .ldn (.tmp 3) 1, none⟩, ⟨none, .st (.tmp 2) 1 (.tmp 23), none⟩]) .ret) (postC [.cells 2 1] fun e w' => ∃ v, e = .returned v ∧ (v.cells.size = 1 ∧ Rep (rb :: S) w' (.tag (rdTags s).1) v.cells.toList) ∧ IsRd S w' rb (rdTags s).2 ∧ Mod [rb] w w') σ' w' := by
    intro σ' w' mv s2 s3 hb3 hb2 hm' hT
    have h1c : mv.oneCell' = true := by
      rcases hT with ⟨rfl, -⟩ | ⟨r, rfl, -⟩ <;> rfl
    rw [wpC_seq, wpC_blk]
    refine wpR_step (v := .agg #[mv]) (by simp only [RK.val?, ev, s3, cellsAt_of' hb3.cells (n := 1) rfl, Option.map_some]) ?_
    refine wpR_run ?_
    have ec : (Value.agg #[mv]).cells = #[mv] := rfl
    have hput : Mod [w.heap.size] w' (putCells w' ⟨w.heap.size, 0, none⟩ 0 [mv]) := Mod.put (by simp)
    have hp := hb2.put (o := 0) (vs := [mv]) (by simp)
    rw [splice_all (by rfl)] at hp
    simp only [RK.run, ev, updo, upd, if_true, show (2 : Nat) ≠ 23 by decide, if_false, s2, ec]
    refine ⟨rfl, stOk_one hb2 (by simp) h1c, ?_⟩
    refine wpR_done ?_
    simp only [wpC, postC, rvals, List.mapM_cons, List.mapM_nil, RV.val, upd, show (2 : Nat) ≠ 23 by decide, if_false, s2]
    rw [cellsAt_of' hp.cells (n := 1) rfl]
    simp only [Option.bind_eq_bind, Option.map_some, Option.bind_some, Option.pure_def, tup_one]
    have hmf : Mod [rb] w (putCells w' ⟨w.heap.size, 0, none⟩ 0 [mv]) := Mod.drop (b := w.heap.size) (S := [rb]) ((hm'.mono (by simp)).trans (hput.mono (by simp))) (Nat.le_refl _)
    refine ⟨_, rfl, ⟨rfl, ?_⟩, ?_, hmf⟩
    · show Rep (rb :: S) _ _ [mv]
      rcases hT with ⟨rfl, e2, -⟩ | ⟨r, rfl, k1, k2, k3, k4, k5, k6⟩
      · rw [e2]; exact .tag0
      · refine .tag1 (fun hx => ?_) ((k5.mod hput (by simpa using k3) (by simp) fun _ _ h => h).mod (Mod.refl [] _) (by simp) (by simp) fun b _ hb hx => hb (by
          rcases List.mem_cons.1 hx with rfl | hx
          · simp
          · simp [hx]))
        rcases List.mem_cons.1 hx with rfl | hx
        · exact k4 rfl
        · have := hSl _ hx; omega
    · rcases hT with ⟨-, -, k6⟩ | ⟨r, -, -, -, -, -, -, k6⟩
      · exact (k6.mod hput (by simpa using n1) (by simp)).weakL fun x hx => by simp [hx]
      · exact (k6.mod hput (by simpa using n1) (by simp)).weakL fun x hx => by simp [hx]
  refine ⟨fun σ' w' => ∃ n m s' mv, σ' 0 = .pointer (some ⟨rb, 0, none⟩) ∧ σ' 2 = .pointer (some ⟨w.heap.size, 0, none⟩) ∧ σ' 3 = .pointer (some ⟨w1.heap.size, 0, none⟩) ∧ σ' 4 = .int .u32 (n : Nat) ∧ n < 4294967296 ∧ Blk w' w1.heap.size [mv] ∧ Blk w' w.heap.size [.map none] ∧
      Mod [rb] w w' ∧ TagS S w.heap.size w' rb w1.heap.size w.heap.size mv m s' ∧ rdTagsN n m s' = rdTags s,
    fun σ' _ => match σ' 4 with | .int _ n => n.toNat | _ => 0, ⟨(rdUv s).1, [], (rdUv s).2, .map none, q0, q2, q3, q4, hk1, b3.mod m3 (by simpa using n2.symm), (b2.mod m2 (by simp)).mod m3 (by simpa using n1.symm), ((m1.trans m2).nil).trans m3, .inl ⟨rfl, rfl, hr3⟩, hres⟩, ?_⟩
  rintro σ w' ⟨n, m, s', mv, s0, s2, s3, s4, hn, hb, hb2, hmw, hT, hN⟩
  rw [wpC_seq, wpC_seq, wpC_blk]
  refine wpR_step (v := .int .u32 n) (congrArg some s4) ?_
  refine wpR_step (v := .bool (decide (0 < n))) (by
    simp only [RK.val?, ev, updo, upd, if_true, isShift, decide_true, Bool.or_true, intBin]
    congr 2; exact decide_eq_decide.2 (by omega)) ?_
  refine wpR_done ?_
  by_cases h0 : 0 < n
  · rw [wpC_cond_t (by simp only [ev, updo, upd, if_true, h0, decide_true]), wpC_skip]
    simp only [thenC]
    rw [wpC_seq, wpC_block]
    obtain ⟨n', rfl⟩ : ∃ n', n = n' + 1 := ⟨n - 1, by omega⟩
    refine tag_step (w0 := w) hm huv hk hsp hset (by simp [updo, upd, s0]) (by simp [updo, upd, s3]) hb hb2 hT n2 n1 (by omega) hrb hSl (by omega) hmw fun σ2 w4 mv' a2 hb4 hb24 hmw4 hT4 => ?_
    simp only [inBlockC, thenC]
    rw [wpC_blk]
    have t4 : σ2 4 = .int .u32 ((n' + 1 : Nat) : Int) := by rw [a2 4 (by omega)]; simp [updo, upd, s4]
    refine wpR_step (v := .int .u32 ((n' + 1 : Nat) : Int)) (congrArg some t4) ?_
    refine wpR_step (v := .int .u32 (n' : Nat)) (by
      simp only [RK.val?, ev, updo, upd, if_true, isShift, decide_true, Bool.or_true, intBin]
      have e1 : ((n' + 1 : Nat) : Int) - 1 = (n' : Nat) := by omega
      rw [e1, u32_nat (by omega)]) ?_
    refine wpR_step (v := .int .u32 (n' : Nat)) (by simp only [RK.val?, ev, updo, upd, if_true]) ?_
    simp only [wpR]
    refine ⟨⟨n', _, _, mv', ?_, ?_, ?_, rfl, by omega, hb4, hb24, hmw4, hT4, hN⟩, ?_⟩
    · simp only [updo, upd]; simp [a2 0 (by omega), s0, updo, upd]
    · simp only [updo, upd]; simp [a2 2 (by omega), s2, updo, upd]
    · simp only [updo, upd]; simp [a2 3 (by omega), s3, updo, upd]
    · simp only [updo, upd, if_true, s4]; omega
  · rw [wpC_cond_f (by simp only [ev, updo, upd, if_true, h0, decide_false])]
    have : n = 0 := by omega
    subst this
    simp only [rdTagsN] at hN
    rw [← hN] at hfin
    have hf := hfin (updo (updo σ (some 9) (.int .u32 ((0 : Nat) : Int))) (some 10) (.bool (decide (0 < 0)))) w' mv (by simp [updo, upd, s2]) (by simp [updo, upd, s3]) hb hb2 hmw hT
    rw [hN] at hf
    exact wpC_exit_out hf
end
end Go.Msk
