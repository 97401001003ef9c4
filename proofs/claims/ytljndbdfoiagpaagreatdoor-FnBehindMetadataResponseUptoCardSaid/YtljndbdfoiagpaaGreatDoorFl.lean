/- A small language of resolved operations, and what the generic and the generated functions do in it (part 12). -/
import Derived.Test.YtljndbdfoiagpaaGreatDoorFk

namespace Go.Msk
open Go.RowKit
set_option maxRecDepth 100000
section
variable {P : Program}
attribute [local simp] gOk updo upd ev RK.val? isShift intBin Addr.add_mk args0 Value.cells undef
variable {hf x : Bool} {ver : Int} {w0 : World} {NV : Nat}
theorem len_if {b : Bool} {l e r : List UInt8} (hl : l.length + ((if b = true then e else []) ++ r).length ≤ lim) (hb : b = true) : l.length + e.length ≤ lim := by
  rw [hb, if_pos rfl, List.length_append] at hl; omega
theorem Ap.sound (_hm : P.follows .mixedOrders = true) : ∀ ap : Ap, ap.Ok P hf x → ap.SoundAt P hf x ver w0 NV := by
  intro ap
  induction ap with
  | nil =>
    intro _ gs css sp off nv nt nb B o l σ w Q _ _ _ _ _ _ _ _ _ hA _ hQ
    refine hQ σ w ?_ (Kp.refl _)
    simpa [Ap.enc] using hA
  | prm vc cp p a rest ih =>
    rintro ⟨hx, hf1, hrest⟩ gs css sp off nv nt nb B o l σ w Q ⟨g, r, rfl, hw, hfit, hfr⟩ hrep hc hs h1 h2 h3 h4 h5 hA hl hQ
    cases hrep with
    | @cons _ _ cs css hg hr =>
    obtain ⟨v, rfl⟩ := one_cell hg hw
    obtain ⟨h6, h6'⟩ := bse6 h3
    simp only [Ap.nv] at h4
    simp only [Ap.enc] at hl hQ
    rw [List.flatten_cons] at hc
    have hnv : nv + 1 ≤ NV := by split at h4 <;> omega
    refine cons_wp (ih hrest) hfr hr hc rfl hs h1 h2 h3 (by omega) h5 hl (fun Q1 hQ1 => ?_) hQ
    refine fld_wp hA (by omega) h3 (by omega) (fun hv σ1 a1 ha1 Q2 hQ2 => ?_) hQ1
    obtain ⟨hfp, hpu⟩ := hfit hv
    have hl1 := len_if hl hv
    have hcell : w.cell? ⟨B, o + off, none⟩ = some v := cell_mod (by have := hc.app.1.head; exact this) ha1.m (by simp)
    rw [wpC_seqs]
    simp only [wpL]
    refine ldA_wp ((a1 sp (by omega)).trans hs) hcell (by omega) (by omega) fun σ2 a2 v2 => ?_
    simp only [thenC]
    have d2 : DRaw w w0.heap.size (σ2 1) l := by rw [a2 1 (by omega) (by omega)]; exact ha1.d
    cases cp with
    | false =>
      simp only [Bool.false_eq_true, if_false]
      refine AC.gen_wp (x := x) (n0 := w0.heap.size) (w0 := w0) (l' := l ++ encP p x g) (by omega) (by omega) (fun e => ?_) ?_ fun σ3 w3 a3 hd3 hm3 => hQ2 σ3 w3 hd3 hm3 fun j hj1 hj => ?_
      · have := h6' (hx e); rw [a2 6 (by omega) (by omega)]; exact ha1.x (hx e)
      · exact hf1 w0 w (σ2 1) (σ2 nv) l g hfp (by rw [v2]; exact hg) ha1.m d2 hl1
      · rw [a3 j hj1 (by omega), a2 j (by omega) (by omega)]
    | true =>
      simp only [if_true] at h4 ⊢
      simp only [wpL]
      refine cpF_wp (by omega) fun σ3 a3 v3 => ?_
      simp only [thenC]
      refine AC.gen_wp (x := x) (n0 := w0.heap.size) (w0 := w0) (l' := l ++ encP p x g) (by omega) (by omega) (fun e => ?_) ?_ fun σ4 w4 a4 hd4 hm4 => hQ2 σ4 w4 hd4 hm4 fun j hj1 hj => ?_
      · have := h6' (hx e); rw [a3 6 (by omega) (by omega), a2 6 (by omega) (by omega)]; exact ha1.x (hx e)
      · exact hf1 w0 w (σ3 1) (σ3 (nv + 1)) l g hfp (by rw [v3, v2]; exact hg) ha1.m (by rw [a3 1 (by omega) (by omega)]; exact d2) hl1
      · rw [a4 j hj1 (by omega), a3 j (by omega) (by omega), a2 j (by omega) (by omega)]
  | uid vc f rest ih =>
    rintro ⟨hf1, hrest⟩ gs css sp off nv nt nb B o l σ w Q ⟨g, r, rfl, hw, hfit, hfr⟩ hrep hc hs h1 h2 h3 h4 h5 hA hl hQ
    cases hrep with
    | @cons _ _ cs css hg hr =>
    obtain ⟨h6, h6'⟩ := bse6 h3
    simp only [Ap.nv] at h4
    simp only [Ap.enc] at hl hQ
    rw [List.flatten_cons] at hc
    have hcl : cs.length = 16 := hg.wid.trans hw
    refine cons_wp (ih hrest) hfr hr hc hcl hs h1 h2 h3 (by omega) h5 hl (fun Q1 hQ1 => ?_) hQ
    refine fld_wp hA (by omega) h3 (by omega) (fun hv σ1 a1 ha1 Q2 hQ2 => ?_) hQ1
    obtain ⟨u, rfl, hu⟩ := hfit hv
    have hl1 := len_if hl hv
    cases hg with
    | arr =>
    have hcw := cellsAt_of' (hc.app.1.mod ha1.m (.inr (by simp))) (show (u8s u).length = 16 by rw [u8s_length]; exact hu)
    generalize ht : nt + vc.nt = t
    have s1 : σ1 sp = .pointer (some ⟨B, o, none⟩) := (a1 sp (by omega)).trans hs
    rw [wpC_seq, wpC_blk]
    refine go1 (v := .pointer (some ⟨B, o, none⟩)) rfl (by simp [s1]) ?_
    refine go1 (v := .pointer (some ⟨B, o, none⟩)) rfl (by simp) ?_
    refine go1 (v := .pointer (some ⟨B, o + off, none⟩)) rfl (by simp) ?_
    refine go1 (v := .agg (u8s u).toArray) rfl (by simp [hcw]) ?_
    refine goAlloc fun w1 hb1 hm1 => ?_
    refine goSt (b := w.heap.size) (v := .agg (u8s u).toArray) (by simp) (by simp [show t + 3 ≠ nv by omega]) hb1 (by simp [u8s_length, hu]) (by simp [z16]) (by simp [u8s, Value.oneCell']) fun w2 hb2 hm2 => goEnd ?_
    simp only [thenC]
    have hb2' : Blk w2 w.heap.size (u8s u) := by simpa using hb2
    have hm02 : Mod [] w w2 := Mod.drop (b := w.heap.size) (S := []) (hm1.nil.trans hm2) (Nat.le_refl _)
    have hcw2 := cellsAt_of' hb2'.cells (show (u8s u).length = 16 by rw [u8s_length]; exact hu)
    have n1 : nv ≠ t := by omega
    have n2 : nv ≠ t + 4 := by omega
    have n3 : ¬ nv = 1 := by omega
    rw [wpC_blk]
    refine go1 (v := σ1 1) rfl (by simp [show t ≠ 0 by omega, show 1 ≠ nv by omega, show 1 ≠ t by omega]) ?_
    refine go1 (v := .agg (u8s u).toArray) rfl (by simp [n2, hcw2]) ?_
    refine goCall rfl (vs := [σ1 1, .agg (u8s u).toArray]) (by simp) (hf1 u hu w0 w2 (σ1 1) _ l (ha1.m.trans hm02) (ha1.d.keep' hm02) (by simpa [encP] using hl1) rfl) ?_
    rintro e w3 ⟨dv', rfl, hd3, hm3⟩
    refine ⟨dv', rfl, go1 (v := dv') rfl (by simp) (goEnd (hQ2 _ w3 (by simpa [encP] using hd3) hm3 fun j hj1 hj => ?_))⟩
    simp only [updo, upd, hj1, show j ≠ nv by omega, show j ≠ t by omega, show j ≠ t + 1 by omega, show j ≠ t + 2 by omega, show j ≠ t + 3 by omega, show j ≠ t + 4 by omega, show j ≠ t + 5 by omega, show j ≠ t + 6 by omega, if_false]
  | vst vc V a1 a2 rest ih =>
    rintro ⟨hx1, hx2, hf1, hf2, hrest⟩ gs css sp off nv nt nb B o l σ w Q ⟨g, r, rfl, hw, hfit, hfr⟩ hrep hc hs h1 h2 h3 h4 h5 hA hl hQ
    cases hrep with
    | @cons _ _ cs css hg hr =>
    obtain ⟨v, rfl⟩ := one_cell hg hw
    obtain ⟨h6, h6'⟩ := bse6 h3
    simp only [Ap.nv] at h4
    simp only [Ap.enc] at hl hQ
    rw [List.flatten_cons] at hc
    refine cons_wp (ih hrest) hfr hr hc rfl hs h1 h2 h3 (by omega) h5 hl (fun Q1 hQ1 => ?_) hQ
    refine fld_wp hA (by omega) h3 (by omega) (fun hv σ1 a1' ha1 Q2 hQ2 => ?_) hQ1
    have hfp := hfit hv
    have hl1 := len_if hl hv
    have hcell : w.cell? ⟨B, o + off, none⟩ = some v := cell_mod (by have := hc.app.1.head; exact this) ha1.m (by simp)
    generalize ht : nt + vc.nt = t
    unfold vstA
    rw [wpC_seqs]
    simp only [wpL]
    refine ldA_wp ((a1' sp (by omega)).trans hs) hcell (by omega) (by omega) fun σ2 a2' v2 => ?_
    simp only [thenC]
    have d2 : DRaw w w0.heap.size (σ2 1) l := by rw [a2' 1 (by omega) (by omega)]; exact ha1.d
    have e5 : σ2 5 = .int .i16 ver := by rw [a2' 5 (by omega) (by omega)]; exact ha1.v
    rw [wpC_blk]
    refine go1 (v := .int .i16 ver) rfl (by simp [e5]) ?_
    refine go1 (v := .bool (decide (ver < V))) rfl (by simp) (goEnd ?_)
    simp only [thenC]
    generalize hσ : updo _ (some (t + 5)) _ = σ3
    have a3' : ∀ j, j < t + 4 → σ3 j = σ2 j := fun j hj => by rw [← hσ]; simp only [updo, upd, show j ≠ t + 4 by omega, show j ≠ t + 5 by omega, if_false]
    have c3 : σ3 (t + 5) = .bool (decide (ver < V)) := by rw [← hσ]; simp only [updo, upd_same]
    clear hσ
    by_cases hlt : ver < V
    · rw [decide_eq_true hlt] at c3
      simp only [encV, if_pos hlt] at hl1 hQ2
      rw [wpC_cond_t (by simp only [ev, c3]), wpC_seqs]
      simp only [wpL]
      obtain ⟨og, rfl, hog⟩ := hfp
      simp only at hl1 hQ2
      rw [wpC_blk]
      refine go1 (v := .string .empty) rfl rfl (goEnd ?_)
      simp only [thenC]
      have key : ∀ (σ4 : Sl), (∀ j, j < t → j ≠ nv + 1 → σ4 j = σ2 j) → σ4 (nv + 1) = Msk.str (og.getD []) →
          wpL P (.blk [⟨some (t + 11), .mv (.tmp (nv + 1)), none⟩, ⟨some (nv + 2), .mv (.tmp (t + 11)), none⟩] :: a1.gen (t + 12) (nv + 2)) Q2 σ4 w := by
        intro σ4 a4 v4
        simp only [wpL]
        rw [wpC_blk]
        refine go1 (v := Msk.str (og.getD [])) rfl (by simp [v4]) ?_
        refine go1 (v := Msk.str (og.getD [])) rfl (by simp) (goEnd ?_)
        simp only [thenC]
        refine AC.gen_wp (x := x) (n0 := w0.heap.size) (w0 := w0) (l' := l ++ encP .str x (.num (Msk.str (og.getD [])))) (by omega) (by omega) (fun e => ?_) ?_ fun σ6 w6 a6 hd6 hm6 => hQ2 σ6 w6 hd6 hm6 fun j hj1 hj => ?_
        · have := h6' (hx1 e)
          simp only [updo, upd, show (6 : Nat) ≠ nv + 2 by omega, show (6 : Nat) ≠ t + 11 by omega, if_false]
          rw [a4 6 (by omega) (by omega), a2' 6 (by omega) (by omega)]; exact ha1.x (hx1 e)
        · refine hf1 w0 w _ _ l (.num (Msk.str (og.getD []))) ⟨_, rfl, ?_⟩ (by simp only [updo, upd_same]; exact .num rfl) ha1.m ?_ hl1
          · cases og with
            | none => simp
            | some s => exact hog s rfl
          · simp only [updo, upd, show (1 : Nat) ≠ nv + 2 by omega, show (1 : Nat) ≠ t + 11 by omega, if_false]
            rw [a4 1 (by omega) (by omega)]; exact d2
        · rw [a6 j hj1 (by omega)]
          simp only [updo, upd, show j ≠ nv + 2 by omega, show j ≠ t + 11 by omega, if_false]
          rw [a4 j (by omega) (by omega), a2' j (by omega) (by omega)]
      rw [wpC_seq, wpC_blk]
      have b3 : ∀ j, j < t → j ≠ nv + 1 → (updo σ3 (some (nv + 1)) (.string .empty)) j = σ2 j := fun j hj hne => by simp only [updo, upd, hne, if_false]; exact a3' j (by omega)
      have v3 : (updo σ3 (some (nv + 1)) (.string .empty)) nv = v := by rw [b3 nv (by omega) (by omega)]; exact v2
      have n3 : (updo σ3 (some (nv + 1)) (.string .empty)) (nv + 1) = .string .empty := by simp only [updo, upd_same]
      generalize updo σ3 (some (nv + 1)) (.string .empty) = σ4 at b3 v3 n3
      refine go1 (v := v) rfl (by simp [v3]) ?_
      cases hg with
      | nstr0 =>
        refine go1 (v := .bool false) rfl (by simp) (goEnd ?_)
        simp only [thenC]
        rw [wpC_cond_f (by simp), wpC_skip]
        simp only [thenC]
        simp only [show thenC (fun a b => Q2 .normal a b) Q2 = Q2 from thenC_same Q2]
        refine key _ (fun j hj hne => ?_) ?_
        · simp only [updo, upd, show j ≠ t + 6 by omega, show j ≠ t + 7 by omega, if_false]
          exact b3 j hj hne
        · simp only [updo, upd, show nv + 1 ≠ t + 6 by omega, show nv + 1 ≠ t + 7 by omega, if_false]
          exact n3
      | @nstr1 b sl hb0 hcb =>
        have hcb' : w.cell? ⟨b, 0, none⟩ = some (Msk.str sl) := cell_mod hcb ha1.m (by simp)
        refine go1 (v := .bool true) rfl (by simp) (goEnd ?_)
        simp only [thenC]
        rw [wpC_cond_t (by simp), wpC_blk]
        refine go1 (v := .pointer (some ⟨b, 0, none⟩)) rfl (by simp [show nv ≠ t + 6 by omega, show nv ≠ t + 7 by omega, v3]) ?_
        refine go1 (v := .pointer (some ⟨b, 0, none⟩)) rfl (by simp) ?_
        refine go1 (v := Msk.str sl) rfl (by simp [hcb']) ?_
        refine go1 (v := Msk.str sl) rfl (by simp) (goEnd ?_)
        simp only [thenC]
        simp only [show thenC (fun a b => Q2 .normal a b) Q2 = Q2 from thenC_same Q2]
        refine key _ (fun j hj hne => ?_) ?_
        · simp only [updo, upd, hne, show j ≠ t + 6 by omega, show j ≠ t + 7 by omega, show j ≠ t + 8 by omega, show j ≠ t + 9 by omega, show j ≠ t + 10 by omega, if_false]
          exact b3 j hj hne
        · simp only [updo, upd_same]; rfl
    · rw [decide_eq_false hlt] at c3
      simp only [encV, if_neg hlt] at hl1 hQ2
      rw [wpC_cond_f (by simp only [ev, c3]), wpC_seqs]
      refine AC.gen_wp (x := x) (n0 := w0.heap.size) (w0 := w0) (l' := l ++ encP .nstr x g) (by omega) (by omega) (fun e => ?_) ?_ fun σ6 w6 a6 hd6 hm6 => hQ2 σ6 w6 hd6 hm6 fun j hj1 hj => ?_
      · have := h6' (hx2 e)
        rw [a3' 6 (by omega), a2' 6 (by omega) (by omega)]; exact ha1.x (hx2 e)
      · refine hf2 w0 w _ _ l g hfp ?_ ha1.m ?_ hl1
        · rw [a3' nv (by omega), v2]; exact hg
        · rw [a3' 1 (by omega)]; exact d2
      · rw [a6 j hj1 (by omega), a3' j (by omega), a2' j (by omega) (by omega)]
  | lsp vc nul ln p a rest ih =>
    rintro ⟨hxl, hx, hL, hf1, hrest⟩ gs css sp off nv nt nb B o l σ w Q ⟨g, r, rfl, hw, hfit, hfr⟩ hrep hc hs h1 h2 h3 h4 h5 hA hl hQ
    cases hrep with
    | @cons _ _ cs css hg hr =>
    obtain ⟨v, rfl⟩ := one_cell hg hw
    obtain ⟨h6, h6'⟩ := bse6 h3
    simp only [Ap.nv] at h4
    simp only [Ap.enc] at hl hQ
    rw [List.flatten_cons] at hc
    refine cons_wp (ih hrest) hfr hr hc rfl hs h1 h2 h3 (by omega) h5 hl (fun Q1 hQ1 => ?_) hQ
    refine fld_wp hA (by omega) h3 (by omega) (fun hv σ1 a1 ha1 Q2 hQ2 => ?_) hQ1
    obtain ⟨⟨isnil, s, es, rfl, hsz, hn, hes⟩, hpu⟩ := hfit hv
    have hl1 := len_if hl hv
    have hcell : w0.cell? ⟨B, o + off, none⟩ = some v := hc.app.1.head
    refine lst_wp (NV := NV) (t := nt + vc.nt) (f := encP p x) (s := s) (isnil := isnil) (es := es) hxl hL hg hn hcell ((a1 sp (by omega)).trans hs) h1 h3 (by omega) (by omega) ha1 rfl (by omega) hl1 (fun base c css' hre hsz' hnil hcs j y σ2 w2 hy ha2 hl2 v2 i2 Q' hQ' => ?_) fun σ2 w2 hd2 hm2 hk2 => hQ2 σ2 w2 hd2 hm2 (fun j hj1 hj => hk2 j hj1 (by omega))
    have hs1 := hsz hnil
    subst hs1
    obtain ⟨cs, hcs1, hry⟩ := hre.nth hy
    have hcl := hsz' cs (List.mem_of_getElem? hcs1)
    obtain ⟨u, rfl⟩ : ∃ u, cs = [u] := by match cs, hcl with | [u], _ => exact ⟨u, rfl⟩
    obtain ⟨bb, bo, bs⟩ := base
    have eb : bs = none := hcs.1
    subst eb
    have hce := (hcs.each hsz' hcs1).head
    have hjl : j < es.length := (List.getElem?_eq_some_iff.1 hy).1
    generalize hT : nt + vc.nt + 4 + ln.lnt nul = T
    simp only [wpL]
    rw [wpC_blk]
    refine go1 (v := .slice (some ⟨bb, bo, none⟩) es.length c) rfl (by simp [v2]) ?_
    refine go1 (v := .int .i64 (j : Nat)) rfl (by simp [i2, show nv ≠ T + 4 by omega]) ?_
    refine go1 (v := .pointer (some ⟨bb, bo + j * 1, none⟩)) rfl (by simp [hjl]) ?_
    refine go1 (v := u) rfl (by simp only [RK.val?, ev, updo, upd, if_true]; exact cell_mod hce ha2.m (by simp)) ?_
    refine go1 (v := u) rfl (by simp) (goEnd ?_)
    simp only [thenC]
    have e3 : ∀ k, k < T + 5 → k ≠ nv + 2 → updo (updo (updo (updo (updo σ2 (some (T + 5)) (.slice (some ⟨bb, bo, none⟩) es.length c)) (some (T + 6)) (.int .i64 (j : Nat))) (some (T + 7)) (.pointer (some ⟨bb, bo + j * 1, none⟩))) (some (T + 8)) u) (some (nv + 2)) u k = σ2 k := fun k hk hk2 => by
      simp only [updo, upd, hk2, show k ≠ T + 5 by omega, show k ≠ T + 6 by omega, show k ≠ T + 7 by omega, show k ≠ T + 8 by omega, if_false]
    have e4 : updo (updo (updo (updo (updo σ2 (some (T + 5)) (.slice (some ⟨bb, bo, none⟩) es.length c)) (some (T + 6)) (.int .i64 (j : Nat))) (some (T + 7)) (.pointer (some ⟨bb, bo + j * 1, none⟩))) (some (T + 8)) u) (some (nv + 2)) u (nv + 2) = u := by simp
    generalize updo (updo (updo (updo (updo σ2 (some (T + 5)) (.slice (some ⟨bb, bo, none⟩) es.length c)) (some (T + 6)) (.int .i64 (j : Nat))) (some (T + 7)) (.pointer (some ⟨bb, bo + j * 1, none⟩))) (some (T + 8)) u) (some (nv + 2)) u = σ3 at e3 e4 ⊢
    refine AC.gen_wp (x := x) (n0 := w0.heap.size) (w0 := w0) (l' := l ++ encLen nul x isnil es.length ++ (es.take j).flatMap (encP p x) ++ encP p x y) (by omega) (by omega) (fun e => ?_) ?_ fun σ4 w4 a4 hd4 hm4 => hQ' σ4 w4 ?_ fun k hk1 hk => ?_
    · have := h6' (hx e); rw [e3 6 (by omega) (by omega)]; exact ha2.x (hx e)
    · exact hf1 w0 w2 (σ3 1) (σ3 (nv + 2)) _ y (hes y (List.mem_of_getElem? hy)) (by rw [e4]; exact hry) ha2.m (by rw [e3 1 (by omega) (by omega)]; exact ha2.d) hl2
    · rw [take_flat (encP p x) hy, ← List.append_assoc]
      refine ha2.keep (NV := 0) (nt := 0) (nv := nv) (fun k hk1 hk => ?_) h3 hd4 hm4
      rw [a4 k hk1 (by omega), e3 k (by omega) (by omega)]
    · rw [a4 k hk1 (by omega), e3 k (by omega) (by omega)]
  | lss vc nul ln sz body rest ihb ih =>
    rintro ⟨hxl, hL, hbody, hrest⟩ gs css sp off nv nt nb B o l σ w Q ⟨g, r, rfl, hw, hfit, hfr⟩ hrep hc hs h1 h2 h3 h4 h5 hA hl hQ
    cases hrep with
    | @cons _ _ cs css hg hr =>
    obtain ⟨v, rfl⟩ := one_cell hg hw
    obtain ⟨h6, h6'⟩ := bse6 h3
    simp only [Ap.nv] at h4
    simp only [Ap.enc] at hl hQ
    rw [List.flatten_cons] at hc
    refine cons_wp (ih hrest) hfr hr hc rfl hs h1 h2 h3 (by omega) h5 hl (fun Q1 hQ1 => ?_) hQ
    refine fld_wp hA (by omega) h3 (by omega) (fun hv σ1 a1 ha1 Q2 hQ2 => ?_) hQ1
    obtain ⟨isnil, s, es, rfl, hsz, hn, hes⟩ := hfit hv
    have hl1 := len_if hl hv
    have hcell : w0.cell? ⟨B, o + off, none⟩ = some v := hc.app.1.head
    refine lst_wp (NV := NV) (t := nt + vc.nt) (f := fun g => match g with | .rcd l => body.enc ver x l | _ => []) (s := s) (isnil := isnil) (es := es) hxl hL hg hn hcell ((a1 sp (by omega)).trans hs) h1 h3 (by omega) (by omega) ha1 rfl (by omega) hl1 (fun base c css' hre hsz' hnil hcs j y σ2 w2 hy ha2 hl2 v2 i2 Q' hQ' => ?_) fun σ2 w2 hd2 hm2 hk2 => hQ2 σ2 w2 hd2 hm2 (fun j hj1 hj => hk2 j hj1 (by omega))
    have hs1 := hsz hnil
    subst hs1
    obtain ⟨cs, hcs1, hry⟩ := hre.nth hy
    obtain ⟨ly, rfl, hfy⟩ := hes y (List.mem_of_getElem? hy)
    obtain ⟨bb, bo, bs⟩ := base
    have eb : bs = none := hcs.1
    subst eb
    have hce := hcs.each hsz' hcs1
    have hjl : j < es.length := (List.getElem?_eq_some_iff.1 hy).1
    cases hry with
    | @rcd _ cssy hry =>
    generalize hT : nt + vc.nt + 4 + ln.lnt nul = T
    simp only [wpL]
    rw [wpC_blk]
    refine go1 (v := .slice (some ⟨bb, bo, none⟩) es.length c) rfl (by simp [v2]) ?_
    refine go1 (v := .int .i64 (j : Nat)) rfl (by simp [i2, show nv ≠ T + 4 by omega]) ?_
    refine go1 (v := .pointer (some ⟨bb, bo + j * s, none⟩)) rfl (by simp [hjl]) ?_
    refine go1 (v := .pointer (some ⟨bb, bo + j * s, none⟩)) rfl (by simp) (goEnd ?_)
    simp only [thenC]
    have e3 : ∀ k, k < T + 5 → k ≠ nv + 2 → updo (updo (updo (updo σ2 (some (T + 5)) (.slice (some ⟨bb, bo, none⟩) es.length c)) (some (T + 6)) (.int .i64 (j : Nat))) (some (T + 7)) (.pointer (some ⟨bb, bo + j * s, none⟩))) (some (nv + 2)) (.pointer (some ⟨bb, bo + j * s, none⟩)) k = σ2 k := fun k hk hk2 => by
      simp only [updo, upd, hk2, show k ≠ T + 5 by omega, show k ≠ T + 6 by omega, show k ≠ T + 7 by omega, if_false]
    have e4 : updo (updo (updo (updo σ2 (some (T + 5)) (.slice (some ⟨bb, bo, none⟩) es.length c)) (some (T + 6)) (.int .i64 (j : Nat))) (some (T + 7)) (.pointer (some ⟨bb, bo + j * s, none⟩))) (some (nv + 2)) (.pointer (some ⟨bb, bo + j * s, none⟩)) (nv + 2) = .pointer (some ⟨bb, bo + j * s, none⟩) := by simp
    generalize updo (updo (updo (updo σ2 (some (T + 5)) (.slice (some ⟨bb, bo, none⟩) es.length c)) (some (T + 6)) (.int .i64 (j : Nat))) (some (T + 7)) (.pointer (some ⟨bb, bo + j * s, none⟩))) (some (nv + 2)) (.pointer (some ⟨bb, bo + j * s, none⟩)) = σ3 at e3 e4 ⊢
    refine ihb hbody ly cssy (nv + 2) 0 (nv + 3) (T + 8) (nb + 2) bb (bo + j * s) _ σ3 w2 Q' hfy hry (by simpa using hce) e4 (by omega) (by omega) (by omega) (by omega) (by omega)
      (ha2.keep (NV := 0) (nt := 0) (nv := nv) (fun k hk1 hk => e3 k (by omega) (by omega)) h3 (by rw [e3 1 (by omega) (by omega)]; exact ha2.d) ha2.m) hl2 fun σ4 w4 ha4 hk4 => hQ' σ4 w4 ?_ fun k hk1 hk => ?_
    · rw [take_flat _ hy, ← List.append_assoc]; exact ha4
    · rw [hk4 k hk1 (by omega), e3 k (by omega) (by omega)]
  | sub vc sz body rest ihb ih =>
    rintro ⟨hbody, hrest⟩ gs css sp off nv nt nb B o l σ w Q ⟨g, r, rfl, hw, hfit, hfr⟩ hrep hc hs h1 h2 h3 h4 h5 hA hl hQ
    cases hrep with
    | @cons _ _ cs css hg hr =>
    obtain ⟨h6, h6'⟩ := bse6 h3
    simp only [Ap.nv] at h4
    simp only [Ap.enc] at hl hQ
    rw [List.flatten_cons] at hc
    have hcl : cs.length = sz := hg.wid.trans hw
    refine cons_wp (ih hrest) hfr hr hc hcl hs h1 h2 h3 (by omega) h5 hl (fun Q1 hQ1 => ?_) hQ
    refine fld_wp hA (by omega) h3 (by omega) (fun hv σ1 a1 ha1 Q2 hQ2 => ?_) hQ1
    obtain ⟨ly, rfl, hfy⟩ := hfit hv
    have hl1 := len_if hl hv
    cases hg with
    | @rcd _ cssy hry =>
    have s1 : σ1 sp = .pointer (some ⟨B, o, none⟩) := (a1 sp (by omega)).trans hs
    generalize ht : nt + vc.nt = t
    rw [wpC_seqs]
    simp only [wpL]
    rw [wpC_blk]
    refine go1 (v := .pointer (some ⟨B, o, none⟩)) rfl (by simp [s1]) ?_
    refine go1 (v := .pointer (some ⟨B, o, none⟩)) rfl (by simp) ?_
    refine go1 (v := .pointer (some ⟨B, o + off, none⟩)) rfl (by simp) ?_
    refine go1 (v := .pointer (some ⟨B, o + off, none⟩)) rfl (by simp) (goEnd ?_)
    simp only [thenC]
    have e3 : ∀ k, k < t → k ≠ nv → updo (updo (updo (updo σ1 (some t) (.pointer (some ⟨B, o, none⟩))) (some (t + 1)) (.pointer (some ⟨B, o, none⟩))) (some (t + 2)) (.pointer (some ⟨B, o + off, none⟩))) (some nv) (.pointer (some ⟨B, o + off, none⟩)) k = σ1 k := fun k hk hk2 => by
      simp only [updo, upd, hk2, show k ≠ t by omega, show k ≠ t + 1 by omega, show k ≠ t + 2 by omega, if_false]
    have e4 : updo (updo (updo (updo σ1 (some t) (.pointer (some ⟨B, o, none⟩))) (some (t + 1)) (.pointer (some ⟨B, o, none⟩))) (some (t + 2)) (.pointer (some ⟨B, o + off, none⟩))) (some nv) (.pointer (some ⟨B, o + off, none⟩)) nv = .pointer (some ⟨B, o + off, none⟩) := by simp
    generalize updo (updo (updo (updo σ1 (some t) (.pointer (some ⟨B, o, none⟩))) (some (t + 1)) (.pointer (some ⟨B, o, none⟩))) (some (t + 2)) (.pointer (some ⟨B, o + off, none⟩))) (some nv) (.pointer (some ⟨B, o + off, none⟩)) = σ3 at e3 e4 ⊢
    refine ihb hbody ly cssy nv 0 (nv + 1) (t + 3) nb B (o + off) _ σ3 w Q2 hfy hry (by simpa using hc.app.1) e4 (by omega) (by omega) (by omega) (by omega) (by omega)
      (ha1.keep (NV := 0) (nt := 0) (nv := nv) (fun k hk1 hk => e3 k (by omega) (by omega)) h3 (by rw [e3 1 (by omega) (by omega)]; exact ha1.d) ha1.m) hl1 fun σ4 w4 ha4 hk4 => hQ2 σ4 w4 ha4.d ha4.m fun k hk1 hk => ?_
    rw [hk4 k hk1 (by omega), e3 k (by omega) (by omega)]
  | tags ln uv ap =>
    rintro ⟨hhf, hT⟩ gs css sp off nv nt nb B o l σ w Q ⟨g, rfl, m, rfl, hml, hmv⟩ hrep hc hs h1 h2 h3 h4 h5 hA hl hQ
    cases hrep with
    | @cons _ _ cs css hg hr =>
    cases hr
    obtain ⟨h6, h6'⟩ := bse6 h3
    have h6 := h6' hhf
    simp only [Ap.enc] at hl hQ
    have hTM : ∃ v, cs = [v] ∧ TagM anyB w0 v m := by
      cases hg with
      | tag0 => exact ⟨_, rfl, .inl ⟨rfl, rfl⟩⟩
      | tag1 _ h => exact ⟨_, rfl, .inr ⟨_, rfl, h.mod (Mod.refl [] _) (by simp) (by simp) fun _ _ _ => trivial⟩⟩
    obtain ⟨v, rfl, hM⟩ := hTM
    have hc0 : w0.cell? ⟨B, o + off, none⟩ = some v := by simpa using hc.head
    simp only [Ap.gen, wpL]
    rw [wpC_seq]
    refine mv6_wp (hA.x hhf) fun σ1 a1 e1 => ?_
    simp only [thenC]
    cases x with
    | false =>
      rw [wpC_cond_f (show ev σ1 (.tmp nt) = _ from e1), wpC_skip]
      refine hQ σ1 w ?_ fun j hj1 hj => a1 j (by omega)
      simpa using hA.keep (NV := 0) (nt := 0) (nv := nv) (fun j _ hj => a1 j (by omega)) h3 (by rw [a1 1 (by omega)]; exact hA.d) hA.m
    | true =>
      simp only [if_true] at hl hQ
      simp only [List.length_append] at hl
      rw [wpC_cond_t (show ev σ1 (.tmp nt) = _ from e1)]
      have s1 : σ1 sp = .pointer (some ⟨B, o, none⟩) := (a1 sp (by omega)).trans hs
      have d1 : DRaw w w0.heap.size (σ1 1) l := by rw [a1 1 (by omega)]; exact hA.d
      have hm1 : TagM anyB w v m := by
        rcases hM with h | ⟨r, e, h⟩
        · exact .inl h
        · exact .inr ⟨r, e, h.mod hA.m (by simp) (by simp) fun _ _ _ => trivial⟩
      rw [wpC_seq, wpC_blk]
      refine go1 (v := σ1 1) rfl (by simp) ?_
      refine go1 (v := .pointer (some ⟨B, o, none⟩)) rfl (by simp [s1, show sp ≠ nt + 1 by omega]) ?_
      refine go1 (v := .pointer (some ⟨B, o, none⟩)) rfl (by simp) ?_
      refine go1 (v := .pointer (some ⟨B, o + off, none⟩)) rfl (by simp) ?_
      refine goCall rfl (vs := [.pointer (some ⟨B, o + off, none⟩)]) (by simp) (hT.ln w B (o + off) v m (cell_mod hc0 hA.m (by simp)) hm1) ?_
      rintro e w1 ⟨rfl, e2⟩
      subst e2
      refine ⟨_, rfl, ?_⟩
      refine go1 (v := .int .u32 (m.length : Nat)) rfl (by simp [u32_nat (n := m.length) (by omega)]) ?_
      refine go1 (v := .int .u32 (m.length : Nat)) rfl (by simp [u32_nat (n := m.length) (by omega)]) ?_
      refine goCall rfl (vs := [σ1 1, .int .u32 (m.length : Nat)]) (by simp) (hT.uv m.length (by omega) w0 w1 (σ1 1) _ l hA.m d1 (by omega) rfl) ?_
      rintro e w2 ⟨dv2, rfl, hd2, hm2⟩
      refine ⟨dv2, rfl, go1 (v := dv2) rfl (by simp) (goEnd ?_)⟩
      simp only [thenC]
      rw [wpC_blk]
      refine go1 (v := .pointer (some ⟨B, o, none⟩)) rfl (by simp [s1, h2, show sp ≠ nt + 1 by omega, show sp ≠ nt + 2 by omega, show sp ≠ nt + 3 by omega, show sp ≠ nt + 4 by omega, show sp ≠ nt + 5 by omega, show sp ≠ nt + 6 by omega, show sp ≠ nt + 7 by omega, show sp ≠ nt + 8 by omega]) ?_
      refine go1 (v := .pointer (some ⟨B, o, none⟩)) rfl (by simp) ?_
      refine go1 (v := .pointer (some ⟨B, o + off, none⟩)) rfl (by simp) ?_
      refine go1 (v := dv2) rfl (by simp []) ?_
      refine goCall rfl (vs := [.pointer (some ⟨B, o + off, none⟩), dv2]) (by simp) (hT.ap w0 w2 B (o + off) dv2 v (l ++ uvE m.length) m hm2 hd2 (by simp only [List.length_append]; omega) hc0 hM hml hmv) ?_
      rintro e w3 ⟨dv3, rfl, hd3, hm3⟩
      refine ⟨dv3, rfl, go1 (v := dv3) rfl (by simp) (goEnd ?_)⟩
      have fin : ∀ σ', σ' 1 = dv3 → (∀ j, j ≠ 1 → j < nt → σ' j = σ1 j) → Q .normal σ' w3 := fun σ' g1 g2 => by
        have kf : Kp NV nv nt σ σ' := fun j hj1 hj => (g2 j hj1 (by omega)).trans (a1 j (by omega))
        exact hQ σ' w3 (hA.keep kf h3 (by rw [g1]; simpa [List.append_assoc] using hd3) hm3) kf
      exact fin _ (by simp) fun j hj1 hj => by
        simp only [updo, upd, hj1, show j ≠ nt + 1 by omega, show j ≠ nt + 2 by omega, show j ≠ nt + 3 by omega, show j ≠ nt + 4 by omega, show j ≠ nt + 5 by omega, show j ≠ nt + 6 by omega, show j ≠ nt + 7 by omega, show j ≠ nt + 8 by omega, show j ≠ nt + 9 by omega, show j ≠ nt + 10 by omega, show j ≠ nt + 11 by omega, show j ≠ nt + 12 by omega, show j ≠ nt + 13 by omega, if_false]
end
end Go.Msk

namespace Go.Msk
open Go.RowKit
set_option maxRecDepth 100000
def ATop.x (T : ATop) (ver : Int) : Bool := match T.flex with | some n => decide (ver ≥ n) | none => false
section
variable {P : Program} {f : FuncId}
attribute [local simp] gOk updo upd ev RK.val? isShift intBin Addr.add_mk args0 Value.cells undef
theorem ATop.call {T : ATop} (hm : P.follows .mixedOrders = true) (h : liftF P f = some T.gen) {ver : Int} (hok : T.ap.Ok P T.flex.isSome (T.x ver)) {w0 w : World} {B : Nat} {gs : List GV} {css : List (List Value)} {dv : Value} {l : List UInt8}
    (hc : Cells w0 ⟨B, 0, none⟩ (.int .i16 ver :: css.flatten)) (hr : RepL [] w0 gs css) (hfit : T.ap.Fit ver gs) (hm0 : Mod [] w0 w) (hd : DRaw w w0.heap.size dv l) (hl : l.length + (T.ap.enc ver (T.x ver) gs).length ≤ lim) :
    Calls P f [.pointer (some ⟨B, 0, none⟩), dv].toArray w fun e w' => ∃ dv', e = .returned dv' ∧ DRaw w' w0.heap.size dv' (l ++ T.ap.enc ver (T.x ver) gs) ∧ Mod [] w0 w' := by
  unfold ATop.gen at h
  have hn0 : T.n0 = bse T.flex.isSome := by unfold ATop.n0 bse; rfl
  have hb6 : 6 ≤ T.n0 := by unfold ATop.n0; split <;> omega
  have ht0 : T.t0 = T.n0 + T.ap.nv := rfl
  have htf : T.t0 + 5 ≤ T.tf := by unfold ATop.tf; omega
  refine call_of h hm (by simp only [List.length_cons, List.length_nil]; omega) ?_
  rw [wpC_seqs]
  simp only [List.cons_append, List.nil_append, wpL]
  rw [wpC_blk]
  refine go1 (v := .slice none 0 0) rfl (by simp) (goEnd ?_)
  simp only [thenC]
  have s0 : ∀ k, k ≠ 4 → updo (args0 [.pointer (some ⟨B, 0, none⟩), dv]) (some 4) (.slice none 0 0) k = args0 [.pointer (some ⟨B, 0, none⟩), dv] k := fun k hk => by simp only [updo, upd, hk, if_false]
  have e0 : args0 [.pointer (some ⟨B, 0, none⟩), dv] 0 = .pointer (some ⟨B, 0, none⟩) := rfl
  have e1 : args0 [.pointer (some ⟨B, 0, none⟩), dv] 1 = dv := rfl
  generalize updo (args0 [.pointer (some ⟨B, 0, none⟩), dv]) (some 4) (.slice none 0 0) = σ0 at s0 ⊢
  have e0 : σ0 0 = .pointer (some ⟨B, 0, none⟩) := (s0 0 (by omega)).trans e0
  have e1 : σ0 1 = dv := (s0 1 (by omega)).trans e1
  refine ldA_wp (B := B) (o := 0) (v := .int .i16 ver) e0 (cell_mod hc.head hm0 (by simp)) (by omega) (by omega) fun σ1 a1 v1 => ?_
  simp only [thenC]
  refine mvF_wp fun σ2 a2 => ?_
  simp only [thenC]
  rw [wpL_append]
  have key : ∀ σ3, (∀ j, j < T.t0 → j ≠ 6 → σ3 j = σ2 j) → (T.flex.isSome = true → σ3 6 = .bool (T.x ver)) → wpL P (T.ap.gen 0 1 T.n0 T.tf 0 ++ [.blk [⟨some (T.tf + T.ap.nt), .mv (.tmp 1), none⟩, ⟨some 4, .mv (.tmp (T.tf + T.ap.nt)), none⟩], .ret])
      (postC [.tmp 4] fun e w' => ∃ dv', e = .returned dv' ∧ DRaw w' w0.heap.size dv' (l ++ T.ap.enc ver (T.x ver) gs) ∧ Mod [] w0 w') σ3 w := by
    intro σ3 a3 h6
    have f0 : σ3 0 = .pointer (some ⟨B, 0, none⟩) := by rw [a3 0 (by omega) (by omega), a2 0 (by omega), a1 0 (by omega) (by omega)]; exact e0
    have f1 : σ3 1 = dv := by rw [a3 1 (by omega) (by omega), a2 1 (by omega), a1 1 (by omega) (by omega)]; exact e1
    have f5 : σ3 5 = .int .i16 ver := by rw [a3 5 (by omega) (by omega), a2 5 (by omega)]; exact v1
    rw [wpL_append]
    have hcc : Cells w0 ⟨B, 0 + 1, none⟩ css.flatten := (Cells.app (a := [.int .i16 ver]) hc).2
    refine T.ap.sound (NV := T.t0) hm hok gs css 0 1 T.n0 T.tf 0 B 0 l σ3 w _ hfit hr hcc f0 (by omega) (by omega) (by omega) (by omega) (by omega) ⟨by rw [f1]; exact hd, hm0, f5, h6⟩ hl fun σ4 w4 ha4 _ => ?_
    simp only [thenC, wpL]
    rw [wpC_blk]
    refine go1 (v := σ4 1) rfl (by simp) ?_
    refine go1 (v := σ4 1) rfl (by simp) (goEnd ?_)
    simp only [thenC]
    refine retThen ?_
    exact ret1 (v := σ4 1) (by simp) ⟨_, rfl, ha4.d, ha4.m⟩
  have h25 : σ2 5 = .int .i16 ver := by rw [a2 5 (by omega)]; exact v1
  cases hfl : T.flex with
  | none =>
    rw [hfl] at key
    exact key σ2 (fun _ _ _ => rfl) (by simp)
  | some n =>
    rw [hfl] at key
    have hx : T.x ver = decide (ver ≥ n) := by unfold ATop.x; rw [hfl]
    simp only [wpL]
    rw [wpC_blk]
    refine go1 (v := .int .i16 ver) rfl (by simp [h25]) ?_
    refine go1 (v := .bool (decide (ver ≥ n))) rfl (by simp) ?_
    refine go1 (v := .bool (decide (ver ≥ n))) rfl (by simp) (goEnd ?_)
    simp only [thenC]
    rw [wpC_blk]
    refine go1 (v := .bool (decide (ver ≥ n))) rfl (by simp) (goEnd ?_)
    simp only [thenC]
    refine key _ (fun j hj hj6 => ?_) fun _ => ?_
    · simp only [updo, upd, hj6, show j ≠ T.t0 + 5 by omega, show j ≠ T.t0 + 6 by omega, show j ≠ T.t0 + 7 by omega, if_false]
    · simp only [updo, upd, show 6 ≠ T.t0 + 7 by omega, if_false, if_true, hx]
end
end Go.Msk

namespace Go.Msk
open Go.RowKit
set_option maxRecDepth 100000
def newCode (z : List Value) (dfl : FuncId) : IC × List RV × Nat :=
  (.seq (.blk [⟨some 0, .mv (.const (.pointer none)), none⟩]) (.seq (.blk [⟨some 1, .alloc z, none⟩]) (.seq (.blk [⟨some 2, .call dfl [.tmp 1], none⟩]) (.seq (.blk [⟨some 0, .mv (.tmp 1), none⟩]) .ret))), [.tmp 0], 3)
def maxCode (v : Int) : IC × List RV × Nat :=
  (.seq (.blk [⟨some 2, .mv (.const (.int .i16 0)), none⟩]) (.seq (.blk [⟨some 2, .mv (.const (.int .i16 v)), none⟩]) .ret), [.tmp 2], 3)
def setCode : IC × List RV × Nat :=
  (.blk [⟨some 4, .mv (.tmp 0), none⟩, ⟨some 5, .mv (.tmp 1), none⟩, ⟨some 6, .nilc (.tmp 4), none⟩, ⟨some 7, .fad (.tmp 6) 0, none⟩, ⟨none, .st (.tmp 7) 1 (.tmp 5), none⟩], [], 8)
def rfCode (f : FuncId) (u : Bool) : IC × List RV × Nat :=
  (.seq (.blk [⟨some 4, .mv (.const .nilIface), none⟩]) (.seq (.blk [⟨some 5, .mv (.tmp 0), none⟩, ⟨some 6, .mv (.tmp 1), none⟩, ⟨some 7, .call f [.tmp 5, .tmp 6, .const (.bool u)], none⟩, ⟨some 4, .mv (.tmp 7), none⟩]) .ret), [.tmp 4], 8)
def impMaxCode (newp mxv : FuncId) : IC × List RV × Nat :=
  (.seq (.blk [⟨some 0, .mv (.const (.int .i64 0)), none⟩]) (.seq (.blk [⟨some 1, .call newp [], none⟩, ⟨some 2, .call mxv [.tmp 1], none⟩, ⟨some 3, .conv .i64 (.tmp 2), none⟩, ⟨some 0, .mv (.tmp 3), none⟩]) .ret), [.tmp 0], 4)
section
variable {P : Program}
attribute [local simp] bnd wpC wpR RI.wp gOk RK.run thenC inBlockC updo upd ev args0 postC rvals RV.val tup_one isShift
theorem new_call (hm : P.follows .mixedOrders = true) {f dfl : FuncId} {z d : List Value} (h : liftF P f = some (newCode z dfl)) (hd : DfC P dfl z d) {w : World} :
    Calls P f #[] w fun e w' => e = .returned (.pointer (some ⟨w.heap.size, 0, none⟩)) ∧ Blk w' w.heap.size d ∧ Mod [] w w' := by
  refine call_of (args := []) h hm (by simp) ?_
  simp
  intro T
  have hb := Blk.new w z T
  have hm1 : Mod [] w (w.alloc (.cells z.toArray T)) := Mod.alloc _ _ _
  have := hd (w.alloc (.cells z.toArray T)) w.heap.size [] [] (by simpa using hb)
  refine (show Calls P dfl _ _ _ from this).mono ?_
  rintro e w' ⟨rfl, h1, h2⟩
  refine ⟨⟨_, rfl⟩, by simpa using h1, ?_⟩
  exact Mod.drop (b := w.heap.size) (S := []) (hm1.nil.trans h2) (Nat.le_refl _)
theorem max_call (hm : P.follows .mixedOrders = true) {f : FuncId} {v : Int} (h : liftF P f = some (maxCode v)) {w : World} {p : Value} :
    Calls P f [p].toArray w fun e w' => e = .returned (.int .i16 v) ∧ w' = w := by
  refine call_of h hm (by simp) ?_
  simp
theorem set_call (hm : P.follows .mixedOrders = true) {f : FuncId} (h : liftF P f = some setCode) {w : World} {b : Nat} {v : Int} {x : Value} {cs : List Value} (hb : Blk w b (x :: cs)) :
    Calls P f [.pointer (some ⟨b, 0, none⟩), .int .i16 v].toArray w fun e w' => e = .returned (.tuple #[]) ∧ Blk w' b (.int .i16 v :: cs) ∧ Mod [b] w w' := by
  refine call_of h hm (by simp) ?_
  have hput : Mod [b] w (putCells w ⟨b, 0, none⟩ 0 [.int .i16 v]) := Mod.put (by simp)
  have hp := hb.put (o := 0) (vs := [.int .i16 v]) (by simp)
  have e : splice (x :: cs) 0 [.int .i16 v] = .int .i16 v :: cs := by simp [splice]
  rw [e] at hp
  simp [Addr.add_mk, Value.cells]
  exact ⟨stOk_one hb (by simp) rfl, by simp [tup], hp, hput⟩
theorem rf_call (hm : P.follows .mixedOrders = true) {f g : FuncId} {u : Bool} (h : liftF P f = some (rfCode g u)) {w : World} {p s : Value} {R : Ending → World → Prop} (hR : ∀ e w', R e w' → ∃ v, e = .returned v)
    (hc : Calls P g [p, s, .bool u].toArray w R) : Calls P f [p, s].toArray w R := by
  refine call_of h hm (by simp) ?_
  simp
  refine hc.mono fun e w' he => ?_
  obtain ⟨v, rfl⟩ := hR e w' he
  exact ⟨v, rfl, he⟩
theorem impMax_call (hm : P.follows .mixedOrders = true) {f newp mxv dfl : FuncId} {z d : List Value} {v : Int} (h : liftF P f = some (impMaxCode newp mxv)) (hn : liftF P newp = some (newCode z dfl)) (hd : DfC P dfl z d) (hx : liftF P mxv = some (maxCode v)) (hv : 0 ≤ v ∧ v < 32768) {w : World} :
    Calls P f #[] w fun e w' => e = .returned (.int .i64 v) ∧ Mod [] w w' := by
  refine call_of (args := []) h hm (by simp) ?_
  simp
  refine (new_call hm hn hd).mono ?_
  rintro e w1 ⟨rfl, -, hm1⟩
  refine ⟨_, rfl, ?_⟩
  refine (show Calls P mxv _ _ _ from max_call hm hx).mono ?_
  rintro e w2 ⟨rfl, rfl⟩
  have e1 : IntKind.i64.wrap v = v := by simp [IntKind.wrap, IntKind.bits, IntKind.signed]; omega
  simp [e1, hm1]
end
end Go.Msk

namespace Go.Msk
open Go.RowKit
set_option maxRecDepth 100000
section
variable {P : Program}
attribute [local simp] gOk updo upd ev RK.val? isShift intBin Addr.add_mk args0 Value.cells undef
theorem ret2 {t u : Nat} {R : Ending → World → Prop} {σ : Sl} {w : World} {a b : Value} (h1 : σ t = a) (h2 : σ u = b) (h : R (.returned (.tuple #[a, b])) w) : wpC P .ret (postC [.tmp t, .tmp u] R) σ w := by
  subst h1; subst h2
  simp only [wpC, postC, rvals, List.mapM_cons, List.mapM_nil, RV.val, Option.bind_eq_bind, Option.bind_some, Option.pure_def, tup]
  exact h
theorem goCopy {x d : Nat} {r : List RI} {σ : Sl} {w : World} {v : Value} {l : List UInt8} {ok : Nat → Prop} {Q : Sl → World → Prop} (hx : σ x = v) (hv : SlC ok w v l.length (u8s l)) (hl : l.length ≤ lim)
    (h : ∀ v' w', DRaw w' w.heap.size v' l → Mod [] w w' → wpR P r (upd σ d v') w' Q) : wpR P (⟨some d, .append (.const (.slice none 0 0)) (.tmp x) 1 1, none⟩ :: r) σ w Q := by
  refine goC rfl ?_
  refine append_run (n0 := w.heap.size) (v := .slice none 0 0) (l := []) (k := l) rfl ⟨.inl ⟨rfl, rfl⟩⟩ (Nat.le_refl _) (by simpa [ev, hx] using hv.src) (by simpa using hl) fun v' w' ha => ?_
  exact h v' w' (by simpa using ha.raw) (by simpa [ownB] using ha.mod)
end
end Go.Msk

namespace Go.Msk
open Go.RowKit
set_option maxRecDepth 100000
def behCode (newp setv rf ap : FuncId) : IC × List RV × Nat :=
  (.seq (.blk [⟨some 6, .mv (.const (.slice none 0 0)), none⟩, ⟨some 7, .mv (.const (.bool false)), none⟩])
    (.seq (.blk [⟨some 9, .call newp [], none⟩, ⟨some 8, .mv (.tmp 9), none⟩])
    (.seq (.blk [⟨some 10, .mv (.tmp 8), none⟩, ⟨some 11, .mv (.tmp 0), none⟩, ⟨some 12, .conv .i16 (.tmp 11), none⟩, ⟨some 13, .call setv [.tmp 10, .tmp 12], none⟩])
    (.seq (.seq (.blk [⟨some 14, .mv (.tmp 8), none⟩, ⟨some 15, .mv (.tmp 2), none⟩, ⟨some 16, .append (.const (.slice none 0 0)) (.tmp 15) 1 1, none⟩, ⟨some 17, .call rf [.tmp 14, .tmp 16], none⟩, ⟨some 18, .isnil .ic true (.tmp 17), none⟩])
      (.cond (.tmp 18) (.seq (.blk [⟨some 6, .mv (.const (.slice none 0 0)), none⟩, ⟨some 7, .mv (.const (.bool false)), none⟩]) .ret) .skip))
    (.seq (.blk [⟨some 19, .mv (.tmp 8), none⟩, ⟨some 20, .mv (.tmp 1), none⟩, ⟨some 21, .append (.const (.slice none 0 0)) (.tmp 20) 1 1, none⟩, ⟨some 22, .call ap [.tmp 19, .tmp 21], none⟩, ⟨some 6, .mv (.tmp 22), none⟩, ⟨some 7, .mv (.const (.bool true)), none⟩])
    .ret)))), [.tmp 6, .tmp 7], 23)
section
variable {P : Program}
attribute [local simp] gOk updo upd ev RK.val? isShift intBin Addr.add_mk args0 Value.cells undef
theorem beh_call {T : Top} {A : ATop} {D : Dec} {g : Nat} (hm : P.follows .mixedOrders = true) {f newp setv rf rd ap : FuncId} {z : List Value} (h : liftF P f = some (behCode newp setv rf ap)) (hn : liftF P newp = some (newCode z T.dfl))
    (hz : DfC P T.dfl z (.int .i16 0 :: T.sc.dcs.flatten)) (hs : liftF P setv = some setCode) (hr : liftF P rf = some (rfCode rd false)) (hrd : liftF P rd = some T.gen) (hT : T.Ok P D g false) (ha : liftF P ap = some A.gen)
    {w : World} {ver : Int} {dv sv : Value} {ld ls : List UInt8} {ok : Nat → Prop} {Te : TypeId} {ve : Value} {gs : List GV} {s' : RS} (hA : A.ap.Ok P A.flex.isSome (A.x ver)) (hdec : T.dec D ver (⟨ls, false, false⟩) = some ((ver, gs), s')) (hbad : s'.bad = false) (hfit : A.ap.Fit ver gs)
    (hd : SlC ok w dv ld.length (u8s ld)) (hsv : SlC ok w sv ls.length (u8s ls)) (hpos : 0 < ls.length) (hl : ls.length ≤ lim) (hll : ld.length + (A.ap.enc ver (A.x ver) gs).length ≤ lim) (hver : IntKind.i16.wrap ver = ver) (hg : GErr g w Te ve) :
    Calls P f [.int .i64 ver, dv, sv].toArray w fun e w' => ∃ v', e = .returned (.tuple #[v', .bool true]) ∧ SlC (fun b => w.heap.size ≤ b) w' v' (ld ++ A.ap.enc ver (A.x ver) gs).length (u8s (ld ++ A.ap.enc ver (A.x ver) gs)) ∧ Mod [] w w' := by
  unfold behCode at h
  refine call_of h hm (by simp) ?_
  clear h
  have hgl : g < w.heap.size := World.block_lt_of_cell? w ⟨g, 0, none⟩ hg
  rw [wpC_seq, wpC_blk]
  refine go1 (v := .slice none 0 0) rfl (by simp) ?_
  refine go1 (v := .bool false) rfl (by simp) (goEnd ?_)
  simp only [thenC]
  rw [wpC_seq, wpC_blk]
  refine goCall rfl (vs := []) rfl (new_call hm hn hz) ?_
  rintro e w1 ⟨rfl, hb1, hm1⟩
  refine ⟨_, rfl, go1 (v := .pointer (some ⟨w.heap.size, 0, none⟩)) rfl (by simp) (goEnd ?_)⟩
  simp only [thenC]
  rw [wpC_seq, wpC_blk]
  refine go1 (v := .pointer (some ⟨w.heap.size, 0, none⟩)) rfl (by simp) ?_
  refine go1 (v := .int .i64 ver) rfl (by simp) ?_
  refine go1 (v := .int .i16 ver) rfl (by simp [hver]) ?_
  refine goCall rfl (vs := [.pointer (some ⟨w.heap.size, 0, none⟩), .int .i16 ver]) (by simp) (set_call hm hs hb1) ?_
  rintro e w2 ⟨rfl, hb2, hm2⟩
  refine ⟨_, rfl, goEnd ?_⟩
  simp only [thenC]
  have hm02 : Mod [] w w2 := Mod.drop (b := w.heap.size) (S := []) (hm1.nil.trans hm2) (Nat.le_refl _)
  rw [wpC_seq, wpC_seq, wpC_blk]
  refine go1 (v := .pointer (some ⟨w.heap.size, 0, none⟩)) rfl (by simp) ?_
  refine go1 (v := sv) rfl (by simp) ?_
  refine goCopy (v := sv) (l := ls) (ok := ok) (by simp) (hsv.mod hm02 (by simp) fun _ _ h => h) hl fun v3 w3 hd3 hm3 => ?_
  obtain ⟨Bs, cap, rest, rfl, hcap, hlow, hblk, hrest⟩ : ∃ B cap rest, v3 = .slice (some ⟨B, 0, none⟩) ls.length cap ∧ ls.length ≤ cap ∧ w2.heap.size ≤ B ∧ Blk w3 B (u8s ls ++ rest) ∧ rest.length = cap - ls.length := by
    rcases hd3.sl with ⟨-, h⟩ | h
    · rw [h] at hpos; simp at hpos
    · exact h
  have hby : IsBytes w3 (some ⟨Bs, 0, none⟩) ls.length cap ls := by
    refine ⟨rfl, hcap, by simp, fun a ha => ?_⟩
    simp only [Option.some.injEq] at ha; subst ha
    have := hblk.cells.take (u8s ls).length
    rwa [List.take_left] at this
  have hbl := hb2.lt
  have hm23 : Mod [] w w3 := hm02.trans hm3
  refine goCall rfl (vs := [.pointer (some ⟨w.heap.size, 0, none⟩), .slice (some ⟨Bs, 0, none⟩) ls.length cap]) (by simp) (rf_call hm hr (R := fun e w' => ∃ css, e = .returned .nilIface ∧ RepL [w.heap.size] w' gs css ∧ Blk w' w.heap.size (.int .i16 ver :: css.flatten) ∧ Mod [w.heap.size] w3 w') (fun e w' ⟨_, he, _⟩ => ⟨_, he⟩) ?_) ?_
  · refine (Top.read_call hm hrd hT (hb2.mod hm3 (by simp)) hby (fun a ha => ?_) (by unfold lim at hl; omega) (cell_mod hg hm23 (by simp)) (by omega)).mono ?_
    · simp only [Option.some.injEq] at ha; subst ha
      exact ⟨by show Bs ≠ _; omega, hblk.lt⟩
    · rintro e w' ⟨q1, q2⟩
      simp only [Option.isNone_some, hdec] at q2
      obtain ⟨rfl, css, q3, -, q4⟩ := q2
      exact ⟨css, by rw [hbad]; rfl, q3, q4, q1⟩
  rintro e w4 ⟨css, rfl, hrep, hb4, hm4⟩
  refine ⟨_, rfl, ?_⟩
  refine go1 (v := .bool false) rfl (by simp) (goEnd ?_)
  simp only [thenC]
  rw [wpC_cond_f (by simp), wpC_skip]
  simp only [thenC]
  have hm04 : Mod [] w w4 := Mod.drop (b := w.heap.size) (S := []) (hm23.nil.trans hm4) (Nat.le_refl _)
  rw [wpC_seq, wpC_blk]
  refine go1 (v := .pointer (some ⟨w.heap.size, 0, none⟩)) rfl (by simp) ?_
  refine go1 (v := dv) rfl (by simp) ?_
  refine goCopy (v := dv) (l := ld) (ok := ok) (by simp) (hd.mod hm04 (by simp) fun _ _ h => h) (by omega) fun v5 w5 hd5 hm5 => ?_
  refine goCall rfl (vs := [.pointer (some ⟨w.heap.size, 0, none⟩), v5]) (by simp) (ATop.call (T := A) hm ha hA hb4.cells (hrep.weaken (by simp)) hfit hm5 hd5 hll) ?_
  rintro e w6 ⟨dv6, rfl, hd6, hm6⟩
  refine ⟨_, rfl, ?_⟩
  refine go1 (v := dv6) rfl (by simp) ?_
  refine go1 (v := .bool true) rfl (by simp) (goEnd ?_)
  simp only [thenC]
  refine ret2 (a := dv6) (b := .bool true) (by simp) (by simp) ⟨dv6, rfl, ?_, hm04.trans hm6⟩
  have := hd6.slc
  exact this.mod (Mod.refl [] _) (by simp) fun b _ hb => Nat.le_trans hm04.size hb
end
end Go.Msk

namespace Go.Msk
open Go.RowKit
set_option maxRecDepth 100000
theorem uvE_pos (n : Nat) : 0 < (uvE n).length := by
  rw [uvE]; split <;> simp
section
variable {P : Program} {F : Nat → Nat}
attribute [local simp] gOk updo upd ev RK.val? isShift intBin Addr.add_mk args0 Value.cells undef
theorem width_call (hm : P.follows .mixedOrders = true) (h : liftF P (F sWidth) = some (ir_sWidth F)) {w : World} {k : Int} :
    Calls P (F sWidth) [.int .i64 k].toArray w fun e w' => e = .returned (.int .i64 (widthP k)) ∧ w' = w := by
  unfold ir_sWidth at h
  refine call_of h hm (by simp) ?_
  clear h
  by_cases h1 : k = 1
  · simp [wpC, wpR, RI.wp, RK.run, thenC, inBlockC, postC, rvals, RV.val, h1, tup_one, widthP]
  · by_cases h2 : k = 2
    · simp [wpC, wpR, RI.wp, RK.run, thenC, inBlockC, postC, rvals, RV.val, h2, tup_one, widthP]
    · by_cases h5 : k = 5
      · simp [wpC, wpR, RI.wp, RK.run, thenC, inBlockC, postC, rvals, RV.val, h5, tup_one, widthP]
      · by_cases h3 : k = 3
        · simp [wpC, wpR, RI.wp, RK.run, thenC, inBlockC, postC, rvals, RV.val, h3, tup_one, widthP]
        · simp [wpC, wpR, RI.wp, RK.run, thenC, inBlockC, postC, rvals, RV.val, beq_eq_false_iff_ne.2 h1, beq_eq_false_iff_ne.2 h2, beq_eq_false_iff_ne.2 h3, beq_eq_false_iff_ne.2 h5, h1, h2, h3, h5, tup_one, widthP]
theorem app1 {x y : Operand} {d1 d2 : Nat} {w w0 : World} {σ : Sl} {v : Value} {l : List UInt8} {b : UInt8} {r : List RI} {Q : Sl → World → Prop} (_hx : ev (upd σ d1 v) x = ev σ x) (_hv : ev σ x = v) (hd : DRaw w w0.heap.size v l) (hm : Mod [] w0 w) (hy : ev σ y = .int .u8 b.toNat)
    (hx2 : ∀ u, ev (upd σ d1 u) x = v) (hl : l.length + 1 ≤ lim) (hQ : ∀ u w' v', DRaw w' w0.heap.size v' (l ++ [b]) → Mod [] w0 w' → wpR P r (upd (upd σ d1 u) d2 v') w' Q) :
    wpR P (⟨some d1, .bslice 1 [.int .u8 0] [(0, 1, y)], none⟩ :: ⟨some d2, .append x (.tmp d1) 1 1, none⟩ :: r) σ w Q := by
  refine goC rfl ?_
  refine bsliceB_run (bs := [b]) (by simp only [List.map_cons, List.map_nil, hy]; rfl) rfl fun u w1 hs hm1 => ?_
  refine goC rfl ?_
  refine append_run (n0 := w0.heap.size) (v := v) (hx2 u) (hd.keep hm1) (hm.trans hm1).size (k := [b]) (by simpa using hs) (by simpa using hl) fun v' w2 ha => ?_
  exact hQ u w2 v' ha.raw (ha.mod0 (hd.keep hm1) (hm.trans hm1))
theorem fixed_call (hm : P.follows .mixedOrders = true) (h : liftF P (F sFixed) = some (ir_sFixed F)) {w : World} {n : Int} {k : Nat} (hk : k ≤ 8) :
    Calls P (F sFixed) [.int .i64 n, .int .i64 (k : Nat)].toArray w (BytesR w (beI k n)) := by
  unfold ir_sFixed at h
  refine call_of h hm (by simp) ?_
  clear h
  rw [wpC_seq, wpC_blk]
  refine go1 rfl rfl (wpR_done ?_)
  rw [wpC_seq, wpC_blk]
  refine go1 rfl rfl (wpR_done ?_)
  rw [wpC_seq, wpC_seq, wpC_blk]
  iterate 3 (apply go1 rfl; (· simp <;> rfl))
  refine wpR_done ?_
  rw [wpC_block, wpC_loop]
  refine ⟨fun σ w' => ∃ (m : Nat) (pre : List UInt8), m ≤ k ∧ beI k n = pre ++ beI m n ∧ σ 0 = .int .i64 n ∧ σ 6 = .int .i64 ((m : Int) - 1) ∧ DRaw w' w.heap.size (σ 5) pre ∧ Mod [] w w',
    fun σ _ => match σ 6 with | .int _ j => (j + 1).toNat | _ => 0, ?_, ?_⟩
  · refine ⟨k, [], Nat.le_refl _, rfl, by simp, ?_, by simpa using DRaw.nil w _, Mod.refl _ _⟩
    simp only [updo, upd, if_true]
    congr 1
    simp only [IntKind.wrap, IntKind.bits, IntKind.signed]; simp <;> omega
  · rintro σ w1 ⟨m, pre, hmk, hpre, h0, h6, hd, hm1⟩
    have hlen : pre.length + m = k := by
      have := congrArg List.length hpre
      simp only [beI_length, List.length_append] at this; omega
    rw [wpC_seq, wpC_seq, wpC_blk]
    refine go1 (v := .int .i64 ((m : Int) - 1)) rfl (by simp [h6]) ?_
    refine go1 (v := .bool (decide ((m : Int) - 1 ≥ 0))) rfl (by simp) ?_
    refine wpR_done ?_
    cases m with
    | zero =>
      rw [wpC_cond_f (by simp)]
      refine wpC_exit_out3 ?_
      simp only [thenC]
      rw [wpC_seq, wpC_blk]
      refine go1 (v := σ 5) rfl (by simp) ?_
      refine go1 (v := σ 5) rfl (by simp) ?_
      refine wpR_done (ret1 (v := σ 5) (by simp) ⟨_, rfl, ?_, hm1⟩)
      rw [hpre]; simpa [beI] using hd
    | succ m =>
      rw [wpC_cond_t (by simp), wpC_skip]
      simp only [thenC]
      rw [wpC_seq, wpC_block, wpC_blk]
      refine go1 (v := σ 5) rfl (by simp) ?_
      refine go1 (v := .int .i64 n) rfl (by simp [h0]) ?_
      refine go1 (v := .int .i64 (m : Nat)) rfl (by simp [h6]) ?_
      refine go1 (v := .int .i64 ((8 * m : Nat) : Int)) rfl (by
        simp only [RK.val?, ev, updo, upd, isShift, decide_true, Bool.or_true, if_true, intBin]
        rw [show (8 : Int) * (m : Nat) = ((8 * m : Nat) : Int) by omega, i64_nat (by omega)]) ?_
      refine go1 (v := .int .i64 (n / 256 ^ m)) rfl (by
        simp only [RK.val?, ev, updo, upd, isShift, Bool.true_or, if_true, if_false, show (14 : Nat) ≠ 16 by decide, show (14 : Nat) ≠ 15 by decide]
        rw [shr_i64 n (8 * m) (by omega), pow_256]) ?_
      refine go1 (v := .int .u8 ((UInt8.ofNat (n / 256 ^ m % 256).toNat).toNat : Int)) rfl (by
        simp only [RK.val?, ev, updo, upd, if_true]
        rw [u8vz]) ?_
      refine app1 (v := σ 5) (w0 := w) (b := UInt8.ofNat (n / 256 ^ m % 256).toNat) (by simp) (by simp) hd hm1 (by simp) (by simp) (by unfold lim; omega) fun u w2 v' hd2 hm2 => ?_
      refine go1 (v := v') rfl (by simp) ?_
      refine goEnd ?_
      simp only [thenC, inBlockC]
      rw [wpC_blk]
      refine go1 (v := .int .i64 (m : Nat)) rfl (by simp [h6]) ?_
      refine go1 (v := .int .i64 ((m : Int) - 1)) rfl (by
        simp only [RK.val?, ev, updo, upd, isShift, decide_true, Bool.or_true, if_true, intBin]
        congr 2
        simp only [IntKind.wrap, IntKind.bits, IntKind.signed]; simp <;> omega) ?_
      refine go1 (v := .int .i64 ((m : Int) - 1)) rfl (by simp) ?_
      refine wpR_done ⟨⟨m, pre ++ [UInt8.ofNat (n / 256 ^ m % 256).toNat], by omega, ?_, by simp [h0], by simp, by simpa using hd2, hm2⟩, ?_⟩
      · rw [hpre, beI]; simp
      · simp [h6]
theorem uvarint_call (hm : P.follows .mixedOrders = true) (h : liftF P (F sUvarint) = some (ir_sUvarint F)) {w : World} {n : Nat} (hn : n < 18446744073709551616) :
    Calls P (F sUvarint) [.int .u64 (n : Nat)].toArray w (BytesR w (uvE n)) := by
  unfold ir_sUvarint at h
  refine call_of h hm (by simp) ?_
  clear h
  rw [wpC_seq, wpC_blk]
  refine go1 rfl rfl (wpR_done ?_)
  rw [wpC_seq, wpC_blk]
  refine go1 rfl rfl (wpR_done ?_)
  rw [wpC_seq, wpC_block, wpC_loop]
  refine ⟨fun σ w' => ∃ (m : Nat) (pre : List UInt8), m ≤ n ∧ uvE n = pre ++ uvE m ∧ pre.length ≤ n - m ∧ pre.length + m ≤ n ∧ pre.length ≤ 64 ∧ m * 2 ^ pre.length ≤ n ∧ σ 0 = .int .u64 (m : Nat) ∧ DRaw w' w.heap.size (σ 3) pre ∧ Mod [] w w',
    fun σ _ => match σ 0 with | .int _ j => j.toNat | _ => 0, ?_, ?_⟩
  · exact ⟨n, [], Nat.le_refl _, rfl, by simp, by simp, by simp, by simp, by simp, by simpa using DRaw.nil w _, Mod.refl _ _⟩
  · rintro σ w1 ⟨m, pre, hmn, hpre, hl1, hl2, hl64, hpow, h0, hd, hm1⟩
    rw [wpC_seq, wpC_seq, wpC_blk]
    refine go1 (v := .int .u64 (m : Nat)) rfl (by simp [h0]) ?_
    refine go1 (v := .bool (decide ((m : Int) > 127))) rfl (by simp) ?_
    refine wpR_done ?_
    by_cases hs : m < 128
    · rw [wpC_cond_f (by simp; omega)]
      refine wpC_exit_out3 ?_
      simp only [thenC]
      rw [wpC_seq, wpC_blk]
      refine go1 (v := σ 3) rfl (by simp) ?_
      refine go1 (v := .int .u64 (m : Nat)) rfl (by simp [h0]) ?_
      refine go1 (v := .int .u8 ((UInt8.ofNat m).toNat : Int)) rfl (by
        simp only [RK.val?, ev, updo, upd, if_true]
        rw [u8_conv (by omega)]) ?_
      refine app1 (v := σ 3) (w0 := w) (b := UInt8.ofNat m) (by simp) (by simp) hd hm1 (by simp) (by simp) (by unfold lim; omega) fun u w2 v' hd2 hm2 => ?_
      refine go1 (v := v') rfl (by simp) ?_
      refine wpR_done (ret1 (v := v') (by simp) ⟨_, rfl, ?_, hm2⟩)
      rw [hpre, uvE_small hs]; exact hd2
    · rw [wpC_cond_t (by simp; omega), wpC_skip]
      simp only [thenC]
      rw [wpC_block, wpC_seq, wpC_blk]
      have h256 : m % 128 + 128 < 256 := by omega
      refine go1 (v := σ 3) rfl (by simp) ?_
      refine go1 (v := .int .u64 (m : Nat)) rfl (by simp [h0]) ?_
      refine go1 (v := .int .u64 ((m % 128 : Nat) : Int)) rfl (by simp only [RK.val?, ev, updo, upd, if_true, isShift, decide_true, Bool.or_true, and127_u64 (n := m) (by omega)]) ?_
      refine go1 (v := .int .u8 ((m % 128 : Nat) : Int)) rfl (by
        simp only [RK.val?, ev, updo, upd, if_true]
        rw [u8_conv (by omega)]
        simp; omega) ?_
      refine go1 (v := .int .u8 ((m % 128 + 128 : Nat) : Int)) rfl (by simp only [RK.val?, ev, updo, upd, if_true, isShift, decide_true, Bool.or_true, or128_u8 (x := m % 128) (by omega)]) ?_
      have e8 : Value.int .u8 ((m % 128 + 128 : Nat) : Int) = .int .u8 ((UInt8.ofNat (m % 128 + 128)).toNat : Int) := by simp; omega
      rw [e8]
      have hp64 : pre.length < 64 := by
        rcases Nat.lt_or_ge pre.length 64 with h | h
        · exact h
        · have : pre.length = 64 := by omega
          rw [this] at hpow
          have : 128 * 2 ^ 64 ≤ m * 2 ^ 64 := Nat.mul_le_mul_right _ (by omega)
          omega
      refine app1 (v := σ 3) (w0 := w) (b := UInt8.ofNat (m % 128 + 128)) (by simp) (by simp) hd hm1 (by simp) (by simp) (by unfold lim; omega) fun u w2 v' hd2 hm2 => ?_
      refine go1 (v := v') rfl (by simp) ?_
      refine wpR_done ?_
      rw [wpC_blk]
      refine go1 (v := .int .u64 (m : Nat)) rfl (by simp [h0]) ?_
      refine go1 (v := .int .u64 ((m / 128 : Nat) : Int)) rfl (by
        simp only [RK.val?, ev, updo, upd, if_true, isShift, Bool.true_or]
        have := shr_u64 m 7 (by omega)
        simpa using this) ?_
      refine go1 (v := .int .u64 ((m / 128 : Nat) : Int)) rfl (by simp) ?_
      refine goEnd ?_
      simp only [inBlockC, thenC]
      refine ⟨⟨m / 128, pre ++ [UInt8.ofNat (m % 128 + 128)], by omega, ?_, ?_, ?_, ?_, ?_, by simp, by simpa using hd2, hm2⟩, ?_⟩
      · rw [hpre, uvE_big (by omega)]; simp
      · simp; omega
      · simp; omega
      · simp; omega
      · simp only [List.length_append, List.length_cons, List.length_nil, Nat.zero_add, Nat.pow_succ]
        have : m / 128 * (2 ^ pre.length * 2) ≤ m * 2 ^ pre.length := by
          rw [Nat.mul_comm (2 ^ pre.length) 2, ← Nat.mul_assoc]
          exact Nat.mul_le_mul_right _ (by omega)
        omega
      · simp [h0]; omega
theorem counted_call (hm : P.follows .mixedOrders = true) (h : liftF P (F sCounted) = some (ir_sCounted F)) (hu : liftF P (F sUvarint) = some (ir_sUvarint F)) (hf : liftF P (F sFixed) = some (ir_sFixed F)) {w : World} {flex null : Bool} {n size : Nat} (hn : n < 9223372036854775807) (hs : size ≤ 8) :
    Calls P (F sCounted) [.bool flex, .bool null, .int .i64 (n : Nat), .int .i64 (size : Nat)].toArray w (BytesR w (countedP flex null n size)) := by
  unfold ir_sCounted at h
  refine call_of h hm (by simp) ?_
  clear h
  rw [wpC_seq, wpC_blk]
  refine go1 rfl rfl (wpR_done ?_)
  rw [wpC_seq, wpC_block, wpC_seq, wpC_blk]
  cases flex with
  | true =>
    cases null with
    | true =>
      iterate 5 (first | (apply go1; (· simp); (· simp <;> rfl)) | (apply go0; (· simp)))
      refine wpR_done ?_
      rw [wpC_cond_t (by simp), wpC_seq, wpC_blk]
      refine goC rfl ?_
      simp only [RK.run]
      rw [show fillL (zrep 1 [.int .u8 0]) _ = some (u8s [0]) from rfl]
      intro T
      have hb := Blk.new w (u8s [0]) T
      refine go1 rfl rfl (wpR_done ?_)
      repeat first | refine retThen ?_ | refine retBlk ?_
      refine ret1 (v := .slice (some ⟨w.heap.size, 0, none⟩) 1 1) (by simp) ⟨_, rfl, ?_, Mod.alloc _ _ _⟩
      exact ⟨.inr ⟨w.heap.size, 1, [], rfl, Nat.le_refl _, Nat.le_refl _, by simpa [countedP] using hb, rfl⟩⟩
    | false =>
      iterate 5 (first | (apply go1; (· simp); (· simp <;> rfl)) | (apply go0; (· simp)))
      refine wpR_done ?_
      rw [wpC_cond_f (by simp), wpC_seq, wpC_blk]
      iterate 2 (first | (apply go1; (· simp); (· simp <;> rfl)) | (apply go0; (· simp)))
      refine wpR_done ?_
      rw [wpC_cond_t (by simp), wpC_seq, wpC_blk]
      refine go1 (v := .int .i64 (n : Nat)) rfl (by simp) ?_
      refine go1 (v := .int .u64 (n : Nat)) rfl (by simp [u64_natS (n := n) (by omega)]) ?_
      refine go1 (v := .int .u64 ((n + 1 : Nat) : Int)) rfl (by
        simp only [RK.val?, ev, updo, upd, if_true, isShift, decide_true, Bool.or_true, intBin]
        rw [show (n : Int) + 1 = ((n + 1 : Nat) : Int) by omega, u64_natS (by omega)]) ?_
      refine goCall rfl (vs := [.int .u64 ((n + 1 : Nat) : Int)]) (by simp) (uvarint_call hm hu (by omega)) ?_
      rintro e w' ⟨v, rfl, h1, h2⟩
      refine ⟨v, rfl, go1 (v := v) rfl (by simp) (wpR_done ?_)⟩
      repeat first | refine retThen ?_ | refine retBlk ?_
      exact ret1 (v := v) (by simp) ⟨v, rfl, h1, h2⟩
  | false =>
    iterate 5 (first | (apply go1; (· simp); (· simp <;> rfl)) | (apply go0; (· simp)))
    refine wpR_done ?_
    rw [wpC_cond_f (by simp), wpC_seq, wpC_blk]
    iterate 2 (first | (apply go1; (· simp); (· simp <;> rfl)) | (apply go0; (· simp)))
    refine wpR_done ?_
    rw [wpC_cond_f (by simp), wpC_seq, wpC_blk]
    iterate 2 (first | (apply go1; (· simp); (· simp <;> rfl)) | (apply go0; (· simp)))
    refine wpR_done ?_
    cases null with
    | true =>
      rw [wpC_cond_t (by simp), wpC_seq, wpC_blk]
      refine go1 (v := .int .i64 (size : Nat)) rfl (by simp) ?_
      refine goCall rfl (vs := [.int .i64 (-1), .int .i64 (size : Nat)]) (by simp) (fixed_call hm hf hs) ?_
      rintro e w' ⟨v, rfl, h1, h2⟩
      refine ⟨v, rfl, go1 (v := v) rfl (by simp) (wpR_done ?_)⟩
      repeat first | refine retThen ?_ | refine retBlk ?_
      exact ret1 (v := v) (by simp) ⟨v, rfl, h1, h2⟩
    | false =>
      rw [wpC_cond_f (by simp), wpC_skip]
      simp only [thenC, inBlockC]
      rw [wpC_seq, wpC_blk]
      refine go1 (v := .int .i64 (n : Nat)) rfl (by simp) ?_
      refine go1 (v := .int .i64 (size : Nat)) rfl (by simp) ?_
      refine goCall rfl (vs := [.int .i64 (n : Nat), .int .i64 (size : Nat)]) (by simp) (fixed_call hm hf hs) ?_
      rintro e w' ⟨v, rfl, h1, h2⟩
      refine ⟨v, rfl, go1 (v := v) rfl (by simp) (wpR_done ?_)⟩
      exact ret1 (v := v) (by simp) ⟨v, rfl, h1, h2⟩
end
end Go.Msk

namespace Go.Msk
open Go.RowKit
set_option maxRecDepth 100000
def ir_sKnown_1 (_F : Nat → Nat) : IC := (.seq (.blk [⟨some 10, .iad (.tmp 6) (.tmp 8) 8, none⟩,
 ⟨some 11, .ldn (.tmp 10) 8, none⟩,
 ⟨some 5, .alloc [.int .i64 0, .int .i64 0, .int .i64 0, .int .i64 0, .int .i64 0, .int .i64 0, .int .i64 0, .slice none 0 0], none⟩,
 ⟨none, .st (.tmp 5) 8 (.tmp 11), none⟩])
 (.seq (.blk [⟨some 12, .fad (.tmp 5) 4, none⟩,
 ⟨some 13, .ld (.tmp 12), none⟩,
 ⟨some 14, .bin .geq (.tmp 13) (.const (.int .i64 0)), none⟩])
 (.cond (.tmp 14)
 (.blk [⟨some 15, .mv (.tmp 3), none⟩,
 ⟨some 16, .fad (.tmp 5) 4, none⟩,
 ⟨some 17, .ld (.tmp 16), none⟩,
 ⟨some 18, .conv .u32 (.tmp 17), none⟩,
 ⟨some 19, .bin .add (.tmp 18) (.const (.int .u32 1)), none⟩,
 ⟨some 20, .mm true (.tmp 15) (.tmp 19), none⟩,
 ⟨some 3, .mv (.tmp 20), none⟩])
 (.skip))))
def ir_sKnown (F : Nat → Nat) : IC × List RV × Nat := (.seq (.blk [⟨some 2, .mv (.const (.int .u32 0)), none⟩])
 (.seq (.blk [⟨some 3, .mv (.const (.int .u32 0)), none⟩])
 (.seq (.seq (.blk [⟨some 6, .mv (.tmp 0), none⟩,
 ⟨some 7, .len (.tmp 6), none⟩,
 ⟨some 8, .mv (.const (.int .i64 0)), none⟩])
 (.block 0 (.loop (.seq (.blk [⟨some 9, .bin .lss (.tmp 8) (.tmp 7), none⟩])
 (.seq (.cond (.tmp 9)
 (.skip)
 (.exit 0))
 (.seq (.block 1 (ir_sKnown_1 F))
 (.blk [⟨some 21, .bin .add (.tmp 8) (.const (.int .i64 1)), none⟩,
 ⟨some 8, .mv (.tmp 21), none⟩])))))))
 (.seq (.blk [⟨some 22, .mv (.tmp 3), none⟩,
 ⟨some 2, .mv (.tmp 22), none⟩])
 (.ret)))),
 [.tmp 2], 23)
def ir_sUnknown_1 (_F : Nat → Nat) : IC := (.drw [⟨⟨some 23, .mv (.tmp 9), none⟩, false, []⟩,
 ⟨⟨some 24, .mv (.tmp 6), none⟩, false, []⟩,
 ⟨⟨some 25, .len (.tmp 24), none⟩, false, []⟩,
 ⟨⟨some 26, .bin .lss (.tmp 23) (.tmp 25), none⟩, false, []⟩,
 ⟨⟨some 27, .mv (.tmp 26), none⟩, false, []⟩,
 ⟨⟨some 28, .mv (.tmp 6), some (27, true)⟩, false, []⟩,
 ⟨⟨some 29, .mv (.tmp 9), some (27, true)⟩, false, []⟩,
 ⟨⟨some 30, .iad (.tmp 28) (.tmp 29) 2, some (27, true)⟩, false, []⟩,
 ⟨⟨some 31, .fad (.tmp 30) 0, some (27, true)⟩, false, []⟩,
 ⟨⟨some 32, .ld (.tmp 31), some (27, true)⟩, false, []⟩,
 ⟨⟨some 33, .fad (.tmp 8) 0, some (27, true)⟩, false, []⟩,
 ⟨⟨some 34, .ld (.tmp 33), some (27, true)⟩, false, []⟩,
 ⟨⟨some 35, .bin .lss (.tmp 32) (.tmp 34), some (27, true)⟩, false, []⟩,
 ⟨⟨some 36, .pick (.tmp 27) (.tmp 35) (.const (.bool false)), none⟩, false, []⟩]
 [])
def ir_sUnknown_2 (_F : Nat → Nat) : IC := (.drw [⟨⟨some 39, .fad (.tmp 8) 0, none⟩, false, []⟩,
 ⟨⟨some 40, .ld (.tmp 39), none⟩, false, []⟩,
 ⟨⟨some 41, .mv (.tmp 5), none⟩, false, []⟩,
 ⟨⟨some 42, .bin .lss (.tmp 40) (.tmp 41), none⟩, false, []⟩,
 ⟨⟨some 43, .mv (.tmp 42), none⟩, false, []⟩,
 ⟨⟨some 44, .mv (.tmp 9), some (43, false)⟩, false, []⟩,
 ⟨⟨some 45, .mv (.tmp 6), some (43, false)⟩, false, []⟩,
 ⟨⟨some 46, .len (.tmp 45), some (43, false)⟩, false, []⟩,
 ⟨⟨some 47, .bin .lss (.tmp 44) (.tmp 46), some (43, false)⟩, false, []⟩,
 ⟨⟨some 48, .mv (.tmp 47), some (43, false)⟩, false, []⟩,
 ⟨⟨some 49, .mv (.tmp 6), some (48, true)⟩, false, []⟩,
 ⟨⟨some 50, .mv (.tmp 9), some (48, true)⟩, false, []⟩,
 ⟨⟨some 51, .iad (.tmp 49) (.tmp 50) 2, some (48, true)⟩, false, []⟩,
 ⟨⟨some 52, .fad (.tmp 51) 0, some (48, true)⟩, false, []⟩,
 ⟨⟨some 53, .ld (.tmp 52), some (48, true)⟩, false, []⟩,
 ⟨⟨some 54, .fad (.tmp 8) 0, some (48, true)⟩, false, []⟩,
 ⟨⟨some 55, .ld (.tmp 54), some (48, true)⟩, false, []⟩,
 ⟨⟨some 56, .bin .eql (.tmp 53) (.tmp 55), some (48, true)⟩, false, []⟩,
 ⟨⟨some 57, .pick (.tmp 48) (.tmp 56) (.const (.bool false)), some (43, false)⟩, false, []⟩,
 ⟨⟨some 58, .pick (.tmp 43) (.const (.bool true)) (.tmp 57), none⟩, false, []⟩]
 [])
def ir_sUnknown_3 (_F : Nat → Nat) : IC := (.seq (.blk [⟨some 63, .mv (.tmp 6), none⟩,
 ⟨some 64, .len (.tmp 63), none⟩,
 ⟨some 65, .bin .sub (.tmp 64) (.const (.int .i64 1)), none⟩,
 ⟨some 10, .mv (.tmp 65), none⟩])
 (.block 4 (.loop (.seq (.seq (.blk [⟨some 66, .mv (.tmp 10), none⟩,
 ⟨some 67, .mv (.tmp 9), none⟩,
 ⟨some 68, .bin .gtr (.tmp 66) (.tmp 67), none⟩])
 (.cond (.tmp 68)
 (.skip)
 (.exit 4)))
 (.seq (.block 5 (.blk [⟨some 71, .mv (.tmp 6), none⟩,
 ⟨some 72, .mv (.tmp 10), none⟩,
 ⟨some 73, .mv (.tmp 6), none⟩,
 ⟨some 74, .mv (.tmp 10), none⟩,
 ⟨some 75, .bin .sub (.tmp 74) (.const (.int .i64 1)), none⟩,
 ⟨some 76, .iad (.tmp 73) (.tmp 75) 2, none⟩,
 ⟨some 77, .ldn (.tmp 76) 2, none⟩,
 ⟨some 78, .iad (.tmp 71) (.tmp 72) 2, none⟩,
 ⟨none, .st (.tmp 78) 2 (.tmp 77), none⟩]))
 (.blk [⟨some 69, .mv (.tmp 10), none⟩,
 ⟨some 70, .bin .sub (.tmp 69) (.const (.int .i64 1)), none⟩,
 ⟨some 10, .mv (.tmp 70), none⟩]))))))
def ir_sUnknown_4 (F : Nat → Nat) : IC := (.seq (.blk [⟨some 21, .iad (.tmp 17) (.tmp 19) 2, none⟩,
 ⟨some 22, .ldn (.tmp 21) 2, none⟩,
 ⟨some 8, .alloc [.int .u32 0, .slice none 0 0], none⟩,
 ⟨none, .st (.tmp 8) 2 (.tmp 22), none⟩])
 (.seq (.blk [⟨some 9, .mv (.const (.int .i64 0)), none⟩])
 (.seq (.block 2 (.loop (.seq (.seq (ir_sUnknown_1 F)
 (.cond (.tmp 36)
 (.skip)
 (.exit 2)))
 (.block 3 (.blk [⟨some 37, .mv (.tmp 9), none⟩,
 ⟨some 38, .bin .add (.tmp 37) (.const (.int .i64 1)), none⟩,
 ⟨some 9, .mv (.tmp 38), none⟩])))))
 (.seq (.seq (ir_sUnknown_2 F)
 (.cond (.tmp 58)
 (.exit 1)
 (.skip)))
 (.seq (.blk [⟨some 59, .mv (.tmp 6), none⟩,
 ⟨some 60, .build [.int .u32 0, .slice none 0 0] [], none⟩,
 ⟨some 61, .bslice 1 [.int .u32 0, .slice none 0 0] [(0, 2, .tmp 60)], none⟩,
 ⟨some 62, .append (.tmp 59) (.tmp 61) 2 32, none⟩,
 ⟨some 6, .mv (.tmp 62), none⟩])
 (.seq (ir_sUnknown_3 F)
 (.blk [⟨some 79, .mv (.tmp 6), none⟩,
 ⟨some 80, .mv (.tmp 9), none⟩,
 ⟨some 81, .ldn (.tmp 8) 2, none⟩,
 ⟨some 82, .iad (.tmp 79) (.tmp 80) 2, none⟩,
 ⟨none, .st (.tmp 82) 2 (.tmp 81), none⟩])))))))
def ir_sUnknown (F : Nat → Nat) : IC × List RV × Nat := (.seq (.blk [⟨some 4, .mv (.const (.slice none 0 0)), none⟩])
 (.seq (.blk [⟨some 11, .mv (.tmp 0), none⟩,
 ⟨some 12, .call (F sKnown) [.tmp 11], none⟩,
 ⟨some 5, .mv (.tmp 12), none⟩])
 (.seq (.blk [⟨some 6, .mv (.const (.slice none 0 0)), none⟩])
 (.seq (.seq (.blk [⟨some 13, .mv (.tmp 1), none⟩,
 ⟨some 14, .mv (.tmp 1), none⟩,
 ⟨some 15, .len (.tmp 14), none⟩,
 ⟨some 16, .mm false (.tmp 15) (.const (.int .i64 32767)), none⟩,
 ⟨some 17, .slice (.tmp 13) none (some (.tmp 16)) none 2, none⟩,
 ⟨some 18, .len (.tmp 17), none⟩,
 ⟨some 19, .mv (.const (.int .i64 0)), none⟩])
 (.block 0 (.loop (.seq (.blk [⟨some 20, .bin .lss (.tmp 19) (.tmp 18), none⟩])
 (.seq (.cond (.tmp 20)
 (.skip)
 (.exit 0))
 (.seq (.block 1 (ir_sUnknown_4 F))
 (.blk [⟨some 83, .bin .add (.tmp 19) (.const (.int .i64 1)), none⟩,
 ⟨some 19, .mv (.tmp 83), none⟩])))))))
 (.seq (.blk [⟨some 84, .mv (.tmp 6), none⟩,
 ⟨some 4, .mv (.tmp 84), none⟩])
 (.ret))))),
 [.tmp 4], 85)
def ir_sField_1 (F : Nat → Nat) : IC := (.seq (.blk [⟨some 33, .mv (.tmp 31), none⟩,
 ⟨some 12, .mv (.tmp 33), none⟩])
 (.drw [⟨⟨some 34, .mv (.tmp 11), none⟩, false, []⟩,
 ⟨⟨some 35, .fad (.tmp 4) 6, none⟩, false, []⟩,
 ⟨⟨some 36, .ld (.tmp 35), none⟩, false, []⟩,
 ⟨⟨some 37, .fad (.tmp 4) 7, none⟩, false, []⟩,
 ⟨⟨some 38, .ld (.tmp 37), none⟩, false, []⟩,
 ⟨⟨some 39, .mv (.tmp 1), none⟩, false, []⟩,
 ⟨⟨some 40, .mv (.tmp 2), none⟩, false, []⟩,
 ⟨⟨some 41, .mv (.tmp 10), none⟩, false, []⟩,
 ⟨⟨some 42, .mv (.tmp 12), none⟩, false, []⟩,
 ⟨⟨some 43, .iad (.tmp 41) (.tmp 42) 5, none⟩, false, []⟩,
 ⟨⟨some 44, .ldn (.tmp 43) 5, none⟩, false, []⟩,
 ⟨⟨some 45, .call (F sValue) [.tmp 36, .tmp 38, .const (.bool false), .tmp 39, .tmp 40, .tmp 44], none⟩, true, []⟩]
 [⟨some 46, .append (.tmp 34) (.tmp 45) 1 1, none⟩,
 ⟨some 11, .mv (.tmp 46), none⟩]))
def ir_sField_2 (F : Nat → Nat) : IC := (.seq (.blk [⟨some 20, .fad (.tmp 7) 3, none⟩,
 ⟨some 21, .ld (.tmp 20), none⟩,
 ⟨some 22, .call (F sThings) [.tmp 21], none⟩,
 ⟨some 10, .mv (.tmp 22), none⟩])
 (.seq (.seq (.blk [⟨some 23, .mv (.tmp 9), none⟩])
 (.cond (.tmp 23)
 (.blk [⟨some 10, .mv (.const (.slice none 0 0)), none⟩])
 (.skip)))
 (.seq (.blk [⟨some 24, .mv (.tmp 2), none⟩,
 ⟨some 25, .mv (.tmp 9), none⟩,
 ⟨some 26, .mv (.tmp 10), none⟩,
 ⟨some 27, .len (.tmp 26), none⟩,
 ⟨some 28, .call (F sCounted) [.tmp 24, .tmp 25, .tmp 27, .const (.int .i64 4)], none⟩,
 ⟨some 11, .mv (.tmp 28), none⟩])
 (.seq (.seq (.blk [⟨some 29, .mv (.tmp 10), none⟩,
 ⟨some 30, .len (.tmp 29), none⟩,
 ⟨some 31, .mv (.const (.int .i64 0)), none⟩])
 (.block 0 (.loop (.seq (.blk [⟨some 32, .bin .lss (.tmp 31) (.tmp 30), none⟩])
 (.seq (.cond (.tmp 32)
 (.skip)
 (.exit 0))
 (.seq (.block 1 (ir_sField_1 F))
 (.blk [⟨some 47, .bin .add (.tmp 31) (.const (.int .i64 1)), none⟩,
 ⟨some 31, .mv (.tmp 47), none⟩])))))))
 (.seq (.blk [⟨some 48, .mv (.tmp 11), none⟩,
 ⟨some 8, .mv (.tmp 48), none⟩])
 (.ret))))))
def ir_sField_3 (F : Nat → Nat) : IC := (.seq (.seq (.blk [⟨some 57, .mv (.tmp 9), none⟩])
 (.cond (.tmp 57)
 (.seq (.blk [⟨some 58, .call (F sFixed) [.const (.int .i64 (-1)), .const (.int .i64 1)], none⟩,
 ⟨some 8, .mv (.tmp 58), none⟩])
 (.ret))
 (.skip)))
 (.seq (.drw [⟨⟨some 59, .call (F sFixed) [.const (.int .i64 1), .const (.int .i64 1)], none⟩, true, []⟩,
 ⟨⟨some 60, .fad (.tmp 4) 7, none⟩, false, []⟩,
 ⟨⟨some 61, .ld (.tmp 60), none⟩, false, []⟩,
 ⟨⟨some 62, .mv (.tmp 1), none⟩, false, []⟩,
 ⟨⟨some 63, .mv (.tmp 2), none⟩, false, []⟩,
 ⟨⟨some 64, .ldn (.tmp 7) 5, none⟩, false, []⟩,
 ⟨⟨some 65, .call (F sPart) [.tmp 61, .tmp 62, .tmp 63, .tmp 64], none⟩, true, [0]⟩]
 [⟨some 66, .append (.tmp 59) (.tmp 65) 1 1, none⟩,
 ⟨some 8, .mv (.tmp 66), none⟩])
 (.ret)))
def ir_sField (F : Nat → Nat) : IC × List RV × Nat := (.seq (.blk [⟨some 4, .box (.tmp 0), none⟩,
 ⟨some 7, .box (.tmp 3), none⟩,
 ⟨some 8, .mv (.const (.slice none 0 0)), none⟩])
 (.seq (.blk [⟨some 13, .ldn (.tmp 4) 8, none⟩,
 ⟨some 14, .mv (.tmp 1), none⟩,
 ⟨some 15, .ldn (.tmp 7) 5, none⟩,
 ⟨some 16, .call (F sNull) [.tmp 13, .tmp 14, .tmp 15], none⟩,
 ⟨some 9, .mv (.tmp 16), none⟩])
 (.seq (.seq (.blk [⟨some 17, .fad (.tmp 4) 0, none⟩,
 ⟨some 18, .ld (.tmp 17), none⟩,
 ⟨some 19, .bin .eql (.tmp 18) (.const (.int .i64 11)), none⟩])
 (.cond (.tmp 19)
 (ir_sField_2 F)
 (.skip)))
 (.seq (.seq (.blk [⟨some 49, .fad (.tmp 4) 0, none⟩,
 ⟨some 50, .ld (.tmp 49), none⟩,
 ⟨some 51, .bin .eql (.tmp 50) (.const (.int .i64 10)), none⟩,
 ⟨some 52, .mv (.tmp 51), none⟩,
 ⟨some 53, .fad (.tmp 4) 3, some (52, true)⟩,
 ⟨some 54, .ld (.tmp 53), some (52, true)⟩,
 ⟨some 55, .bin .geq (.tmp 54) (.const (.int .i64 0)), some (52, true)⟩,
 ⟨some 56, .pick (.tmp 52) (.tmp 55) (.const (.bool false)), none⟩])
 (.cond (.tmp 56)
 (ir_sField_3 F)
 (.skip)))
 (.seq (.blk [⟨some 67, .fad (.tmp 4) 0, none⟩,
 ⟨some 68, .ld (.tmp 67), none⟩,
 ⟨some 69, .fad (.tmp 4) 7, none⟩,
 ⟨some 70, .ld (.tmp 69), none⟩,
 ⟨some 71, .mv (.tmp 9), none⟩,
 ⟨some 72, .mv (.tmp 1), none⟩,
 ⟨some 73, .mv (.tmp 2), none⟩,
 ⟨some 74, .ldn (.tmp 7) 5, none⟩,
 ⟨some 75, .call (F sValue) [.tmp 68, .tmp 70, .tmp 71, .tmp 72, .tmp 73, .tmp 74], none⟩,
 ⟨some 8, .mv (.tmp 75), none⟩])
 (.ret))))),
 [.tmp 8], 76)
def ir_sPart_1 (F : Nat → Nat) : IC := (.seq (.blk [⟨some 25, .mv (.tmp 23), none⟩,
 ⟨some 26, .iad (.tmp 21) (.tmp 23) 8, none⟩,
 ⟨some 27, .ldn (.tmp 26) 8, none⟩,
 ⟨some 13, .alloc [.int .i64 0, .int .i64 0, .int .i64 0, .int .i64 0, .int .i64 0, .int .i64 0, .int .i64 0, .slice none 0 0], none⟩,
 ⟨some 12, .mv (.tmp 25), none⟩,
 ⟨none, .st (.tmp 13) 8 (.tmp 27), none⟩])
 (.seq (.blk [⟨some 28, .fad (.tmp 13) 4, none⟩,
 ⟨some 29, .ld (.tmp 28), none⟩,
 ⟨some 30, .bin .lss (.tmp 29) (.const (.int .i64 0)), none⟩,
 ⟨some 31, .mv (.tmp 30), none⟩,
 ⟨some 32, .ldn (.tmp 13) 8, some (31, true)⟩,
 ⟨some 33, .mv (.tmp 1), some (31, true)⟩,
 ⟨some 34, .call (F sHas) [.tmp 32, .tmp 33], some (31, true)⟩,
 ⟨some 35, .pick (.tmp 31) (.tmp 34) (.const (.bool false)), none⟩])
 (.cond (.tmp 35)
 (.drw [⟨⟨some 36, .mv (.tmp 9), none⟩, false, []⟩,
 ⟨⟨some 37, .ldn (.tmp 13) 8, none⟩, false, []⟩,
 ⟨⟨some 38, .mv (.tmp 1), none⟩, false, []⟩,
 ⟨⟨some 39, .mv (.tmp 2), none⟩, false, []⟩,
 ⟨⟨some 40, .ldn (.tmp 7) 5, none⟩, false, []⟩,
 ⟨⟨some 41, .mv (.tmp 12), none⟩, false, []⟩,
 ⟨⟨some 42, .call (F sAt) [.tmp 40, .tmp 41], none⟩, true, []⟩,
 ⟨⟨some 43, .call (F sField) [.tmp 37, .tmp 38, .tmp 39, .tmp 42], none⟩, true, [6]⟩]
 [⟨some 44, .append (.tmp 36) (.tmp 43) 1 1, none⟩,
 ⟨some 9, .mv (.tmp 44), none⟩])
 (.skip))))
def ir_sPart_2 (F : Nat → Nat) : IC := (.drw [⟨⟨some 62, .fad (.tmp 16) 4, none⟩, false, []⟩,
 ⟨⟨some 63, .ld (.tmp 62), none⟩, false, []⟩,
 ⟨⟨some 64, .mv (.tmp 14), none⟩, false, []⟩,
 ⟨⟨some 65, .bin .eql (.tmp 63) (.tmp 64), none⟩, false, []⟩,
 ⟨⟨some 66, .mv (.tmp 65), none⟩, false, []⟩,
 ⟨⟨some 67, .ldn (.tmp 16) 8, some (66, true)⟩, false, []⟩,
 ⟨⟨some 68, .ldn (.tmp 7) 5, some (66, true)⟩, false, []⟩,
 ⟨⟨some 69, .mv (.tmp 15), some (66, true)⟩, false, []⟩,
 ⟨⟨some 70, .call (F sAt) [.tmp 68, .tmp 69], some (66, true)⟩, true, []⟩,
 ⟨⟨some 71, .call (F susual_) [.tmp 67, .tmp 70], some (66, true)⟩, true, [8]⟩,
 ⟨⟨some 72, .lnot (.tmp 71), some (66, true)⟩, false, [8, 9]⟩,
 ⟨⟨some 73, .pick (.tmp 66) (.tmp 72) (.const (.bool false)), none⟩, false, [8, 9]⟩]
 [])
def ir_sPart_3 (F : Nat → Nat) : IC := (.seq (.drw [⟨⟨some 74, .ldn (.tmp 16) 8, none⟩, false, []⟩,
 ⟨⟨some 75, .mv (.tmp 1), none⟩, false, []⟩,
 ⟨⟨some 76, .mv (.tmp 2), none⟩, false, []⟩,
 ⟨⟨some 77, .ldn (.tmp 7) 5, none⟩, false, []⟩,
 ⟨⟨some 78, .mv (.tmp 15), none⟩, false, []⟩,
 ⟨⟨some 79, .call (F sAt) [.tmp 77, .tmp 78], none⟩, true, []⟩,
 ⟨⟨some 80, .call (F sField) [.tmp 74, .tmp 75, .tmp 76, .tmp 79], none⟩, true, [5]⟩,
 ⟨⟨some 17, .mv (.tmp 80), none⟩, false, [5, 6]⟩]
 [])
 (.seq (.blk [⟨some 81, .mv (.tmp 10), none⟩,
 ⟨some 82, .mv (.tmp 14), none⟩,
 ⟨some 83, .conv .u64 (.tmp 82), none⟩,
 ⟨some 84, .call (F sUvarint) [.tmp 83], none⟩,
 ⟨some 85, .append (.tmp 81) (.tmp 84) 1 1, none⟩,
 ⟨some 86, .mv (.tmp 17), none⟩,
 ⟨some 87, .len (.tmp 86), none⟩,
 ⟨some 88, .conv .u64 (.tmp 87), none⟩,
 ⟨some 89, .call (F sUvarint) [.tmp 88], none⟩,
 ⟨some 90, .append (.tmp 85) (.tmp 89) 1 1, none⟩,
 ⟨some 91, .mv (.tmp 17), none⟩,
 ⟨some 92, .append (.tmp 90) (.tmp 91) 1 1, none⟩,
 ⟨some 10, .mv (.tmp 92), none⟩])
 (.blk [⟨some 93, .mv (.tmp 11), none⟩,
 ⟨some 94, .bin .add (.tmp 93) (.const (.int .i64 1)), none⟩,
 ⟨some 11, .mv (.tmp 94), none⟩])))
def ir_sPart_4 (F : Nat → Nat) : IC := (.seq (.blk [⟨some 54, .mv (.tmp 52), none⟩,
 ⟨some 14, .mv (.tmp 54), none⟩])
 (.seq (.blk [⟨some 55, .mv (.tmp 0), none⟩,
 ⟨some 56, .len (.tmp 55), none⟩,
 ⟨some 57, .mv (.const (.int .i64 0)), none⟩])
 (.block 4 (.loop (.seq (.blk [⟨some 58, .bin .lss (.tmp 57) (.tmp 56), none⟩])
 (.seq (.cond (.tmp 58)
 (.skip)
 (.exit 4))
 (.seq (.block 5 (.seq (.blk [⟨some 59, .mv (.tmp 57), none⟩,
 ⟨some 60, .iad (.tmp 55) (.tmp 57) 8, none⟩,
 ⟨some 61, .ldn (.tmp 60) 8, none⟩,
 ⟨some 16, .alloc [.int .i64 0, .int .i64 0, .int .i64 0, .int .i64 0, .int .i64 0, .int .i64 0, .int .i64 0, .slice none 0 0], none⟩,
 ⟨some 15, .mv (.tmp 59), none⟩,
 ⟨none, .st (.tmp 16) 8 (.tmp 61), none⟩])
 (.seq (ir_sPart_2 F)
 (.cond (.tmp 73)
 (ir_sPart_3 F)
 (.skip)))))
 (.blk [⟨some 95, .bin .add (.tmp 57) (.const (.int .i64 1)), none⟩,
 ⟨some 57, .mv (.tmp 95), none⟩]))))))))
def ir_sPart_5 (F : Nat → Nat) : IC := (.seq (.blk [⟨some 104, .iad (.tmp 100) (.tmp 102) 2, none⟩,
 ⟨some 105, .ldn (.tmp 104) 2, none⟩,
 ⟨some 19, .alloc [.int .u32 0, .slice none 0 0], none⟩,
 ⟨none, .st (.tmp 19) 2 (.tmp 105), none⟩])
 (.seq (.blk [⟨some 106, .fad (.tmp 19) 1, none⟩,
 ⟨some 107, .ld (.tmp 106), none⟩,
 ⟨some 108, .call (F sWhole) [.tmp 107], none⟩,
 ⟨some 20, .mv (.tmp 108), none⟩])
 (.seq (.blk [⟨some 109, .mv (.tmp 10), none⟩,
 ⟨some 110, .fad (.tmp 19) 0, none⟩,
 ⟨some 111, .ld (.tmp 110), none⟩,
 ⟨some 112, .conv .u64 (.tmp 111), none⟩,
 ⟨some 113, .call (F sUvarint) [.tmp 112], none⟩,
 ⟨some 114, .append (.tmp 109) (.tmp 113) 1 1, none⟩,
 ⟨some 115, .mv (.tmp 20), none⟩,
 ⟨some 116, .len (.tmp 115), none⟩,
 ⟨some 117, .conv .u64 (.tmp 116), none⟩,
 ⟨some 118, .call (F sUvarint) [.tmp 117], none⟩,
 ⟨some 119, .append (.tmp 114) (.tmp 118) 1 1, none⟩,
 ⟨some 120, .mv (.tmp 20), none⟩,
 ⟨some 121, .append (.tmp 119) (.tmp 120) 1 1, none⟩,
 ⟨some 10, .mv (.tmp 121), none⟩])
 (.blk [⟨some 122, .mv (.tmp 11), none⟩,
 ⟨some 123, .bin .add (.tmp 122) (.const (.int .i64 1)), none⟩,
 ⟨some 11, .mv (.tmp 123), none⟩]))))
def ir_sPart (F : Nat → Nat) : IC × List RV × Nat := (.seq (.blk [⟨some 7, .box (.tmp 3), none⟩,
 ⟨some 8, .mv (.const (.slice none 0 0)), none⟩])
 (.seq (.blk [⟨some 9, .mv (.const (.slice none 0 0)), none⟩,
 ⟨some 10, .mv (.const (.slice none 0 0)), none⟩])
 (.seq (.blk [⟨some 11, .mv (.const (.int .i64 0)), none⟩])
 (.seq (.seq (.blk [⟨some 21, .mv (.tmp 0), none⟩,
 ⟨some 22, .len (.tmp 21), none⟩,
 ⟨some 23, .mv (.const (.int .i64 0)), none⟩])
 (.block 0 (.loop (.seq (.blk [⟨some 24, .bin .lss (.tmp 23) (.tmp 22), none⟩])
 (.seq (.cond (.tmp 24)
 (.skip)
 (.exit 0))
 (.seq (.block 1 (ir_sPart_1 F))
 (.blk [⟨some 45, .bin .add (.tmp 23) (.const (.int .i64 1)), none⟩,
 ⟨some 23, .mv (.tmp 45), none⟩])))))))
 (.seq (.seq (.blk [⟨some 46, .mv (.tmp 2), none⟩,
 ⟨some 47, .lnot (.tmp 46), none⟩])
 (.cond (.tmp 47)
 (.seq (.blk [⟨some 48, .mv (.tmp 9), none⟩,
 ⟨some 8, .mv (.tmp 48), none⟩])
 (.ret))
 (.skip)))
 (.seq (.seq (.blk [⟨some 49, .mv (.tmp 0), none⟩,
 ⟨some 50, .call (F sKnown) [.tmp 49], none⟩,
 ⟨some 51, .conv .i64 (.tmp 50), none⟩,
 ⟨some 52, .mv (.const (.int .i64 0)), none⟩])
 (.block 2 (.loop (.seq (.blk [⟨some 53, .bin .lss (.tmp 52) (.tmp 51), none⟩])
 (.seq (.cond (.tmp 53)
 (.skip)
 (.exit 2))
 (.seq (.block 3 (ir_sPart_4 F))
 (.blk [⟨some 96, .bin .add (.tmp 52) (.const (.int .i64 1)), none⟩,
 ⟨some 52, .mv (.tmp 96), none⟩])))))))
 (.seq (.seq (.blk [⟨some 97, .mv (.tmp 0), none⟩,
 ⟨some 98, .fad (.tmp 7) 4, none⟩,
 ⟨some 99, .ld (.tmp 98), none⟩,
 ⟨some 100, .call (F sUnknown) [.tmp 97, .tmp 99], none⟩,
 ⟨some 101, .len (.tmp 100), none⟩,
 ⟨some 102, .mv (.const (.int .i64 0)), none⟩])
 (.block 6 (.loop (.seq (.blk [⟨some 103, .bin .lss (.tmp 102) (.tmp 101), none⟩])
 (.seq (.cond (.tmp 103)
 (.skip)
 (.exit 6))
 (.seq (.block 7 (ir_sPart_5 F))
 (.blk [⟨some 124, .bin .add (.tmp 102) (.const (.int .i64 1)), none⟩,
 ⟨some 102, .mv (.tmp 124), none⟩])))))))
 (.seq (.blk [⟨some 125, .mv (.tmp 9), none⟩,
 ⟨some 126, .mv (.tmp 11), none⟩,
 ⟨some 127, .conv .u64 (.tmp 126), none⟩,
 ⟨some 128, .call (F sUvarint) [.tmp 127], none⟩,
 ⟨some 129, .append (.tmp 125) (.tmp 128) 1 1, none⟩,
 ⟨some 130, .mv (.tmp 10), none⟩,
 ⟨some 131, .append (.tmp 129) (.tmp 130) 1 1, none⟩,
 ⟨some 8, .mv (.tmp 131), none⟩])
 (.ret)))))))),
 [.tmp 8], 132)
def ir_sWrite (F : Nat → Nat) : IC × List RV × Nat := (.seq (.blk [⟨some 3, .box (.tmp 0), none⟩,
 ⟨some 5, .box (.tmp 2), none⟩,
 ⟨some 6, .mv (.const (.slice none 0 0)), none⟩])
 (.seq (.blk [⟨some 7, .fad (.tmp 3) 0, none⟩,
 ⟨some 8, .ld (.tmp 7), none⟩,
 ⟨some 9, .mv (.tmp 1), none⟩,
 ⟨some 10, .fad (.tmp 3) 1, none⟩,
 ⟨some 11, .ld (.tmp 10), none⟩,
 ⟨some 12, .bin .geq (.tmp 11) (.const (.int .i64 0)), none⟩,
 ⟨some 13, .mv (.tmp 12), none⟩,
 ⟨some 14, .mv (.tmp 1), some (13, true)⟩,
 ⟨some 15, .fad (.tmp 3) 1, some (13, true)⟩,
 ⟨some 16, .ld (.tmp 15), some (13, true)⟩,
 ⟨some 17, .bin .geq (.tmp 14) (.tmp 16), some (13, true)⟩,
 ⟨some 18, .pick (.tmp 13) (.tmp 17) (.const (.bool false)), none⟩,
 ⟨some 19, .ldn (.tmp 5) 5, none⟩,
 ⟨some 20, .call (F sPart) [.tmp 8, .tmp 9, .tmp 18, .tmp 19], none⟩,
 ⟨some 6, .mv (.tmp 20), none⟩])
 (.ret)),
 [.tmp 6], 21)
def ir_sValue_1 (F : Nat → Nat) : IC := (.seq (.blk [⟨some 34, .fad (.tmp 11) 1, none⟩,
 ⟨some 35, .ld (.tmp 34), none⟩,
 ⟨some 36, .call (F sWhole) [.tmp 35], none⟩,
 ⟨some 14, .mv (.tmp 36), none⟩])
 (.seq (.seq (.blk [⟨some 37, .mv (.tmp 2), none⟩])
 (.cond (.tmp 37)
 (.blk [⟨some 14, .mv (.const (.slice none 0 0)), none⟩])
 (.skip)))
 (.seq (.blk [⟨some 38, .mv (.tmp 4), none⟩,
 ⟨some 39, .mv (.tmp 2), none⟩,
 ⟨some 40, .mv (.tmp 14), none⟩,
 ⟨some 41, .len (.tmp 40), none⟩,
 ⟨some 42, .call (F sCounted) [.tmp 38, .tmp 39, .tmp 41, .const (.int .i64 2)], none⟩,
 ⟨some 43, .mv (.tmp 14), none⟩,
 ⟨some 44, .append (.tmp 42) (.tmp 43) 1 1, none⟩,
 ⟨some 12, .mv (.tmp 44), none⟩])
 (.ret))))
def ir_sValue_2 (F : Nat → Nat) : IC := (.seq (.blk [⟨some 47, .fad (.tmp 11) 1, none⟩,
 ⟨some 48, .ld (.tmp 47), none⟩,
 ⟨some 49, .call (F sWhole) [.tmp 48], none⟩,
 ⟨some 15, .mv (.tmp 49), none⟩])
 (.seq (.seq (.blk [⟨some 50, .mv (.tmp 2), none⟩])
 (.cond (.tmp 50)
 (.blk [⟨some 15, .mv (.const (.slice none 0 0)), none⟩])
 (.skip)))
 (.seq (.blk [⟨some 51, .mv (.tmp 4), none⟩,
 ⟨some 52, .mv (.tmp 2), none⟩,
 ⟨some 53, .mv (.tmp 15), none⟩,
 ⟨some 54, .len (.tmp 53), none⟩,
 ⟨some 55, .call (F sCounted) [.tmp 51, .tmp 52, .tmp 54, .const (.int .i64 4)], none⟩,
 ⟨some 56, .mv (.tmp 15), none⟩,
 ⟨some 57, .append (.tmp 55) (.tmp 56) 1 1, none⟩,
 ⟨some 12, .mv (.tmp 57), none⟩])
 (.ret))))
def ir_sValue_3 (F : Nat → Nat) : IC := (.seq (.blk [⟨some 33, .bin .eql (.tmp 16) (.const (.int .i64 8)), none⟩,
 ⟨some 32, .mv (.tmp 33), none⟩])
 (.cond (.tmp 32)
 (ir_sValue_1 F)
 (.seq (.blk [⟨some 46, .bin .eql (.tmp 16) (.const (.int .i64 9)), none⟩,
 ⟨some 45, .mv (.tmp 46), none⟩])
 (.cond (.tmp 45)
 (ir_sValue_2 F)
 (.seq (.blk [⟨some 59, .bin .eql (.tmp 16) (.const (.int .i64 10)), none⟩,
 ⟨some 58, .mv (.tmp 59), none⟩])
 (.cond (.tmp 58)
 (.seq (.blk [⟨some 60, .mv (.tmp 1), none⟩,
 ⟨some 61, .mv (.tmp 3), none⟩,
 ⟨some 62, .mv (.tmp 4), none⟩,
 ⟨some 63, .ldn (.tmp 11) 5, none⟩,
 ⟨some 64, .call (F sPart) [.tmp 60, .tmp 61, .tmp 62, .tmp 63], none⟩,
 ⟨some 12, .mv (.tmp 64), none⟩])
 (.ret))
 (.skip)))))))
def ir_sValue_4 (F : Nat → Nat) : IC := (.seq (.blk [⟨some 18, .bin .eql (.tmp 16) (.const (.int .i64 0)), none⟩,
 ⟨some 17, .mv (.tmp 18), none⟩])
 (.cond (.tmp 17)
 (.seq (.blk [⟨some 19, .fad (.tmp 11) 0, none⟩,
 ⟨some 20, .ld (.tmp 19), none⟩,
 ⟨some 21, .bin .and (.tmp 20) (.const (.int .i64 1)), none⟩,
 ⟨some 22, .conv .u8 (.tmp 21), none⟩,
 ⟨some 23, .bslice 1 [.int .u8 0] [(0, 1, .tmp 22)], none⟩,
 ⟨some 12, .mv (.tmp 23), none⟩])
 (.ret))
 (.seq (.blk [⟨some 25, .bin .eql (.tmp 16) (.const (.int .i64 7)), none⟩,
 ⟨some 24, .mv (.tmp 25), none⟩])
 (.cond (.tmp 24)
 (.seq (.blk [⟨some 26, .mkslice (.const (.int .i64 16)) (.const (.int .i64 16)) 1 [.int .u8 0], none⟩,
 ⟨some 13, .mv (.tmp 26), none⟩])
 (.seq (.blk [⟨some 27, .mv (.tmp 13), none⟩,
 ⟨some 28, .fad (.tmp 11) 1, none⟩,
 ⟨some 29, .ld (.tmp 28), none⟩,
 ⟨some 30, .copy (.tmp 27) (.tmp 29) 1, none⟩])
 (.seq (.blk [⟨some 31, .mv (.tmp 13), none⟩,
 ⟨some 12, .mv (.tmp 31), none⟩])
 (.ret))))
 (ir_sValue_3 F)))))
def ir_sValue (F : Nat → Nat) : IC × List RV × Nat := (.seq (.blk [⟨some 11, .box (.tmp 5), none⟩,
 ⟨some 12, .mv (.const (.slice none 0 0)), none⟩])
 (.seq (.seq (.blk [⟨some 16, .mv (.tmp 0), none⟩])
 (.block 0 (ir_sValue_4 F)))
 (.seq (.drw [⟨⟨some 65, .fad (.tmp 11) 0, none⟩, false, []⟩,
 ⟨⟨some 66, .ld (.tmp 65), none⟩, false, []⟩,
 ⟨⟨some 67, .mv (.tmp 0), none⟩, false, []⟩,
 ⟨⟨some 68, .call (F sWidth) [.tmp 67], none⟩, true, []⟩,
 ⟨⟨some 69, .call (F sFixed) [.tmp 66, .tmp 68], none⟩, true, [3]⟩,
 ⟨⟨some 12, .mv (.tmp 69), none⟩, false, [3, 4]⟩]
 [])
 (.ret))),
 [.tmp 12], 70)
end Go.Msk
