/- A small language of resolved operations, and what the generic and the generated functions do in it (part 14). -/
import Derived.Test.YtljndbdfoiagpaaGreatDoorFm

namespace Go.Msk
open Go.RowKit
set_option maxRecDepth 100000
theorem flatMap_take_le {α : Type} (f : α → List UInt8) (l : List α) (j : Nat) : ((l.take j).flatMap f).length ≤ (l.flatMap f).length := by
  have e : l.flatMap f = (l.take j).flatMap f ++ (l.drop j).flatMap f := by rw [← List.flatMap_append, List.take_append_drop]
  rw [e, List.length_append]; omega
theorem flatMap_snoc {α : Type} {f : α → List UInt8} {l : List α} {j : Nat} {x : α} (h : l[j]? = some x) : (l.take (j + 1)).flatMap f = (l.take j).flatMap f ++ f x := by
  rw [take_succ_of h, List.flatMap_append]; simp
section
variable {P : Program} {F : Nat → Nat}
attribute [local simp] gOk updo upd ev RK.val? isShift intBin Addr.add_mk args0 Value.cells undef
def FieldC (P : Program) (F : Nat → Nat) (ver : Int) (flex : Bool) (f : FD) : Prop :=
  ∀ (w : World) (cs : List Value) (t : TR) (ts : List Value), RepF anyB w f cs → RepT anyB w t ts → t.kok → (f.enc ver flex t).length ≤ lim →
    Calls P (F sField) [.agg cs.toArray, .int .i64 ver, .bool flex, .agg ts.toArray].toArray w (BytesR w (f.enc ver flex t))
structure FldS (w0 : World) (fb tb : Nat) (ver : Int) (flex nl : Bool) (fcs tcs : List Value) (σ : Sl) : Prop where
  bf : Blk w0 fb fcs
  bt : Blk w0 tb tcs
  s1 : σ 1 = .int .i64 ver
  s2 : σ 2 = .bool flex
  s4 : σ 4 = .pointer (some ⟨fb, 0, none⟩)
  s7 : σ 7 = .pointer (some ⟨tb, 0, none⟩)
  s9 : σ 9 = .bool nl
theorem FldS.keep {w0 : World} {fb tb : Nat} {ver : Int} {flex nl : Bool} {fcs tcs : List Value} {σ σ' : Sl} (h : FldS w0 fb tb ver flex nl fcs tcs σ) (hs : ∀ s, s < 10 → σ' s = σ s) : FldS w0 fb tb ver flex nl fcs tcs σ' :=
  ⟨h.bf, h.bt, (hs 1 (by omega)).trans h.s1, (hs 2 (by omega)).trans h.s2, (hs 4 (by omega)).trans h.s4, (hs 7 (by omega)).trans h.s7, (hs 9 (by omega)).trans h.s9⟩
theorem field_elem {w0 w : World} {fb tb j n c : Nat} {ver : Int} {flex nl : Bool} {kind frm to null tag dfl of : Int} {sub : List FD} {sv : Value} {css : List (List Value)} {tcs xs : List Value} {σ : Sl} {x : TR} {a : Addr} {out : List UInt8} {Q : Exit → Sl → World → Prop}
    (hS : FldS w0 fb tb ver flex nl [.int .i64 kind, .int .i64 frm, .int .i64 to, .int .i64 null, .int .i64 tag, .int .i64 dfl, .int .i64 of, sv] tcs σ) (hm0 : Mod [] w0 w) (hsv : SlC anyB w0 sv sub.length css.flatten) (hr : RepFL anyB w0 sub css) (hx : RepT anyB w0 x xs) (hk : x.kok)
    (h10 : σ 10 = .slice (some a) n c) (h31 : σ 31 = .int .i64 (j : Nat)) (hj : j < n) (hcell : cellsAt w0 (a.add (j * 5)) 0 5 = some xs) (h11 : DRaw w w0.heap.size (σ 11) out) (hV : ValC P F ver flex of sub)
    (hlen : (out ++ valP flex of (partP ver flex sub) false x).length ≤ lim)
    (hQ : ∀ σ' w', (∀ s, s < 32 → s ≠ 11 → s ≠ 12 → σ' s = σ s) → DRaw w' w0.heap.size (σ' 11) (out ++ valP flex of (partP ver flex sub) false x) → Mod [] w0 w' → Q .normal σ' w') : wpC P (ir_sField_1 F) Q σ w := by
  unfold ir_sField_1
  rw [wpC_seq, wpC_blk]
  refine go1 (v := .int .i64 (j : Nat)) rfl (by simp [h31]) ?_
  refine go1 (v := .int .i64 (j : Nat)) rfl (by simp) (wpR_done ?_)
  simp only [wpC]
  have hmd : Mod [] w0 w.drew := hm0.trans (Mod.drew _ _)
  have c1 := fun k => (hS.bf.mod hmd (by simp)).cell k
  have hcell1 := cellsAt_below hmd.below _ _ _ hcell
  have e1 := hS.s1
  have e2 := hS.s2
  have e4 := hS.s4
  refine wpD_of_B (fun i v w' => match i with | 11 => DRaw w' w0.heap.size v (valP flex of (partP ver flex sub) false x) | _ => True) (by
    intro i v w w' h hm
    split at h
    · exact h.keep hm
    · trivial) ?_
  refine bo1 (v := σ 11) rfl (by simp) ?_
  refine bo1 (v := .pointer (some ⟨fb, 6, none⟩)) rfl (by simp [e4]) ?_
  refine bo1 (v := .int .i64 of) rfl (by simp [c1]) ?_
  refine bo1 (v := .pointer (some ⟨fb, 7, none⟩)) rfl (by simp [e4]) ?_
  refine bo1 (v := sv) rfl (by simp [c1]) ?_
  refine bo1 (v := .int .i64 ver) rfl (by simp [e1]) ?_
  refine bo1 (v := .bool flex) rfl (by simp [e2]) ?_
  refine bo1 (v := .slice (some a) n c) rfl (by simp [h10]) ?_
  refine bo1 (v := .int .i64 (j : Nat)) rfl (by simp) ?_
  refine bo1 (v := .pointer (some (a.add (j * 5)))) rfl (by simp [hj]) ?_
  refine bo1 (v := .agg xs.toArray) rfl (by simp [hcell1]) ?_
  refine boCall (vs := [.int .i64 of, sv, .bool false, .int .i64 ver, .bool flex, .agg xs.toArray]) rfl (by simp) (fun w' hm' _ =>
    (hV w' sv css x xs false (hsv.keep (hmd.trans hm')) (hr.keep (hmd.trans hm')) (hx.keep (hmd.trans hm')) hk (by simp only [List.length_append] at hlen; omega)).mono ?_) ?_
  · rintro e w'' ⟨v, rfl, hd, hm2⟩
    exact ⟨v, rfl, hm2, hd.low (hmd.trans hm').size⟩
  rintro v ⟨_, -⟩
  intro w' hm' hkn
  have hk11 := known_get (j := 11) (t := 45) hkn (by simp) rfl rfl rfl rfl
  have hv : DRaw w' w0.heap.size v (valP flex of (partP ver flex sub) false x) := by simpa using hk11
  have hmw := hmd.trans hm'
  have hdr : DRaw w' w0.heap.size (σ 11) out := h11.keep ((Mod.drew _ _).trans hm')
  refine goC rfl ?_
  refine append_run (n0 := w0.heap.size) (v := σ 11) (by simp) hdr hmw.size (k := valP flex of (partP ver flex sub) false x) (by simpa using hv.src) (by simpa using hlen) fun v' w2 ha => ?_
  refine go1 (v := v') rfl (by simp) (goEnd ?_)
  refine hQ _ w2 (fun s h1 h2 h3 => ?_) (by simpa using ha.raw) (ha.mod0 hdr hmw)
  simp only [updo, upd]
  repeat rw [if_neg (by omega)]
theorem field_list (hm : P.follows .mixedOrders = true) (ht : liftF P (F sThings) = some (ir_sThings F)) (hc : liftF P (F sCounted) = some (ir_sCounted F)) (hu : liftF P (F sUvarint) = some (ir_sUvarint F)) (hf : liftF P (F sFixed) = some (ir_sFixed F))
    {w0 w : World} {fb tb : Nat} {ver : Int} {flex nl : Bool} {kind frm to null tag dfl of : Int} {sub : List FD} {sv tsv lv uv : Value} {css tss : List (List Value)} {tn : Int} {tb' : Bool} {l : List TR} {σ : Sl} {Q : Exit → Sl → World → Prop}
    (hS : FldS w0 fb tb ver flex nl [.int .i64 kind, .int .i64 frm, .int .i64 to, .int .i64 null, .int .i64 tag, .int .i64 dfl, .int .i64 of, sv] [.int .i64 tn, tsv, .bool tb', lv, uv] σ) (hm0 : Mod [] w0 w) (hsv : SlC anyB w0 sv sub.length css.flatten) (hr : RepFL anyB w0 sub css)
    (hlv : SlC anyB w0 lv l.length tss.flatten) (hl : RepTL anyB w0 l tss) (hk : TR.kokL l) (hV : ValC P F ver flex of sub)
    (hlen : (countedP flex nl (if nl then [] else l.take 32767).length 4 ++ (if nl then [] else l.take 32767).flatMap (valP flex of (partP ver flex sub) false)).length ≤ lim)
    (hQ : ∀ σ' w' v, σ' 8 = v → DRaw w' w0.heap.size v (countedP flex nl (if nl then [] else l.take 32767).length 4 ++ (if nl then [] else l.take 32767).flatMap (valP flex of (partP ver flex sub) false)) → Mod [] w0 w' → Q .ret σ' w') : wpC P (ir_sField_2 F) Q σ w := by
  unfold ir_sField_2
  have c1 := fun k => (hS.bt.mod hm0 (by simp)).cell k
  have e7 := hS.s7
  rw [wpC_seq, wpC_blk]
  refine go1 (v := .pointer (some ⟨tb, 3, none⟩)) rfl (by simp [e7]) ?_
  refine go1 (v := lv) rfl (by simp [c1]) ?_
  refine goCall rfl (vs := [lv]) (by simp) (things_call hm ht (hlv.keep hm0) (hl.keep hm0)) ?_
  rintro e w1 ⟨ew, v1, rfl, hv1, hl1⟩
  rw [ew]
  refine ⟨v1, rfl, go1 (v := v1) rfl (by simp) (wpR_done ?_)⟩
  rw [wpC_seq, wpC_seq, wpC_blk]
  have e9 := hS.s9
  refine go1 (v := .bool nl) rfl (by simp [e9]) (wpR_done ?_)
  have key : ∀ σ1 v2 xss, (∀ s, s < 10 → σ1 s = σ s) → σ1 10 = v2 → SlC anyB w v2 (if nl then [] else l.take 32767).length xss.flatten → RepTL anyB w (if nl then [] else l.take 32767) xss →
      wpC P (.seq (.blk [⟨(some (24)), .mv (.tmp 2), none⟩, ⟨(some (25)), .mv (.tmp 9), none⟩, ⟨(some (26)), .mv (.tmp 10), none⟩, ⟨(some (27)), .len (.tmp 26), none⟩,
          ⟨(some (28)), .call (F sCounted) [.tmp 24, .tmp 25, .tmp 27, .const (.int .i64 4)], none⟩, ⟨(some (11)), .mv (.tmp 28), none⟩])
      (.seq (.seq (.blk [⟨(some (29)), .mv (.tmp 10), none⟩, ⟨(some (30)), .len (.tmp 29), none⟩, ⟨(some (31)), .mv (.const (.int .i64 0)), none⟩])
        (.block 0 (.loop (.seq (.blk [⟨(some (32)), .bin .lss (.tmp 31) (.tmp 30), none⟩])
            (.seq (.cond (.tmp 32)
                (.skip)
                (.exit 0))
            (.seq (.block 1 (ir_sField_1 F))
            (.blk [⟨(some (47)), .bin .add (.tmp 31) (.const (.int .i64 1)), none⟩,
              ⟨(some (31)), .mv (.tmp 47), none⟩])))))))
      (.seq (.blk [⟨(some (48)), .mv (.tmp 11), none⟩,
          ⟨(some (8)), .mv (.tmp 48), none⟩])
      (.ret)))) Q σ1 w := by
    intro σ1 v2 xss hfr k10 hv2 hx2
    have hkx : TR.kokL (if nl then [] else l.take 32767) := by
      cases nl with
      | true => simp [TR.kokL]
      | false =>
        simp only [Bool.false_eq_true, if_false]
        have : ∀ (l : List TR) (k : Nat), TR.kokL l → TR.kokL (l.take k) := by
          intro l
          induction l with
          | nil => intro k _; simp [TR.kokL]
          | cons a l ih =>
            intro k h
            cases k with
            | zero => simp [TR.kokL]
            | succ k => simp only [List.take_succ_cons, TR.kokL] at h ⊢; exact ⟨h.1, ih k h.2⟩
        exact this l 32767 hk
    generalize hL : (if nl = true then [] else l.take 32767) = L at *
    have hLl : L.length ≤ 32767 := by rw [← hL]; cases nl <;> simp; omega
    obtain ⟨vb, vc, ev2⟩ := hv2.shape
    rw [wpC_seq, wpC_blk]
    refine go1 (v := .bool flex) rfl (by simp [hfr, hS.s2]) ?_
    refine go1 (v := .bool nl) rfl (by simp [hfr, hS.s9]) ?_
    refine go1 (v := v2) rfl (by simp [k10]) ?_
    refine go1 (v := .int .i64 (L.length : Nat)) rfl (by simp [ev2]) ?_
    refine goCall rfl (vs := [.bool flex, .bool nl, .int .i64 (L.length : Nat), .int .i64 ((4 : Nat) : Int)]) (by simp) (counted_call hm hc hu hf (by omega) (by omega)) ?_
    rintro e w2 ⟨v3, rfl, hd, hm2⟩
    have hm02 := hm0.trans hm2
    refine ⟨v3, rfl, go1 (v := v3) rfl (by simp) (wpR_done ?_)⟩
    rw [wpC_seq, wpC_seq, wpC_blk]
    refine go1 (v := v2) rfl (by simp [k10]) ?_
    refine go1 (v := .int .i64 (L.length : Nat)) rfl (by simp [ev2]) ?_
    refine go1 rfl rfl (wpR_done ?_)
    -- the facts of the list hold from the world before on
    refine rangeLoop (n := L.length) (fun j σ' w' => σ' 10 = v2 ∧ σ' 31 = .int .i64 (j : Nat) ∧ σ' 30 = .int .i64 (L.length : Nat) ∧ (∀ s, s < 10 → σ' s = σ s) ∧ DRaw w' w.heap.size (σ' 11) (countedP flex nl L.length 4 ++ (L.take j).flatMap (valP flex of (partP ver flex sub) false)) ∧ Mod [] w w')
      (by omega) (by omega) (fun j σ w h => ⟨h.2.1, h.2.2.1⟩) ?_ ?_ ?_
    · refine ⟨by simp [k10], by simp, by simp, fun s hs => ?_, by simpa using hd, hm2⟩
      rw [← hfr s hs]
      simp only [updo, upd]
      repeat rw [if_neg (by omega)]
    · rintro j σ2 w3 hj ⟨q10, q31, q30, qfr, qd, qm⟩
      obtain ⟨x, hx⟩ : ∃ x, L[j]? = some x := ⟨_, List.getElem?_eq_getElem hj⟩
      obtain ⟨xs, hxs, hxr⟩ := hx2.nth hx
      obtain ⟨a, c, ea, hjn, hcell⟩ := hv2.flat hx2.length hx2.five hxs
      have hxm := List.mem_of_getElem? hx
      have hlj : (countedP flex nl L.length 4 ++ (L.take j).flatMap (valP flex of (partP ver flex sub) false) ++ valP flex of (partP ver flex sub) false x).length ≤ lim := by
        have := flatMap_take_le (valP flex of (partP ver flex sub) false) L (j + 1)
        rw [flatMap_snoc hx] at this
        simp only [List.length_append] at this hlen ⊢
        omega
      have hSw : FldS w fb tb ver flex nl [.int .i64 kind, .int .i64 frm, .int .i64 to, .int .i64 null, .int .i64 tag, .int .i64 dfl, .int .i64 of, sv] [.int .i64 tn, tsv, .bool tb', lv, uv] (upd σ2 32 (.bool true)) :=
        FldS.keep ⟨hS.bf.mod hm0 (by simp), hS.bt.mod hm0 (by simp), hS.s1, hS.s2, hS.s4, hS.s7, hS.s9⟩ fun s hs => by rw [upd_ne _ _ (by omega)]; exact qfr s hs
      refine field_elem (w0 := w) (n := L.length) (c := c) (a := a) (x := x) (xs := xs) hSw qm (hsv.keep hm0) (hr.keep hm0) hxr (TR.kokL_mem hkx x hxm) (by simp [q10, ea]) (by simp [q31]) hj hcell (by simpa using qd) hV hlj fun σ' w' hf' hd' hm' => ?_
      simp only [rngP]
      have g : ∀ s, s < 32 → s ≠ 11 → s ≠ 12 → σ' s = σ2 s := fun s h1 h2 h3 => by rw [hf' s h1 h2 h3, upd_ne _ _ (by omega)]
      refine ⟨by rw [g 31 (by omega) (by omega) (by omega)]; exact q31, ?_, by simp, ?_, fun s hs => ?_, ?_, hm'⟩
      · simp only [upd]; rw [if_neg (by omega), if_neg (by omega), g 10 (by omega) (by omega) (by omega)]; exact q10
      · simp only [upd]; rw [if_neg (by omega), if_neg (by omega), g 30 (by omega) (by omega) (by omega)]; exact q30
      · simp only [upd]; rw [if_neg (by omega), if_neg (by omega), g s (by omega) (by omega) (by omega)]; exact qfr s hs
      · rw [flatMap_snoc hx, ← List.append_assoc]
        simpa [upd] using hd'
    · rintro σ2 w3 ⟨q10, q31, q30, qfr, qd, qm⟩
      simp only [thenC]
      rw [wpC_seq, wpC_blk]
      refine go1 (v := σ2 11) rfl (by simp) ?_
      refine go1 (v := σ2 11) rfl (by simp) (wpR_done ?_)
      refine hQ _ w3 (σ2 11) (by simp) ?_ (hm0.trans qm)
      rw [List.take_of_length_le (Nat.le_refl _)] at qd
      exact qd.low hm0.size
  cases nl with
  | true =>
    rw [wpC_cond_t (by simp), wpC_blk]
    refine go1 rfl rfl (wpR_done ?_)
    exact key _ (.slice none 0 0) [] (fun s hs => by simp only [updo, upd]; repeat rw [if_neg (by omega)]) (by simp) (by simpa using SlC.nil) (by simpa using RepTL.nil)
  | false =>
    rw [wpC_cond_f (by simp), wpC_skip]
    exact key _ v1 (tss.take 32767) (fun s hs => by simp only [updo, upd]; repeat rw [if_neg (by omega)]) (by simp) (by simpa using hv1) (by simpa using hl1)
theorem field_call (hm : P.follows .mixedOrders = true) (h : liftF P (F sField) = some (ir_sField F)) (hn : liftF P (F sNull) = some (ir_sNull F)) (ht : liftF P (F sThings) = some (ir_sThings F)) (hc : liftF P (F sCounted) = some (ir_sCounted F)) (hu : liftF P (F sUvarint) = some (ir_sUvarint F)) (hf : liftF P (F sFixed) = some (ir_sFixed F))
    {ver : Int} {flex : Bool} {kind frm to null tag dfl of : Int} {sub : List FD} (hV : ∀ k, ValC P F ver flex k sub) (hp : PartC P F ver flex sub) : FieldC P F ver flex (.mk kind frm to null tag dfl of sub) := by
  intro w cs t ts hrf hrt hk hlen
  rw [FD.enc_eq] at hlen ⊢
  generalize hnl : FD.nullV (.mk kind frm to null tag dfl of sub) ver t = nl at hlen ⊢
  cases hrf with
  | @mk _ _ _ _ _ _ _ _ sv css f1 f2 =>
  cases hrt with
  | @mk n s tn l u tsv lv uv tss uss g1 g2 g3 g4 g5 =>
  unfold ir_sField at h
  refine call_of h hm (by simp) ?_
  clear h
  rw [wpC_seq, wpC_blk]
  refine goBox (v := .agg #[.int .i64 kind, .int .i64 frm, .int .i64 to, .int .i64 null, .int .i64 tag, .int .i64 dfl, .int .i64 of, sv]) (by simp) fun w1 hb1 hm1 => ?_
  refine goBox (v := .agg #[.int .i64 n, tsv, .bool tn, lv, uv]) (by simp) fun w2 hb2 hm2 => ?_
  have hm02 := hm1.trans hm2
  have hb1 : Blk w2 w.heap.size [.int .i64 kind, .int .i64 frm, .int .i64 to, .int .i64 null, .int .i64 tag, .int .i64 dfl, .int .i64 of, sv] := Blk.mod (by simpa using hb1) hm2 (by simp)
  have hb2 : Blk w2 w1.heap.size [.int .i64 n, tsv, .bool tn, lv, uv] := by simpa using hb2
  have rF : RepF anyB w2 (.mk kind frm to null tag dfl of sub) [.int .i64 kind, .int .i64 frm, .int .i64 to, .int .i64 null, .int .i64 tag, .int .i64 dfl, .int .i64 of, sv] := RepF.keep (.mk f1 f2) hm02
  have rT : RepT anyB w2 (.mk n s tn l u) [.int .i64 n, tsv, .bool tn, lv, uv] := RepT.keep (.mk g1 g2 g3 g4 g5) hm02
  refine go1 rfl rfl (wpR_done ?_)
  rw [wpC_seq, wpC_blk]
  refine go1 (v := .agg #[.int .i64 kind, .int .i64 frm, .int .i64 to, .int .i64 null, .int .i64 tag, .int .i64 dfl, .int .i64 of, sv]) rfl (by simp [cellsAt_of' hb1.cells (n := 8) rfl]) ?_
  refine go1 (v := .int .i64 ver) rfl (by simp) ?_
  refine go1 (v := .agg #[.int .i64 n, tsv, .bool tn, lv, uv]) rfl (by simp [cellsAt_of' hb2.cells (n := 5) rfl]) ?_
  refine goCall rfl (vs := [.agg #[.int .i64 kind, .int .i64 frm, .int .i64 to, .int .i64 null, .int .i64 tag, .int .i64 dfl, .int .i64 of, sv], .int .i64 ver, .agg #[.int .i64 n, tsv, .bool tn, lv, uv]]) (by simp) (null_call hm hn rF rT) ?_
  rintro e w3 ⟨rfl, hm3⟩
  refine ⟨_, rfl, ?_⟩
  rw [hnl]
  refine go1 (v := .bool nl) rfl (by simp) (wpR_done ?_)
  have hm03 := hm02.trans hm3
  have hb1 := hb1.mod hm3 (by simp)
  have hb2 := hb2.mod hm3 (by simp)
  have c1 := fun k => hb1.cell k
  have hk' : TR.kokL l := by simp only [TR.kok] at hk; exact hk.2
  rw [wpC_seq, wpC_seq, wpC_blk]
  refine go1 (v := .pointer (some ⟨w.heap.size, 0, none⟩)) rfl (by simp) ?_
  refine go1 (v := .int .i64 kind) rfl (by simp [c1]) ?_
  refine go1 (v := .bool (decide (kind = 11))) rfl (by simp; by_cases e : kind = 11 <;> simp [e]) (wpR_done ?_)
  by_cases k11 : kind = 11
  · rw [wpC_cond_t (by simp [k11])]
    have e0 : fieldP flex kind of null nl (partP ver flex sub) (.mk n s tn l u) = countedP flex nl (if nl then [] else l.take 32767).length 4 ++ (if nl then [] else l.take 32767).flatMap (valP flex of (partP ver flex sub) false) := by
      simp [fieldP, k11, TR.l]
    rw [e0] at hlen ⊢
    refine field_list hm ht hc hu hf (w0 := w3) (fb := w.heap.size) (tb := w1.heap.size) (ver := ver) (flex := flex) (nl := nl) (kind := kind) (frm := frm) (to := to) (null := null) (tag := tag) (dfl := dfl) (of := of) (sub := sub) (sv := sv) (tn := n) (tsv := tsv) (tb' := tn) (lv := lv) (uv := uv) (l := l)
      ⟨hb1, hb2, by simp, by simp, by simp, by simp, by simp⟩ (Mod.refl _ _) (f1.keep hm03) (f2.keep hm03) (g2.keep hm03) (g3.keep hm03) hk' (hV of) hlen fun σ' w' v h8 hd hm' => ?_
    simp only [thenC]
    exact post1 h8 ⟨v, rfl, hd.low hm03.size, hm03.trans hm'⟩
  · rw [wpC_cond_f (by simp [k11]), wpC_skip]
    simp only [thenC]
    rw [wpC_seq, wpC_seq, wpC_blk]
    refine go1 (v := .pointer (some ⟨w.heap.size, 0, none⟩)) rfl (by simp) ?_
    refine go1 (v := .int .i64 kind) rfl (by simp [c1]) ?_
    refine go1 (v := .bool (decide (kind = 10))) rfl (by simp; by_cases e : kind = 10 <;> simp [e]) ?_
    refine go1 (v := .bool (decide (kind = 10))) rfl (by simp) ?_
    have last : ∀ σ1, (∀ s, s < 10 → σ1 s = upd (upd (upd (upd (upd (upd (upd (args0 [.int .i64 kind, .int .i64 ver, .bool flex]) 0 undef) 1 (.int .i64 ver)) 2 (.bool flex)) 4 (.pointer (some ⟨w.heap.size, 0, none⟩))) 7 (.pointer (some ⟨w1.heap.size, 0, none⟩))) 9 (.bool nl)) 0 undef s ∨ s = 0 ∨ s = 3 ∨ s = 5 ∨ s = 6 ∨ s = 8) → ¬ (kind = 10 ∧ null ≥ 0) →
        wpC P (.seq (.blk [⟨(some (67)), .fad (.tmp 4) 0, none⟩,
      ⟨(some (68)), .ld (.tmp 67), none⟩,
      ⟨(some (69)), .fad (.tmp 4) 7, none⟩,
      ⟨(some (70)), .ld (.tmp 69), none⟩,
      ⟨(some (71)), .mv (.tmp 9), none⟩,
      ⟨(some (72)), .mv (.tmp 1), none⟩,
      ⟨(some (73)), .mv (.tmp 2), none⟩,
      ⟨(some (74)), .ldn (.tmp 7) 5, none⟩,
      ⟨(some (75)), .call (F sValue) [.tmp 68, .tmp 70, .tmp 71, .tmp 72, .tmp 73, .tmp 74], none⟩,
      ⟨(some (8)), .mv (.tmp 75), none⟩])
  (.ret)) (postC [.tmp 8] (BytesR w (fieldP flex kind of null nl (partP ver flex sub) (.mk n s tn l u)))) σ1 w3 := by
      intro σ1 hs hno
      have s1 : σ1 1 = .int .i64 ver := by rcases hs 1 (by omega) with h | h; exact h; omega
      have s2 : σ1 2 = .bool flex := by rcases hs 2 (by omega) with h | h; exact h; omega
      have s4 : σ1 4 = .pointer (some ⟨w.heap.size, 0, none⟩) := by rcases hs 4 (by omega) with h | h; exact h; omega
      have s7 : σ1 7 = .pointer (some ⟨w1.heap.size, 0, none⟩) := by rcases hs 7 (by omega) with h | h; exact h; omega
      have s9 : σ1 9 = .bool nl := by rcases hs 9 (by omega) with h | h; exact h; omega
      have e0 : fieldP flex kind of null nl (partP ver flex sub) (.mk n s tn l u) = valP flex kind (partP ver flex sub) nl (.mk n s tn l u) := by
        simp only [fieldP]; rw [if_neg k11, if_neg hno]
      rw [e0] at hlen ⊢
      rw [wpC_seq, wpC_blk]
      refine go1 (v := .pointer (some ⟨w.heap.size, 0, none⟩)) rfl (by simp [s4]) ?_
      refine go1 (v := .int .i64 kind) rfl (by simp [c1]) ?_
      refine go1 (v := .pointer (some ⟨w.heap.size, 7, none⟩)) rfl (by simp [s4]) ?_
      refine go1 (v := sv) rfl (by simp [c1]) ?_
      refine go1 (v := .bool nl) rfl (by simp [s9]) ?_
      refine go1 (v := .int .i64 ver) rfl (by simp [s1]) ?_
      refine go1 (v := .bool flex) rfl (by simp [s2]) ?_
      refine go1 (v := .agg #[.int .i64 n, tsv, .bool tn, lv, uv]) rfl (by simp [s7, cellsAt_of' hb2.cells (n := 5) rfl]) ?_
      refine goCall rfl (vs := [.int .i64 kind, sv, .bool nl, .int .i64 ver, .bool flex, .agg #[.int .i64 n, tsv, .bool tn, lv, uv]]) (by simp) (hV kind w3 sv css _ _ nl (f1.keep hm03) (f2.keep hm03) (rT.keep hm3) hk hlen) ?_
      rintro e w4 ⟨v, rfl, hd, hm4⟩
      refine ⟨v, rfl, go1 (v := v) rfl (by simp) (wpR_done (ret1 (v := v) (by simp) ⟨v, rfl, hd.low hm03.size, hm03.trans hm4⟩))⟩
    by_cases k10 : kind = 10
    · refine go1 (v := .pointer (some ⟨w.heap.size, 3, none⟩)) (by simp [k10]) (by simp) ?_
      refine go1 (v := .int .i64 null) (by simp [k10]) (by simp [c1]) ?_
      refine go1 (v := .bool (decide (null ≥ 0))) (by simp [k10]) (by simp) ?_
      refine go1 (v := .bool (decide (null ≥ 0))) rfl (by simp [k10]) (wpR_done ?_)
      by_cases n0 : null ≥ 0
      · rw [wpC_cond_t (by simp [n0])]
        have e0 : fieldP flex kind of null nl (partP ver flex sub) (.mk n s tn l u) = if nl then beI 1 (-1) else beI 1 1 ++ partP ver flex sub (.mk n s tn l u) := by
          simp only [fieldP]; rw [if_neg k11, if_pos ⟨k10, n0⟩]
        rw [e0] at hlen ⊢
        unfold ir_sField_3
        rw [wpC_seq, wpC_seq, wpC_blk]
        refine go1 (v := .bool nl) rfl (by simp) (wpR_done ?_)
        cases nl with
        | true =>
          rw [wpC_cond_t (by simp), wpC_seq, wpC_blk]
          refine goCall rfl (vs := [.int .i64 (-1), .int .i64 ((1 : Nat) : Int)]) (by simp) (fixed_call hm hf (by omega)) ?_
          rintro e w4 ⟨v, rfl, hd, hm4⟩
          refine ⟨v, rfl, go1 (v := v) rfl (by simp) (wpR_done ?_)⟩
          repeat first | refine retThen ?_ | refine retBlk ?_
          exact ret1 (v := v) (by simp) ⟨v, rfl, hd.low hm03.size, hm03.trans hm4⟩
        | false =>
          simp only [Bool.false_eq_true, if_false] at hlen ⊢
          rw [wpC_cond_f (by simp), wpC_skip]
          simp only [thenC]
          rw [wpC_seq]
          simp only [wpC]
          have hmd : Mod [] w3 w3.drew := Mod.drew _ _
          have hm0d := hm03.trans hmd
          have c2 := fun k => (hb1.mod hmd (by simp)).cell k
          have hb2d := hb2.mod hmd (by simp)
          refine wpD_of_B (fun i v w' => match i with | 0 => DRaw w' w.heap.size v (beI 1 1) | 6 => DRaw w' w.heap.size v (partP ver flex sub (.mk n s tn l u)) | _ => True) (by
            intro i v w w' h hm
            split at h
            · exact h.keep hm
            · exact h.keep hm
            · trivial) ?_
          refine boCall (vs := [.int .i64 1, .int .i64 ((1 : Nat) : Int)]) rfl (by simp) (fun w' hm' _ => (fixed_call hm hf (by omega)).mono ?_) ?_
          · rintro e w'' ⟨v, rfl, hd, hm2⟩; exact ⟨v, rfl, hm2, hd.low (hm0d.trans hm').size⟩
          rintro v0 -
          refine bo1 (v := .pointer (some ⟨w.heap.size, 7, none⟩)) rfl (by simp) ?_
          refine bo1 (v := sv) rfl (by simp [c2]) ?_
          refine bo1 (v := .int .i64 ver) rfl (by simp) ?_
          refine bo1 (v := .bool flex) rfl (by simp) ?_
          refine bo1 (v := .agg #[.int .i64 n, tsv, .bool tn, lv, uv]) rfl (by simp [cellsAt_of' hb2d.cells (n := 5) rfl]) ?_
          refine boCall (vs := [sv, .int .i64 ver, .bool flex, .agg #[.int .i64 n, tsv, .bool tn, lv, uv]]) rfl (by simp) (fun w' hm' _ => (hp w' sv css _ _ (f1.keep (hm0d.trans hm')) (f2.keep (hm0d.trans hm')) ((rT.keep hm3).keep (hmd.trans hm')) hk (by simp only [List.length_append] at hlen; omega)).mono ?_) ?_
          · rintro e w'' ⟨v, rfl, hd, hm2⟩; exact ⟨v, rfl, hm2, hd.low (hm0d.trans hm').size⟩
          rintro v6 -
          intro w' hm' hkn
          have k0 := known_get (j := 0) (t := 59) hkn (by simp) rfl rfl rfl rfl
          have k6 := known_get (j := 6) (t := 65) hkn (by simp) rfl rfl rfl rfl
          have d0 : DRaw w' w.heap.size v0 (beI 1 1) := by simpa using k0
          have d6 : DRaw w' w.heap.size v6 (partP ver flex sub (.mk n s tn l u)) := by simpa using k6
          refine goC rfl ?_
          refine append_run (n0 := w.heap.size) (v := v0) (by simp) d0 (hm0d.trans hm').size (k := partP ver flex sub (.mk n s tn l u)) (by simpa using d6.src) (by simpa using hlen) fun v' w5 ha => ?_
          refine go1 (v := v') rfl (by simp) (goEnd ?_)
          simp only [thenC]
          exact post1 (v := v') (by simp) ⟨v', rfl, ha.raw, ha.mod0 d0 (hm0d.trans hm')⟩
      · rw [wpC_cond_f (by simp [n0]), wpC_skip]
        simp only [thenC]
        exact last _ (by intro s hs; rcases (by omega : s = 0 ∨ s = 1 ∨ s = 2 ∨ s = 3 ∨ s = 4 ∨ s = 5 ∨ s = 6 ∨ s = 7 ∨ s = 8 ∨ s = 9) with rfl | rfl | rfl | rfl | rfl | rfl | rfl | rfl | rfl | rfl <;> simp) (fun h => n0 h.2)
    · iterate 3 (refine go0 (by simp [k10]) ?_)
      refine go1 (v := .bool false) rfl (by simp [k10]) (wpR_done ?_)
      rw [wpC_cond_f (by simp), wpC_skip]
      simp only [thenC]
      exact last _ (by intro s hs; rcases (by omega : s = 0 ∨ s = 1 ∨ s = 2 ∨ s = 3 ∨ s = 4 ∨ s = 5 ∨ s = 6 ∨ s = 7 ∨ s = 8 ∨ s = 9) with rfl | rfl | rfl | rfl | rfl | rfl | rfl | rfl | rfl | rfl <;> simp) (fun h => k10 h.1)
end
end Go.Msk

namespace Go.Msk
open Go.RowKit
set_option maxRecDepth 100000
theorem bodyP_append (ver : Int) (flex : Bool) : ∀ (a b : List FD) (i : Nat) (t : TR), bodyP ver flex (a ++ b) i t = bodyP ver flex a i t ++ bodyP ver flex b (i + a.length) t
  | [], b, i, t => by simp [bodyP]
  | f :: a, b, i, t => by
    rw [List.cons_append, bodyP_cons, bodyP_cons, bodyP_append ver flex a b (i + 1) t, List.append_assoc]
    congr 3
    simp; omega
theorem bodyP_snoc {ver : Int} {flex : Bool} {fs : List FD} {t : TR} {j : Nat} {f : FD} (h : fs[j]? = some f) :
    bodyP ver flex (fs.take (j + 1)) 0 t = bodyP ver flex (fs.take j) 0 t ++ (if f.tag < 0 ∧ f.hasV ver = true then f.enc ver flex (t.at j) else []) := by
  have hl : j < fs.length := (List.getElem?_eq_some_iff.1 h).1
  rw [take_succ_of h, bodyP_append, bodyP_cons]
  have e : 0 + (fs.take j).length = j := by simp; omega
  rw [e]; simp [bodyP]
theorem bodyP_take_le (ver : Int) (flex : Bool) (fs : List FD) (t : TR) (j : Nat) : (bodyP ver flex (fs.take j) 0 t).length ≤ (bodyP ver flex fs 0 t).length := by
  have : bodyP ver flex fs 0 t = bodyP ver flex (fs.take j) 0 t ++ bodyP ver flex (fs.drop j) (0 + (fs.take j).length) t := by rw [← bodyP_append, List.take_append_drop]
  rw [this, List.length_append]; omega
theorem knownP_none {fs : List FD} (h : ∀ f ∈ fs, f.tag < 0) : knownP fs = 0 := by
  have : ∀ (l : List FD), (∀ f ∈ l, f.tag < 0) → l.foldl (fun n f => if f.tag ≥ 0 then max n (f.tag.toNat + 1) else n) 0 = 0 := by
    intro l
    induction l with
    | nil => intro _; rfl
    | cons f l ih =>
      intro hl
      have := hl f List.mem_cons_self
      simp only [List.foldl_cons]
      rw [if_neg (by omega)]
      exact ih fun g hg => hl g (List.mem_cons_of_mem _ hg)
  exact this fs h
theorem insU_kok {k : Nat} {b : List UInt8} (hk : k < 4294967296) : ∀ {l : List (Nat × List UInt8)}, (∀ p ∈ l, p.1 < 4294967296) → ∀ p ∈ insU k b l, p.1 < 4294967296
  | [], _, p, hp => by simp [insU] at hp; subst hp; exact hk
  | (k', b') :: r, h, p, hp => by
    have h1 := h (k', b') List.mem_cons_self
    have h2 : ∀ p ∈ r, p.1 < 4294967296 := fun p hp => h p (List.mem_cons_of_mem _ hp)
    simp only [insU] at hp
    split at hp
    · rcases List.mem_cons.1 hp with rfl | hp
      · exact h1
      · exact insU_kok hk h2 p hp
    · split at hp
      · exact h p hp
      · rcases List.mem_cons.1 hp with rfl | hp
        · exact hk
        · exact h p hp
theorem unknownP_kok {fs : List FD} {u : List (Nat × List UInt8)} (h : ∀ p ∈ u, p.1 < 4294967296) : ∀ p ∈ unknownP fs u, p.1 < 4294967296 := by
  have : ∀ (l out : List (Nat × List UInt8)), (∀ p ∈ l, p.1 < 4294967296) → (∀ p ∈ out, p.1 < 4294967296) → ∀ p ∈ l.foldl (unkStep (knownP fs)) out, p.1 < 4294967296 := by
    intro l
    induction l with
    | nil => intro out _ h2; exact h2
    | cons t l ih =>
      intro out h1 h2
      simp only [List.foldl_cons]
      refine ih _ (fun p hp => h1 p (List.mem_cons_of_mem _ hp)) ?_
      unfold unkStep
      split
      · exact h2
      · exact insU_kok (h1 t List.mem_cons_self) h2
  exact this _ [] (fun p hp => h p (List.mem_of_mem_take hp)) (by simp)
theorem unknownP_length (fs : List FD) (u : List (Nat × List UInt8)) : (unknownP fs u).length ≤ 32767 := by
  have := unk_length (knownP fs) (u.take 32767) []
  unfold unknownP
  simp at this ⊢; omega
theorem SlC.app {N : Nat} {w w' : World} {v x x' : Value} {n : Nat} {cs : List Value} {l l' : List UInt8} (h : SlC (fun b => b < N) w v n cs) (ha : AppD N w x w' x' l') (hd : DRaw w N x l) : SlC (fun b => b < N) w' v n cs :=
  h.mod ha.mod (fun b hb hc => by have := (hd.own (b := b) (by simpa using hb)).1; omega) fun _ _ h => h
section
variable {P : Program} {F : Nat → Nat}
attribute [local simp] gOk updo upd ev RK.val? isShift intBin Addr.add_mk args0 Value.cells undef
theorem part_field (hm : P.follows .mixedOrders = true) (hh : liftF P (F sHas) = some (ir_sHas F)) (ha : liftF P (F sAt) = some (ir_sAt F))
    {w0 w : World} {tb j n c : Nat} {ver : Int} {flex : Bool} {f : FD} {fcs tcs : List Value} {t : TR} {σ : Sl} {a : Addr} {out : List UInt8} {Q : Exit → Sl → World → Prop}
    (hm0 : Mod [] w0 w) (hbt : Blk w0 tb tcs) (hrf : RepF anyB w0 f fcs) (hrt : RepT anyB w0 t tcs) (hk : t.kok) (hF : FieldC P F ver flex f) (htag : f.tag < 0)
    (h1 : σ 1 = .int .i64 ver) (h2 : σ 2 = .bool flex) (h7 : σ 7 = .pointer (some ⟨tb, 0, none⟩)) (h21 : σ 21 = .slice (some a) n c) (h23 : σ 23 = .int .i64 (j : Nat)) (hj : j < n) (hcell : cellsAt w0 (a.add (j * 8)) 0 8 = some fcs)
    (h9 : DRaw w w0.heap.size (σ 9) out) (hlen : (out ++ (if f.tag < 0 ∧ f.hasV ver = true then f.enc ver flex (t.at j) else [])).length ≤ lim)
    (hQ : ∀ σ' w', (∀ s, s < 24 → s ≠ 9 → s ≠ 12 → s ≠ 13 → σ' s = σ s) → DRaw w' w0.heap.size (σ' 9) (out ++ (if f.tag < 0 ∧ f.hasV ver = true then f.enc ver flex (t.at j) else [])) → Mod [] w0 w' → Q .normal σ' w') : wpC P (ir_sPart_1 F) Q σ w := by
  unfold ir_sPart_1
  have hcell1 := cellsAt_below hm0.below _ _ _ hcell
  rw [wpC_seq, wpC_blk]
  refine go1 (v := .int .i64 (j : Nat)) rfl (by simp [h23]) ?_
  refine go1 (v := .pointer (some (a.add (j * 8)))) rfl (by simp [h21, h23, hj]) ?_
  refine go1 (v := .agg fcs.toArray) rfl (by simp [hcell1]) ?_
  refine goAlloc fun w2 hb2 hm2 => ?_
  refine go1 (v := .int .i64 (j : Nat)) rfl (by simp) ?_
  refine goSt (b := w.heap.size) (v := .agg fcs.toArray) (by simp) (by simp) hb2 (by simp [hrf.eight]) rfl (by simpa using hrf.oneCell) fun w3 hb3 hm3 => ?_
  have hb3 : Blk w3 w.heap.size fcs := by simpa using hb3
  have hm13 : Mod [] w w3 := Mod.drop (b := w.heap.size) (S := []) (hm2.nil.trans hm3) (Nat.le_refl _)
  have hm03 := hm0.trans hm13
  refine wpR_done ?_
  have c3 := fun k => hb3.cell k
  have ht4 : fcs[4]? = some (.int .i64 f.tag) := by cases hrf; rfl
  rw [wpC_seq, wpC_blk]
  refine go1 (v := .pointer (some ⟨w.heap.size, 4, none⟩)) rfl (by simp) ?_
  refine go1 (v := .int .i64 f.tag) rfl (by simp [c3, ht4]) ?_
  refine go1 (v := .bool true) rfl (by simp [htag]) ?_
  refine go1 (v := .bool true) rfl (by simp) ?_
  refine go1 (v := .agg fcs.toArray) (by simp) (by simp [cellsAt_of' hb3.cells hrf.eight]) ?_
  refine go1 (v := .int .i64 ver) (by simp) (by simp [h1]) ?_
  refine goCall (by simp) (vs := [.agg fcs.toArray, .int .i64 ver]) (by simp) (has_call hm hh (hrf.keep hm03)) ?_
  rintro e w4 ⟨rfl, hm4⟩
  have hm04 := hm03.trans hm4
  refine ⟨_, rfl, ?_⟩
  refine go1 (v := .bool (f.hasV ver)) rfl (by simp [FD.hasV]) (wpR_done ?_)
  cases hhas : f.hasV ver with
  | false =>
    rw [wpC_cond_f (by simp), wpC_skip]
    have e0 : (if f.tag < 0 ∧ f.hasV ver = true then f.enc ver flex (t.at j) else []) = [] := by simp [hhas]
    rw [e0, List.append_nil] at hQ
    refine hQ _ w4 (fun s s1 s2 s3 s4 => ?_) (by simpa using h9.keep (hm13.trans hm4)) hm04
    simp only [updo, upd]
    repeat rw [if_neg (by omega)]
  | true =>
    have e0 : (if f.tag < 0 ∧ f.hasV ver = true then f.enc ver flex (t.at j) else []) = f.enc ver flex (t.at j) := by simp [hhas, htag]
    rw [e0] at hQ hlen
    rw [wpC_cond_t (by simp)]
    simp only [wpC]
    have hmd : Mod [] w0 w4.drew := hm04.trans (Mod.drew _ _)
    have hb4 : Blk w4.drew w.heap.size fcs := (hb3.mod hm4 (by simp)).mod (Mod.drew [] _) (by simp)
    have hbt4 := hbt.mod hmd (by simp)
    refine wpD_of_B (fun i v w' => match i with | 6 => ∃ cs, v = .agg cs.toArray ∧ RepT anyB w' (t.at j) cs | 7 => DRaw w' w0.heap.size v (f.enc ver flex (t.at j)) | _ => True) (by
      intro i v w w' h hm
      split at h
      · obtain ⟨cs, e1, e2⟩ := h; exact ⟨cs, e1, e2.keep hm⟩
      · exact h.keep hm
      · trivial) ?_
    refine bo1 (v := σ 9) rfl (by simp) ?_
    refine bo1 (v := .agg fcs.toArray) rfl (by simp [cellsAt_of' hb4.cells hrf.eight]) ?_
    refine bo1 (v := .int .i64 ver) rfl (by simp [h1]) ?_
    refine bo1 (v := .bool flex) rfl (by simp [h2]) ?_
    refine bo1 (v := .agg tcs.toArray) rfl (by simp [h7, cellsAt_of' hbt4.cells hrt.five]) ?_
    refine bo1 (v := .int .i64 (j : Nat)) rfl (by simp) ?_
    refine boCall (vs := [.agg tcs.toArray, .int .i64 (j : Nat)]) rfl (by simp) (fun w' hm' _ => (at_call hm ha (hrt.keep (hmd.trans hm'))).mono ?_) ?_
    · rintro e w'' ⟨cs, rfl, hr, hm2⟩; exact ⟨_, rfl, hm2, cs, rfl, hr⟩
    rintro v6 ⟨_, cs6, rfl, -⟩
    refine boCall (vs := [.agg fcs.toArray, .int .i64 ver, .bool flex, .agg cs6.toArray]) rfl (by simp) (fun w' hm' hkn => ?_) ?_
    · have hk6 := known_get (j := 6) (t := 42) hkn (by simp) rfl rfl rfl rfl
      obtain ⟨cs, e1, e2⟩ := hk6
      simp only [updo, upd, if_true, Value.agg.injEq, Array.mk.injEq] at e1
      have e1 : cs6 = cs := by simpa using e1
      subst e1
      refine (hF w' fcs (t.at j) cs6 (hrf.keep (hmd.trans hm')) e2 (hk.at j) (by simp only [List.length_append] at hlen; omega)).mono ?_
      rintro e w'' ⟨v, rfl, hd, hm2⟩; exact ⟨v, rfl, hm2, hd.low (hmd.trans hm').size⟩
    rintro v7 -
    intro w' hm' hkn
    have hk7 := known_get (j := 7) (t := 43) hkn (by simp) rfl rfl rfl rfl
    have d7 : DRaw w' w0.heap.size v7 (f.enc ver flex (t.at j)) := by simpa using hk7
    have hdr : DRaw w' w0.heap.size (σ 9) out := h9.keep ((hm13.trans hm4).trans ((Mod.drew _ _).trans hm'))
    have hmw := hmd.trans hm'
    refine goC rfl ?_
    refine append_run (n0 := w0.heap.size) (v := σ 9) (by simp) hdr hmw.size (k := f.enc ver flex (t.at j)) (by simpa using d7.src) (by simpa using hlen) fun v' w5 ha => ?_
    refine go1 (v := v') rfl (by simp) (goEnd ?_)
    refine hQ _ w5 (fun s s1 s2 s3 s4 => ?_) (by simpa using ha.raw) (ha.mod0 hdr hmw)
    simp only [updo, upd]
    repeat rw [if_neg (by omega)]
theorem part_tag (hm : P.follows .mixedOrders = true) (hu : liftF P (F sUvarint) = some (ir_sUvarint F)) (hw : liftF P (F sWhole) = some (ir_sWhole F))
    {w0 w : World} {j n c k : Nat} {b out : List UInt8} {sv : Value} {σ : Sl} {a : Addr} {Q : Exit → Sl → World → Prop} (hm0 : Mod [] w0 w) (h100 : σ 100 = .slice (some a) n c) (h102 : σ 102 = .int .i64 (j : Nat)) (hj : j < n) (hn : n ≤ 32767) (h11 : σ 11 = .int .i64 (j : Nat)) (hk : k < 4294967296)
    (hcell : cellsAt w0 (a.add (j * 2)) 0 2 = some [.int .u32 (k : Nat), sv]) (hsv : SlC anyB w0 sv b.length (u8s b)) (h10 : DRaw w w0.heap.size (σ 10) out) (hlen : (out ++ (uvE k ++ (uvE (wholeP b).length ++ wholeP b))).length ≤ lim)
    (hQ : ∀ σ' w', (∀ s, s < 104 → s ≠ 10 → s ≠ 11 → s ≠ 19 → s ≠ 20 → σ' s = σ s) → σ' 11 = .int .i64 ((j + 1 : Nat) : Int) → DRaw w' w0.heap.size (σ' 10) (out ++ (uvE k ++ (uvE (wholeP b).length ++ wholeP b))) → Mod [] w0 w' → Q .normal σ' w') : wpC P (ir_sPart_5 F) Q σ w := by
  unfold ir_sPart_5
  have hcell1 := cellsAt_below hm0.below _ _ _ hcell
  rw [wpC_seq, wpC_blk]
  refine go1 (v := .pointer (some (a.add (j * 2)))) rfl (by simp [h100, h102, hj]) ?_
  refine go1 (v := .agg #[.int .u32 (k : Nat), sv]) rfl (by simp [hcell1]) ?_
  refine goAlloc fun w1 hb1 hm1 => ?_
  refine goSt (b := w.heap.size) (v := .agg #[.int .u32 (k : Nat), sv]) (by simp) (by simp) hb1 rfl rfl (two_one hsv.one) fun w2 hb2 hm2 => ?_
  have hb2 : Blk w2 w.heap.size [.int .u32 (k : Nat), sv] := by simpa using hb2
  have hm12 : Mod [] w w2 := Mod.drop (b := w.heap.size) (S := []) (hm1.nil.trans hm2) (Nat.le_refl _)
  have hm02 := hm0.trans hm12
  have c2 := fun k => hb2.cell k
  have hsv2 : SlC (fun b => b < w0.heap.size) w2 sv b.length (u8s b) := hsv.lowN.mod hm02 (by simp) fun _ _ h => h
  refine wpR_done ?_
  rw [wpC_seq, wpC_blk]
  refine go1 (v := .pointer (some ⟨w.heap.size, 1, none⟩)) rfl (by simp) ?_
  refine go1 (v := sv) rfl (by simp [c2]) ?_
  refine goCall rfl (vs := [sv]) (by simp) (whole_call hm hw hsv2) ?_
  rintro e w3 ⟨ew, v3, rfl, hv3⟩
  rw [ew]
  refine ⟨v3, rfl, go1 (v := v3) rfl (by simp) (wpR_done ?_)⟩
  obtain ⟨vb, vc, ev3⟩ := hv3.shape
  have hwl : (wholeP b).length ≤ 32767 := by simp [wholeP]; omega
  simp only [List.length_append] at hlen
  rw [wpC_seq, wpC_blk]
  refine go1 (v := σ 10) rfl (by simp) ?_
  refine go1 (v := .pointer (some ⟨w.heap.size, 0, none⟩)) rfl (by simp) ?_
  refine go1 (v := .int .u32 (k : Nat)) rfl (by simp [c2]) ?_
  refine go1 (v := .int .u64 (k : Nat)) rfl (by simp [u64_natS (n := k) (by omega)]) ?_
  refine goCall rfl (vs := [.int .u64 (k : Nat)]) (by simp) (uvarint_call hm hu (by omega)) ?_
  rintro e w4 ⟨v4, rfl, hd4, hm4⟩
  refine ⟨v4, rfl, ?_⟩
  have hm04 := hm02.trans hm4
  have r0 : DRaw w4 w0.heap.size (σ 10) out := h10.keep (hm12.trans hm4)
  refine goC rfl ?_
  refine append_run (n0 := w0.heap.size) (v := σ 10) (by simp) r0 hm04.size (k := uvE k) (by simpa using hd4.src) (by omega) fun v5 w5 ha5 => ?_
  have hm05 := ha5.mod0 r0 hm04
  have hv35 : SlC (fun b => b < w0.heap.size) w5 v3 (wholeP b).length (u8s (wholeP b)) := (hv3.mod hm4 (by simp) fun _ _ h => h).app ha5 r0
  refine go1 (v := v3) rfl (by simp) ?_
  refine go1 (v := .int .i64 ((wholeP b).length : Nat)) rfl (by simp [ev3]) ?_
  refine go1 (v := .int .u64 ((wholeP b).length : Nat)) rfl (by simp [u64_natS (n := (wholeP b).length) (by omega)]) ?_
  refine goCall rfl (vs := [.int .u64 ((wholeP b).length : Nat)]) (by simp) (uvarint_call hm hu (by omega)) ?_
  rintro e w6 ⟨v6, rfl, hd6, hm6⟩
  refine ⟨v6, rfl, ?_⟩
  have r1 := ha5.raw.keep hm6
  refine goC rfl ?_
  refine append_run (n0 := w0.heap.size) (v := v5) (by simp) r1 (hm05.trans hm6).size (k := uvE (wholeP b).length) (by simpa using hd6.src) (by simp only [List.length_append]; omega) fun v7 w7 ha7 => ?_
  have hm07 := ha7.mod0 r1 (hm05.trans hm6)
  have hv37 : SlC (fun b => b < w0.heap.size) w7 v3 (wholeP b).length (u8s (wholeP b)) := (hv35.mod hm6 (by simp) fun _ _ h => h).app ha7 r1
  refine go1 (v := v3) rfl (by simp) ?_
  refine goC rfl ?_
  refine append_run (n0 := w0.heap.size) (v := v7) (by simp) ha7.raw hm07.size (k := wholeP b) (by simpa using hv37.src) (by simp only [List.length_append]; omega) fun v8 w8 ha8 => ?_
  have hm08 := ha8.mod0 ha7.raw hm07
  refine go1 (v := v8) rfl (by simp) (wpR_done ?_)
  rw [wpC_blk]
  refine go1 (v := .int .i64 (j : Nat)) rfl (by simp [h11]) ?_
  refine go1 (v := .int .i64 ((j + 1 : Nat) : Int)) rfl (by
    simp only [RK.val?, ev, updo, upd, if_true, isShift, decide_true, Bool.or_true, intBin]
    rw [show (j : Int) + 1 = ((j + 1 : Nat) : Int) by omega, i64_nat (by omega)]) ?_
  refine go1 (v := .int .i64 ((j + 1 : Nat) : Int)) rfl (by simp) (goEnd ?_)
  refine hQ _ w8 (fun s s1 s2 s3 s4 s5 => ?_) (by simp) (by simpa [List.append_assoc] using ha8.raw) hm08
  simp only [updo, upd]
  repeat rw [if_neg (by omega)]
theorem tagsP_snoc {u : List (Nat × List UInt8)} {j : Nat} {p : Nat × List UInt8} (h : u[j]? = some p) : tagsP (u.take (j + 1)) = tagsP (u.take j) ++ (uvE p.1 ++ (uvE (wholeP p.2).length ++ wholeP p.2)) := flatMap_snoc h
theorem part_call (hm : P.follows .mixedOrders = true) (h : liftF P (F sPart) = some (ir_sPart F)) (hh : liftF P (F sHas) = some (ir_sHas F)) (ha : liftF P (F sAt) = some (ir_sAt F)) (hu : liftF P (F sUvarint) = some (ir_sUvarint F)) (hw : liftF P (F sWhole) = some (ir_sWhole F))
    (hkn : liftF P (F sKnown) = some (ir_sKnown F)) (hun : liftF P (F sUnknown) = some (ir_sUnknown F)) {ver : Int} {flex : Bool} {fs : List FD} (hF : ∀ f ∈ fs, FieldC P F ver flex f) (htag : ∀ f ∈ fs, f.tag < 0) (hfl : fs.length < 2147483648) : PartC P F ver flex fs := by
  intro w v css t ts hv hr ht hk hlen
  have hk5 := ht.five
  unfold ir_sPart at h
  refine call_of h hm (by simp) ?_
  clear h
  rw [wpC_seq, wpC_blk]
  refine goBox (v := .agg ts.toArray) (by simp) fun w1 hb1 hm1 => ?_
  have hb1 : Blk w1 w.heap.size ts := by simpa using hb1
  refine go1 rfl rfl (wpR_done ?_)
  rw [wpC_seq, wpC_blk]
  refine go1 rfl rfl (go1 rfl rfl (wpR_done ?_))
  rw [wpC_seq, wpC_blk]
  refine go1 rfl rfl (wpR_done ?_)
  obtain ⟨vb, vc, ev'⟩ := hv.shape
  rw [wpC_seq, wpC_seq, wpC_blk]
  refine go1 (v := v) rfl (by simp) ?_
  refine go1 (v := .int .i64 fs.length) rfl (by simp [ev']) ?_
  refine go1 rfl rfl (wpR_done ?_)
  have hv1 := hv.keep hm1
  have hr1 := hr.keep hm1
  have ht1 := ht.keep hm1
  have hbody : (bodyP ver flex fs 0 t).length ≤ lim := by unfold partP joinP at hlen; simp only [List.length_append] at hlen; omega
  refine rangeLoop (n := fs.length) (fun j σ w' => σ 21 = v ∧ σ 23 = .int .i64 (j : Nat) ∧ σ 22 = .int .i64 (fs.length : Nat) ∧ σ 0 = v ∧ σ 1 = .int .i64 ver ∧ σ 2 = .bool flex ∧ σ 7 = .pointer (some ⟨w.heap.size, 0, none⟩) ∧ σ 10 = .slice none 0 0 ∧ σ 11 = .int .i64 0 ∧
      DRaw w' w1.heap.size (σ 9) (bodyP ver flex (fs.take j) 0 t) ∧ Mod [] w1 w') (by omega) (by omega) (fun j σ w h => ⟨h.2.1, h.2.2.1⟩) ?_ ?_ ?_
  · exact ⟨by simp, by simp, by simp, by simp, by simp, by simp, by simp, by simp, by simp, by simpa [bodyP] using DRaw.nil w1 _, Mod.refl _ _⟩
  · rintro j σ w2 hj ⟨h21, h23, h22, h0, h1, h2, h7, h10, h11, hd, hm2⟩
    obtain ⟨f, hf⟩ : ∃ f, fs[j]? = some f := ⟨_, List.getElem?_eq_getElem hj⟩
    obtain ⟨fcs, hcs, hrep⟩ := hr1.nth hf
    obtain ⟨a, c, ea, hjn, hcell⟩ := hv1.flat hr1.length hr1.eight hcs
    have hfm := List.mem_of_getElem? hf
    have hsn := bodyP_snoc (ver := ver) (flex := flex) (t := t) hf
    refine part_field (w0 := w1) (n := fs.length) (c := c) (a := a) (f := f) (t := t) hm hh ha hm2 hb1 hrep ht1 hk (hF f hfm) (htag f hfm) (by simp [h1]) (by simp [h2]) (by simp [h7]) (by simp [h21, ea]) (by simp [h23]) hj hcell (by simpa using hd) (by
      rw [← hsn]; exact Nat.le_trans (bodyP_take_le ver flex fs t _) hbody) fun σ' w' hfr hd' hm' => ?_
    rw [← hsn] at hd'
    simp only [rngP]
    have g : ∀ s, s < 24 → s ≠ 9 → s ≠ 12 → s ≠ 13 → σ' s = σ s := fun s s1 s2 s3 s4 => by rw [hfr s s1 s2 s3 s4, upd_ne _ _ (by omega)]
    refine ⟨by rw [g 23 (by omega) (by omega) (by omega) (by omega)]; exact h23, ?_, by simp, ?_, ?_, ?_, ?_, ?_, ?_, ?_, ?_, hm'⟩
    · simp only [upd]; rw [if_neg (by omega), if_neg (by omega), g 21 (by omega) (by omega) (by omega) (by omega)]; exact h21
    · simp only [upd]; rw [if_neg (by omega), if_neg (by omega), g 22 (by omega) (by omega) (by omega) (by omega)]; exact h22
    · simp only [upd]; rw [if_neg (by omega), if_neg (by omega), g 0 (by omega) (by omega) (by omega) (by omega)]; exact h0
    · simp only [upd]; rw [if_neg (by omega), if_neg (by omega), g 1 (by omega) (by omega) (by omega) (by omega)]; exact h1
    · simp only [upd]; rw [if_neg (by omega), if_neg (by omega), g 2 (by omega) (by omega) (by omega) (by omega)]; exact h2
    · simp only [upd]; rw [if_neg (by omega), if_neg (by omega), g 7 (by omega) (by omega) (by omega) (by omega)]; exact h7
    · simp only [upd]; rw [if_neg (by omega), if_neg (by omega), g 10 (by omega) (by omega) (by omega) (by omega)]; exact h10
    · simp only [upd]; rw [if_neg (by omega), if_neg (by omega), g 11 (by omega) (by omega) (by omega) (by omega)]; exact h11
    · simpa [upd] using hd'
  · rintro σ w2 ⟨h21, h23, h22, h0, h1, h2, h7, h10, h11, hd, hm2⟩
    rw [List.take_of_length_le (Nat.le_refl _)] at hd
    have hm02 := hm1.trans hm2
    simp only [thenC]
    rw [wpC_seq, wpC_seq, wpC_blk]
    refine go1 (v := .bool flex) rfl (by simp [h2]) ?_
    refine go1 (v := .bool (!flex)) rfl (by simp) (wpR_done ?_)
    cases flex with
    | false =>
      rw [wpC_cond_t (by simp), wpC_seq, wpC_blk]
      refine go1 (v := σ 9) rfl (by simp) ?_
      refine go1 (v := σ 9) rfl (by simp) (wpR_done ?_)
      repeat first | refine retThen ?_ | refine retBlk ?_
      refine ret1 (v := σ 9) (by simp) ⟨_, rfl, ?_, hm02⟩
      have := hd.low hm1.size
      simpa [partP, joinP] using this
    | true =>
      rw [wpC_cond_f (by simp), wpC_skip]
      simp only [thenC]
      rw [wpC_seq, wpC_seq, wpC_blk]
      refine go1 (v := v) rfl (by simp [h0]) ?_
      refine goCall rfl (vs := [v]) (by simp) (known_call hm hkn (hv.keep hm02) (hr.keep hm02) hfl (fun f hf => by have := htag f hf; omega)) ?_
      rintro e w3 ⟨rfl, hm3⟩
      refine ⟨_, rfl, ?_⟩
      rw [knownP_none htag]
      have hm03 := hm02.trans hm3
      refine go1 (v := .int .i64 0) rfl (by simp [wrap_zero]) ?_
      refine go1 rfl rfl (wpR_done ?_)
      rw [wpC_block, wpC_loop]
      refine ⟨fun σ' w' => w' = w3 ∧ σ' 52 = .int .i64 0 ∧ σ' 51 = .int .i64 0 ∧ σ' 0 = v ∧ σ' 7 = .pointer (some ⟨w.heap.size, 0, none⟩) ∧ σ' 10 = .slice none 0 0 ∧ σ' 11 = .int .i64 0 ∧ σ' 9 = σ 9, fun _ _ => 0, ⟨rfl, by simp, by simp, by simp [h0], by simp [h7], by simp [h10], by simp [h11], by simp⟩, ?_⟩
      rintro σ3 w3' ⟨ew, k52, k51, k0, k7, k10, k11, k9⟩
      rw [ew]
      rw [wpC_seq, wpC_blk]
      refine go1 (v := .bool false) rfl (by simp [k52, k51]) (wpR_done ?_)
      rw [wpC_seq, wpC_cond_f (by simp)]
      refine wpC_exit_out3 ?_
      simp only [thenC]
      rw [wpC_seq, wpC_seq, wpC_blk]
      have hb3 : Blk w3 w.heap.size ts := hb1.mod (hm2.trans hm3) (by simp)
      have c3 := fun k => hb3.cell k
      have ht3 := ht.keep hm03
      cases ht with
      | @mk n s tn l u tsv lv uv tss uss g1 g2 g3 g4 g5 =>
      have hku : ∀ p ∈ u, p.1 < 4294967296 := by simp only [TR.kok] at hk; exact hk.1
      refine go1 (v := v) rfl (by simp [k0]) ?_
      refine go1 (v := .pointer (some ⟨w.heap.size, 4, none⟩)) rfl (by simp [k7]) ?_
      refine go1 (v := uv) rfl (by simp [c3]) ?_
      refine goCall rfl (vs := [v, uv]) (by simp) (unknown_call hm hun hkn (hv.keep hm03) (hr.keep hm03) hfl (fun f hf => by have := htag f hf; omega) (g4.keep hm03) (g5.keep hm03)) ?_
      rintro e w4 ⟨lv4, ucs, rfl, hl4, hu4, hm4⟩
      refine ⟨_, rfl, ?_⟩
      have hm04 := hm03.trans hm4
      have hpl : partP ver true fs (.mk n s tn l u) = bodyP ver true fs 0 (.mk n s tn l u) ++ (uvE (unknownP fs u).length ++ tagsP (unknownP fs u)) := by simp [partP, joinP, TR.u]
      rw [hpl] at hlen ⊢
      have hku' := unknownP_kok (fs := fs) hku
      have hul := unknownP_length fs u
      generalize unknownP fs u = U at hl4 hu4 hlen hku' hul ⊢
      obtain ⟨ub, uc, eu⟩ := hl4.shape
      have hdr : DRaw w4 w1.heap.size (σ 9) (bodyP ver true fs 0 (.mk n s tn l u)) := hd.keep (hm3.trans hm4)
      refine go1 (v := .int .i64 (U.length : Nat)) rfl (by simp [eu]) ?_
      refine go1 rfl rfl (wpR_done ?_)
      refine rangeLoop (n := U.length)
        (fun j σ' w' => σ' 100 = lv4 ∧ σ' 102 = .int .i64 (j : Nat) ∧ σ' 101 = .int .i64 (U.length : Nat) ∧ σ' 11 = .int .i64 (j : Nat) ∧ σ' 9 = σ 9 ∧ DRaw w' w4.heap.size (σ' 10) (tagsP (U.take j)) ∧ Mod [] w4 w')
        (by omega) (by omega) (fun j σ w h => ⟨h.2.1, h.2.2.1⟩) ?_ ?_ ?_
      · exact ⟨by simp, by simp, by simp, by simp [k11], by simp [k9], by simpa [tagsP, k10] using DRaw.nil w4 _, Mod.refl _ _⟩
      · rintro j σ5 w5 hj ⟨q100, q102, q101, q11, q9, qd, qm⟩
        obtain ⟨p, hp⟩ : ∃ p, U[j]? = some p := ⟨_, List.getElem?_eq_getElem hj⟩
        obtain ⟨psv, hps, hpsv⟩ := hu4.nth hp
        obtain ⟨a, c, ea, hjn, hcell⟩ := hl4.flat hu4.length hu4.two hps
        have hpm := List.mem_of_getElem? hp
        have hsn := tagsP_snoc hp
        refine part_tag (w0 := w4) (n := U.length) (c := c) (a := a) (k := p.1) (b := p.2) hm hu hw qm (by simp [q100, ea]) (by simp [q102]) hj hul (by simp [q11]) (hku' p hpm) hcell hpsv (by simpa using qd) (by
          rw [← hsn]
          have := flatMap_take_le (fun p : Nat × List UInt8 => uvE p.1 ++ (uvE (wholeP p.2).length ++ wholeP p.2)) U (j + 1)
          simp only [List.length_append] at hlen
          unfold tagsP at hlen ⊢; omega) fun σ' w' hfr h11' hd' hm' => ?_
        rw [← hsn] at hd'
        simp only [rngP]
        have g : ∀ s, s < 104 → s ≠ 10 → s ≠ 11 → s ≠ 19 → s ≠ 20 → s ≠ 103 → σ' s = σ5 s := fun s s1 s2 s3 s4 s5 s6 => by rw [hfr s s1 s2 s3 s4 s5, upd_ne _ _ s6]
        refine ⟨by rw [g 102 (by omega) (by omega) (by omega) (by omega) (by omega) (by omega)]; exact q102, ?_, by simp, ?_, ?_, ?_, ?_, hm'⟩
        · simp only [upd]; rw [if_neg (by omega), if_neg (by omega), g 100 (by omega) (by omega) (by omega) (by omega) (by omega) (by omega)]; exact q100
        · simp only [upd]; rw [if_neg (by omega), if_neg (by omega), g 101 (by omega) (by omega) (by omega) (by omega) (by omega) (by omega)]; exact q101
        · simp only [upd]; rw [if_neg (by omega), if_neg (by omega)]; exact h11'
        · simp only [upd]; rw [if_neg (by omega), if_neg (by omega), g 9 (by omega) (by omega) (by omega) (by omega) (by omega) (by omega)]; exact q9
        · simpa [upd] using hd'
      · rintro σ5 w5 ⟨q100, q102, q101, q11, q9, qd, qm⟩
        rw [List.take_of_length_le (Nat.le_refl _)] at qd
        have hm05 := hm04.trans qm
        simp only [List.length_append] at hlen
        simp only [thenC]
        rw [wpC_seq, wpC_blk]
        refine go1 (v := σ 9) rfl (by simp [q9]) ?_
        refine go1 (v := .int .i64 (U.length : Nat)) rfl (by simp [q11]) ?_
        refine go1 (v := .int .u64 (U.length : Nat)) rfl (by simp [u64_natS (n := U.length) (by omega)]) ?_
        refine goCall rfl (vs := [.int .u64 (U.length : Nat)]) (by simp) (uvarint_call hm hu (by omega)) ?_
        rintro e w6 ⟨v6, rfl, hd6, hm6⟩
        refine ⟨v6, rfl, ?_⟩
        have r0 := hdr.keep (qm.trans hm6)
        have hm16 : Mod [] w1 w6 := (hm2.trans hm3).trans ((hm4.trans qm).trans hm6)
        refine goC rfl ?_
        refine append_run (n0 := w1.heap.size) (v := σ 9) (by simp) r0 hm16.size (k := uvE U.length) (by simpa using hd6.src) (by omega) fun v7 w7 ha7 => ?_
        have hm17 := ha7.mod0 r0 hm16
        have qd7 : DRaw w7 w4.heap.size (σ5 10) (tagsP U) := (qd.keep hm6).mod ha7.mod fun b hb hc => by
          have h1 := (qd.own hb).1
          have h2 := (hdr.own (b := b) (by simpa using hc)).2
          omega
        refine go1 (v := σ5 10) rfl (by simp) ?_
        refine goC rfl ?_
        refine append_run (n0 := w1.heap.size) (v := v7) (by simp) ha7.raw hm17.size (k := tagsP U) (by simpa using qd7.src) (by simp only [List.length_append]; omega) fun v8 w8 ha8 => ?_
        have hm18 := ha8.mod0 ha7.raw hm17
        refine go1 (v := v8) rfl (by simp) (wpR_done ?_)
        refine ret1 (v := v8) (by simp) ⟨v8, rfl, ?_, hm1.trans hm18⟩
        have := ha8.raw.low hm1.size
        simpa [List.append_assoc] using this
end
end Go.Msk

namespace Go.Msk
open Go.RowKit
set_option maxRecDepth 100000
mutual
/-- No field, of the parts within too, has a tag; the lists of fields are short. -/
def FD.plain : FD → Bool
  | .mk _ _ _ _ tag _ _ sub => decide (tag < 0) && (decide (sub.length < 1000) && FD.plainL sub)
def FD.plainL : List FD → Bool
  | [] => true
  | f :: l => f.plain && FD.plainL l
end
structure SLib (P : Program) (F : Nat → Nat) : Prop where
  mixed : P.follows .mixedOrders = true
  has : liftF P (F sHas) = some (ir_sHas F)
  null : liftF P (F sNull) = some (ir_sNull F)
  whole : liftF P (F sWhole) = some (ir_sWhole F)
  things : liftF P (F sThings) = some (ir_sThings F)
  at_ : liftF P (F sAt) = some (ir_sAt F)
  uvarint : liftF P (F sUvarint) = some (ir_sUvarint F)
  fixed : liftF P (F sFixed) = some (ir_sFixed F)
  width : liftF P (F sWidth) = some (ir_sWidth F)
  counted : liftF P (F sCounted) = some (ir_sCounted F)
  value : liftF P (F sValue) = some (ir_sValue F)
  field : liftF P (F sField) = some (ir_sField F)
  known : liftF P (F sKnown) = some (ir_sKnown F)
  unknown : liftF P (F sUnknown) = some (ir_sUnknown F)
  part : liftF P (F sPart) = some (ir_sPart F)
  write : liftF P (F sWrite) = some (ir_sWrite F)
theorem FD.plainL_mem : ∀ {l : List FD}, FD.plainL l = true → ∀ f ∈ l, f.plain = true
  | [], _, f, h => by simp at h
  | a :: l, hl, f, h => by
    simp only [FD.plainL, Bool.and_eq_true] at hl
    rcases List.mem_cons.1 h with rfl | h
    · exact hl.1
    · exact FD.plainL_mem hl.2 f h
theorem FD.plain.tag {f : FD} (h : f.plain = true) : f.tag < 0 := by
  cases f
  simp only [FD.plain, Bool.and_eq_true, decide_eq_true_eq] at h
  exact h.1
section
variable {P : Program} {F : Nat → Nat}
mutual
theorem FD.fieldC (L : SLib P F) (ver : Int) (flex : Bool) : ∀ f : FD, f.plain = true → FieldC P F ver flex f
  | .mk kind frm to null tag dfl of sub, h => by
    simp only [FD.plain, Bool.and_eq_true, decide_eq_true_eq] at h
    have hp : PartC P F ver flex sub := part_call L.mixed L.part L.has L.at_ L.uvarint L.whole L.known L.unknown (FD.fieldsC L ver flex sub h.2.2) (fun f hf => FD.plain.tag (FD.plainL_mem h.2.2 f hf)) (by omega)
    exact field_call L.mixed L.field L.null L.things L.counted L.uvarint L.fixed (fun k => value_call L.mixed L.value L.whole L.counted L.uvarint L.fixed L.width fun _ => hp) hp
theorem FD.fieldsC (L : SLib P F) (ver : Int) (flex : Bool) : ∀ l : List FD, FD.plainL l = true → ∀ f ∈ l, FieldC P F ver flex f
  | [], _, f, hf => by simp at hf
  | a :: l, h, f, hf => by
    simp only [FD.plainL, Bool.and_eq_true] at h
    rcases List.mem_cons.1 hf with e | hf
    · rw [e]; exact FD.fieldC L ver flex a h.1
    · exact FD.fieldsC L ver flex l h.2 f hf
end
theorem partC_plain (L : SLib P F) (ver : Int) (flex : Bool) {fs : List FD} (h : FD.plainL fs = true) (hl : fs.length < 1000) : PartC P F ver flex fs :=
  part_call L.mixed L.part L.has L.at_ L.uvarint L.whole L.known L.unknown (FD.fieldsC L ver flex fs h) (fun f hf => FD.plain.tag (FD.plainL_mem h f hf)) (by omega)
structure MD where
  fs : List FD
  flex : Int
  deriving Inhabited
def MD.isFlex (m : MD) (ver : Int) : Bool := decide (m.flex ≥ 0) && decide (ver ≥ m.flex)
def writeP (m : MD) (ver : Int) (t : TR) : List UInt8 := partP ver (m.isFlex ver) m.fs t
inductive RepM (ok : Nat → Prop) (w : World) : MD → List Value → Prop
  | mk {fs : List FD} {flex : Int} {v : Value} {css : List (List Value)} : SlC ok w v fs.length css.flatten → RepFL ok w fs css → RepM ok w ⟨fs, flex⟩ [v, .int .i64 flex]
theorem RepM.keep {w w' : World} {m : MD} {cs : List Value} (h : RepM anyB w m cs) (hm : Mod [] w w') : RepM anyB w' m cs := by
  cases h with | mk h1 h2 => exact .mk (h1.keep hm) (h2.keep hm)
attribute [local simp] gOk updo upd ev RK.val? isShift intBin Addr.add_mk args0 Value.cells undef
def WriteC (P : Program) (F : Nat → Nat) (m : MD) (ver : Int) : Prop :=
  ∀ (w : World) (ms : List Value) (t : TR) (ts : List Value), RepM anyB w m ms → RepT anyB w t ts → t.kok → (writeP m ver t).length ≤ lim →
    Calls P (F sWrite) [.agg ms.toArray, .int .i64 ver, .agg ts.toArray].toArray w (BytesR w (writeP m ver t))
theorem write_call (hm : P.follows .mixedOrders = true) (h : liftF P (F sWrite) = some (ir_sWrite F)) {m : MD} {ver : Int} (hp : PartC P F ver (m.isFlex ver) m.fs) : WriteC P F m ver := by
  intro w ms t ts hms ht hk hlen
  cases hms with
  | @mk fs flex v css h1 h2 =>
  have h5 := ht.five
  unfold ir_sWrite at h
  refine call_of h hm (by simp) ?_
  clear h
  rw [wpC_seq, wpC_blk]
  refine goBox (v := .agg #[v, .int .i64 flex]) (by simp) fun w1 hb1 hm1 => ?_
  refine goBox (v := .agg ts.toArray) (by simp) fun w2 hb2 hm2 => ?_
  have hb1 : Blk w2 w.heap.size [v, .int .i64 flex] := Blk.mod (by simpa using hb1) hm2 (by simp)
  have hb2 : Blk w2 w1.heap.size ts := by simpa using hb2
  have hm02 := hm1.trans hm2
  have c1 := fun k => hb1.cell k
  refine go1 rfl rfl (wpR_done ?_)
  rw [wpC_seq, wpC_blk]
  refine go1 (v := .pointer (some ⟨w.heap.size, 0, none⟩)) rfl (by simp) ?_
  refine go1 (v := v) rfl (by simp [c1]) ?_
  refine go1 (v := .int .i64 ver) rfl (by simp) ?_
  refine go1 (v := .pointer (some ⟨w.heap.size, 1, none⟩)) rfl (by simp) ?_
  refine go1 (v := .int .i64 flex) rfl (by simp [c1]) ?_
  refine go1 (v := .bool (decide (flex ≥ 0))) rfl (by simp) ?_
  refine go1 (v := .bool (decide (flex ≥ 0))) rfl (by simp) ?_
  have fin : ∀ σ : Sl, σ 5 = .pointer (some ⟨w1.heap.size, 0, none⟩) → σ 8 = v → σ 9 = .int .i64 ver → σ 18 = .bool (MD.isFlex ⟨fs, flex⟩ ver) → wpR P [⟨(some (19)), .ldn (.tmp 5) 5, none⟩,
      ⟨(some (20)), .call (F sPart) [.tmp 8, .tmp 9, .tmp 18, .tmp 19], none⟩,
      ⟨(some (6)), .mv (.tmp 20), none⟩] σ w2 (thenC (wpC P .ret (postC [.tmp 6] (BytesR w (writeP ⟨fs, flex⟩ ver t)))) (postC [.tmp 6] (BytesR w (writeP ⟨fs, flex⟩ ver t))) .normal) := by
    intro σ k5 k8 k9 k18
    refine go1 (v := .agg ts.toArray) rfl (by simp [k5, cellsAt_of' hb2.cells h5]) ?_
    refine goCall rfl (vs := [v, .int .i64 ver, .bool (MD.isFlex ⟨fs, flex⟩ ver), .agg ts.toArray]) (by simp [k8, k9, k18]) (hp w2 v css t ts (h1.keep hm02) (h2.keep hm02) (ht.keep hm02) hk hlen) ?_
    rintro e w3 ⟨v3, rfl, hd, hm3⟩
    exact ⟨v3, rfl, go1 (v := v3) rfl (by simp) (wpR_done (ret1 (v := v3) (by simp) ⟨v3, rfl, hd.low hm02.size, hm02.trans hm3⟩))⟩
  by_cases e1 : flex ≥ 0
  · refine go1 (v := .int .i64 ver) (by simp [e1]) (by simp) ?_
    refine go1 (v := .pointer (some ⟨w.heap.size, 1, none⟩)) (by simp [e1]) (by simp) ?_
    refine go1 (v := .int .i64 flex) (by simp [e1]) (by simp [c1]) ?_
    refine go1 (v := .bool (decide (ver ≥ flex))) (by simp [e1]) (by simp) ?_
    refine go1 (v := .bool (decide (ver ≥ flex))) rfl (by simp [e1]) ?_
    exact fin _ (by simp) (by simp) (by simp) (by simp [MD.isFlex, e1] <;> rfl)
  · iterate 4 (refine go0 (by simp [e1]) ?_)
    refine go1 (v := .bool false) rfl (by simp [e1]) ?_
    exact fin _ (by simp) (by simp) (by simp) (by simp [MD.isFlex, e1])
theorem writeC_plain (L : SLib P F) {m : MD} {ver : Int} (h : FD.plainL m.fs = true) (hl : m.fs.length < 1000) : WriteC P F m ver := write_call L.mixed L.write (partC_plain L ver _ h hl)
end
end Go.Msk

namespace Go.Msk
open Go.RowKit
set_option maxRecDepth 100000
def zz3Code : IC × List RV × Nat :=
  (.seq (.blk [⟨some 1, .box (.tmp 0), none⟩, ⟨some 2, .mv (.const (.bool false)), none⟩])
  (.seq (.seq (.blk [⟨some 3, .fad (.tmp 1) 1, none⟩, ⟨some 4, .ld (.tmp 3), none⟩, ⟨some 5, .len (.tmp 4), none⟩, ⟨some 6, .bin .gtr (.tmp 5) (.const (.int .i64 2147483647)), none⟩])
    (.cond (.tmp 6) (.seq (.blk [⟨some 2, .mv (.const (.bool false)), none⟩]) .ret) .skip))
  (.seq (.blk [⟨some 2, .mv (.const (.bool true)), none⟩]) .ret)), [.tmp 2], 7)
def zz2Code (z3 : FuncId) : IC × List RV × Nat :=
  (.seq (.blk [⟨some 2, .mv (.const (.bool false)), none⟩])
  (.seq (.seq (.blk [⟨some 5, .mv (.tmp 0), none⟩, ⟨some 6, .len (.tmp 5), none⟩, ⟨some 7, .bin .gtr (.tmp 6) (.const (.int .i64 2147483647)), none⟩])
    (.cond (.tmp 7) (.seq (.blk [⟨some 2, .mv (.const (.bool false)), none⟩]) .ret) .skip))
  (.seq (.seq (.blk [⟨some 8, .mv (.tmp 0), none⟩, ⟨some 9, .len (.tmp 8), none⟩, ⟨some 10, .mv (.const (.int .i64 0)), none⟩])
    (.block 0 (.loop (.seq (.blk [⟨some 11, .bin .lss (.tmp 10) (.tmp 9), none⟩])
        (.seq (.cond (.tmp 11) .skip (.exit 0))
        (.seq (.block 1 (.seq (.blk [⟨some 12, .iad (.tmp 8) (.tmp 10) 2, none⟩, ⟨some 13, .ldn (.tmp 12) 2, none⟩, ⟨some 4, .alloc [.int .u32 0, .slice none 0 0], none⟩, ⟨none, .st (.tmp 4) 2 (.tmp 13), none⟩])
            (.seq (.blk [⟨some 14, .ldn (.tmp 4) 2, none⟩, ⟨some 15, .call z3 [.tmp 14], none⟩, ⟨some 16, .lnot (.tmp 15), none⟩])
            (.cond (.tmp 16) (.seq (.blk [⟨some 2, .mv (.const (.bool false)), none⟩]) .ret) .skip))))
        (.blk [⟨some 17, .bin .add (.tmp 10) (.const (.int .i64 1)), none⟩, ⟨some 10, .mv (.tmp 17), none⟩])))))))
  (.seq (.blk [⟨some 2, .mv (.const (.bool true)), none⟩]) .ret))), [.tmp 2], 18)
def zz1Code (z2 : FuncId) : IC × List RV × Nat :=
  (.seq (.blk [⟨some 1, .box (.tmp 0), none⟩, ⟨some 2, .mv (.const (.bool false)), none⟩])
  (.seq (.seq (.blk [⟨some 3, .fad (.tmp 1) 1, none⟩, ⟨some 4, .ld (.tmp 3), none⟩, ⟨some 5, .len (.tmp 4), none⟩, ⟨some 6, .bin .gtr (.tmp 5) (.const (.int .i64 2147483647)), none⟩])
    (.cond (.tmp 6) (.seq (.blk [⟨some 2, .mv (.const (.bool false)), none⟩]) .ret) .skip))
  (.seq (.seq (.blk [⟨some 7, .fad (.tmp 1) 3, none⟩, ⟨some 8, .ld (.tmp 7), none⟩, ⟨some 9, .len (.tmp 8), none⟩, ⟨some 10, .bin .gtr (.tmp 9) (.const (.int .i64 2147483647)), none⟩])
    (.cond (.tmp 10) (.seq (.blk [⟨some 2, .mv (.const (.bool false)), none⟩]) .ret) .skip))
  (.seq (.seq (.blk [⟨some 11, .fad (.tmp 1) 4, none⟩, ⟨some 12, .ld (.tmp 11), none⟩, ⟨some 13, .call z2 [.tmp 12], none⟩, ⟨some 14, .lnot (.tmp 13), none⟩])
    (.cond (.tmp 14) (.seq (.blk [⟨some 2, .mv (.const (.bool false)), none⟩]) .ret) .skip))
  (.seq (.blk [⟨some 2, .mv (.const (.bool true)), none⟩]) .ret)))), [.tmp 2], 15)
def BoolR (w : World) : Ending → World → Prop := fun e w' => ∃ b, e = .returned (.bool b) ∧ Mod [] w w'
section
variable {P : Program}
attribute [local simp] gOk updo upd ev RK.val? isShift intBin Addr.add_mk args0 Value.cells undef
theorem zz3_call (hm : P.follows .mixedOrders = true) {f : FuncId} (h : liftF P f = some zz3Code) {w : World} {k : Value} {n : Nat} {b : Option Addr} {c : Nat} : Calls P f [.agg #[k, .slice b n c]].toArray w (BoolR w) := by
  unfold zz3Code at h
  refine call_of h hm (by simp) ?_
  clear h
  rw [wpC_seq, wpC_blk]
  refine goBox (v := .agg #[k, .slice b n c]) (by simp) fun w1 hb1 hm1 => ?_
  have hb1 : Blk w1 w.heap.size [k, .slice b n c] := by simpa using hb1
  have c1 := fun j => hb1.cell j
  refine go1 (v := .bool false) rfl (by simp) (goEnd ?_)
  simp only [thenC]
  rw [wpC_seq, wpC_seq, wpC_blk]
  refine go1 (v := .pointer (some ⟨w.heap.size, 1, none⟩)) rfl (by simp) ?_
  refine go1 (v := .slice b n c) rfl (by simp [c1]) ?_
  refine go1 (v := .int .i64 (n : Nat)) rfl (by simp) ?_
  refine go1 (v := .bool (decide ((n : Int) > 2147483647))) rfl (by simp) (goEnd ?_)
  simp only [thenC]
  by_cases hc : (n : Int) > 2147483647
  · rw [wpC_cond_t (by simp [hc]), wpC_seq, wpC_blk]
    refine go1 (v := .bool false) rfl (by simp) (goEnd ?_)
    simp only [thenC]
    repeat first | refine retThen ?_ | refine retBlk ?_
    exact ret1 (v := .bool false) (by simp) ⟨_, rfl, hm1⟩
  · rw [wpC_cond_f (by simp [hc]), wpC_skip]
    simp only [thenC]
    rw [wpC_seq, wpC_blk]
    refine go1 (v := .bool true) rfl (by simp) (goEnd ?_)
    simp only [thenC]
    exact ret1 (v := .bool true) (by simp) ⟨_, rfl, hm1⟩
theorem zz2_call (hm : P.follows .mixedOrders = true) {f z3 : FuncId} (h : liftF P f = some (zz2Code z3)) (h3 : liftF P z3 = some zz3Code) {w : World} {v : Value} {u : List (Nat × List UInt8)} {uss : List (List Value)} (hv : SlC anyB w v u.length uss.flatten) (hu : RepU anyB w u uss) :
    Calls P f [v].toArray w (BoolR w) := by
  unfold zz2Code at h
  refine call_of h hm (by simp) ?_
  clear h
  obtain ⟨vb, vc, ev'⟩ := hv.shape
  have ul : u.length = uss.length := by
    clear hv ev'
    induction hu with
    | nil => rfl
    | cons _ _ ih => simp [ih]
  rw [wpC_seq, wpC_blk]
  refine go1 (v := .bool false) rfl (by simp) (goEnd ?_)
  simp only [thenC]
  rw [wpC_seq, wpC_seq, wpC_blk]
  refine go1 (v := v) rfl (by simp) ?_
  refine go1 (v := .int .i64 (u.length : Nat)) rfl (by simp [ev']) ?_
  refine go1 (v := .bool (decide ((u.length : Int) > 2147483647))) rfl (by simp) (goEnd ?_)
  simp only [thenC]
  by_cases hc : (u.length : Int) > 2147483647
  · rw [wpC_cond_t (by simp [hc]), wpC_seq, wpC_blk]
    refine go1 (v := .bool false) rfl (by simp) (goEnd ?_)
    simp only [thenC]
    repeat first | refine retThen ?_ | refine retBlk ?_
    exact ret1 (v := .bool false) (by simp) ⟨_, rfl, Mod.refl _ _⟩
  · rw [wpC_cond_f (by simp [hc]), wpC_skip]
    simp only [thenC]
    rw [wpC_seq, wpC_seq, wpC_blk]
    refine go1 (v := v) rfl (by simp) ?_
    refine go1 (v := .int .i64 (u.length : Nat)) rfl (by simp [ev']) ?_
    refine go1 (v := .int .i64 (0 : Nat)) rfl (by simp) (goEnd ?_)
    simp only [thenC]
    refine rangeLoop (n := u.length) (fun j σ w' => σ 8 = v ∧ σ 10 = .int .i64 (j : Nat) ∧ σ 9 = .int .i64 (u.length : Nat) ∧ Mod [] w w') (by omega) (by omega) (fun j σ w h => ⟨h.2.1, h.2.2.1⟩) ?_ ?_ ?_
    · exact ⟨by simp, by simp, by simp, Mod.refl _ _⟩
    · rintro j σ w1 hj ⟨k8, k10, k9, hm1⟩
      have hsh : ∀ {u : List (Nat × List UInt8)} {uss : List (List Value)}, RepU anyB w u uss → ∀ c ∈ uss, ∃ a b n d, c = [a, .slice b n d] := by
        intro u uss h
        induction h with
        | nil => simp
        | cons h _ ih =>
          intro c hc
          rcases List.mem_cons.1 hc with rfl | hc
          · obtain ⟨b, d, e⟩ := h.shape
            exact ⟨_, b, _, d, by rw [e]⟩
          · exact ih c hc
      have hc1 : uss[j]? = some uss[j] := List.getElem?_eq_getElem (by omega)
      obtain ⟨ka, kb, kn, kd, ek⟩ := hsh hu _ (List.mem_of_getElem? hc1)
      have hsz : ∀ c ∈ uss, c.length = 2 := fun c hc => by obtain ⟨a, b, n, d, rfl⟩ := hsh hu c hc; rfl
      obtain ⟨base, cap, e1, e2, e3, e4⟩ := hv
      cases base with
      | none => have := e3 rfl; omega
      | some a =>
        obtain ⟨-, q2, q3⟩ := e4 a rfl (by omega)
        obtain ⟨ab, ao, as⟩ := a
        have eb : as = none := q3.1
        subst eb
        have hce := q3.each hsz hc1
        rw [ek] at hce
        have hld := cellsAt_of' (hce.mod hm1 (.inr (by simp))) (show [ka, Value.slice kb kn kd].length = 2 from rfl)
        subst e1
        rw [wpC_seq, wpC_blk]
        refine go1 (v := .pointer (some ⟨ab, ao + j * 2, none⟩)) rfl (by simp [k8, k10, hj]) ?_
        refine go1 (v := .agg #[ka, .slice kb kn kd]) rfl (by simp [hld]) ?_
        refine goAlloc fun w2 hb2 hm2 => ?_
        have hone : ∀ y ∈ (Value.agg #[ka, .slice kb kn kd]).cells.toList, y.oneCell' = true := by
          have hku : ∀ {u : List (Nat × List UInt8)} {uss : List (List Value)}, RepU anyB w u uss → ∀ c ∈ uss, ∀ y ∈ c, y.oneCell' = true := by
            intro u uss h
            induction h with
            | nil => simp
            | cons h _ ih =>
              intro c hc y hy
              rcases List.mem_cons.1 hc with rfl | hc
              · simp only [List.mem_cons, List.not_mem_nil, or_false] at hy
                rcases hy with rfl | rfl
                · rfl
                · exact h.one
              · exact ih c hc y hy
          have := hku hu _ (List.mem_of_getElem? hc1)
          rw [ek] at this
          simpa using this
        refine goSt (b := w1.heap.size) (v := .agg #[ka, .slice kb kn kd]) (by simp) (by simp) hb2 (by simp) (by simp) hone fun w3 hb3 hm3 => goEnd ?_
        simp only [thenC]
        have hb3 : Blk w3 w1.heap.size [ka, .slice kb kn kd] := by simpa using hb3
        have hm13 : Mod [] w1 w3 := Mod.drop (b := w1.heap.size) (S := []) (hm2.nil.trans hm3) (Nat.le_refl _)
        have hld3 := cellsAt_of' hb3.cells (show [ka, Value.slice kb kn kd].length = 2 from rfl)
        rw [wpC_seq, wpC_blk]
        refine go1 (v := .agg #[ka, .slice kb kn kd]) rfl (by simp [hld3]) ?_
        refine goCall rfl (vs := [.agg #[ka, .slice kb kn kd]]) (by simp) (zz3_call hm h3) ?_
        rintro e w4 ⟨b, rfl, hm4⟩
        refine ⟨_, rfl, go1 (v := .bool !b) rfl (by simp) (goEnd ?_)⟩
        simp only [thenC]
        have hm04 := (hm1.trans hm13).trans hm4
        cases b with
        | false =>
          rw [wpC_cond_t (by simp), wpC_seq, wpC_blk]
          refine go1 (v := .bool false) rfl (by simp) (goEnd ?_)
          simp only [thenC]
          repeat first | refine retThen ?_ | refine retBlk ?_ | refine retRng ?_
          exact ret1 (v := .bool false) (by simp) ⟨_, rfl, hm04⟩
        | true =>
          rw [wpC_cond_f (by simp), wpC_skip]
          refine ⟨by simp [k10], by simp [k8], by simp, by simp [k9], hm04⟩
    · rintro σ w1 ⟨-, -, -, hm1⟩
      simp only [thenC]
      rw [wpC_seq, wpC_blk]
      refine go1 (v := .bool true) rfl (by simp) (goEnd ?_)
      simp only [thenC]
      exact ret1 (v := .bool true) (by simp) ⟨_, rfl, hm1⟩
theorem zz1_call (hm : P.follows .mixedOrders = true) {f z2 z3 : FuncId} (h : liftF P f = some (zz1Code z2)) (h2 : liftF P z2 = some (zz2Code z3)) (h3 : liftF P z3 = some zz3Code) {w : World} {t : TR} {ts : List Value} (ht : RepT anyB w t ts) :
    Calls P f [.agg ts.toArray].toArray w (BoolR w) := by
  unfold zz1Code at h
  refine call_of h hm (by simp) ?_
  clear h
  cases ht with
  | @mk n s null l u sv lv uv css uss q1 q2 q3 q4 q5 =>
  obtain ⟨b1, c1, e1⟩ := q1.shape
  obtain ⟨b2, c2, e2⟩ := q2.shape
  rw [wpC_seq, wpC_blk]
  refine goBox (v := .agg #[.int .i64 n, sv, .bool null, lv, uv]) (by simp) fun w1 hb1 hm1 => ?_
  have hb1 : Blk w1 w.heap.size [.int .i64 n, sv, .bool null, lv, uv] := by simpa using hb1
  have cc := fun j => hb1.cell j
  refine go1 (v := .bool false) rfl (by simp) (goEnd ?_)
  simp only [thenC]
  rw [wpC_seq, wpC_seq, wpC_blk]
  refine go1 (v := .pointer (some ⟨w.heap.size, 1, none⟩)) rfl (by simp) ?_
  refine go1 (v := sv) rfl (by simp [cc]) ?_
  refine go1 (v := .int .i64 (s.length : Nat)) rfl (by simp [e1]) ?_
  refine go1 (v := .bool (decide ((s.length : Int) > 2147483647))) rfl (by simp) (goEnd ?_)
  simp only [thenC]
  by_cases hc : (s.length : Int) > 2147483647
  · rw [wpC_cond_t (by simp [hc]), wpC_seq, wpC_blk]
    refine go1 (v := .bool false) rfl (by simp) (goEnd ?_)
    simp only [thenC]
    repeat first | refine retThen ?_ | refine retBlk ?_
    exact ret1 (v := .bool false) (by simp) ⟨_, rfl, hm1⟩
  rw [wpC_cond_f (by simp [hc]), wpC_skip]
  simp only [thenC]
  rw [wpC_seq, wpC_seq, wpC_blk]
  refine go1 (v := .pointer (some ⟨w.heap.size, 3, none⟩)) rfl (by simp) ?_
  refine go1 (v := lv) rfl (by simp [cc]) ?_
  refine go1 (v := .int .i64 (l.length : Nat)) rfl (by simp [e2]) ?_
  refine go1 (v := .bool (decide ((l.length : Int) > 2147483647))) rfl (by simp) (goEnd ?_)
  simp only [thenC]
  by_cases hc2 : (l.length : Int) > 2147483647
  · rw [wpC_cond_t (by simp [hc2]), wpC_seq, wpC_blk]
    refine go1 (v := .bool false) rfl (by simp) (goEnd ?_)
    simp only [thenC]
    repeat first | refine retThen ?_ | refine retBlk ?_
    exact ret1 (v := .bool false) (by simp) ⟨_, rfl, hm1⟩
  rw [wpC_cond_f (by simp [hc2]), wpC_skip]
  simp only [thenC]
  rw [wpC_seq, wpC_seq, wpC_blk]
  refine go1 (v := .pointer (some ⟨w.heap.size, 4, none⟩)) rfl (by simp) ?_
  refine go1 (v := uv) rfl (by simp [cc]) ?_
  refine goCall rfl (vs := [uv]) (by simp) (zz2_call hm h2 h3 (q4.keep hm1) (q5.mod hm1 (by simp) fun _ _ _ => trivial)) ?_
  rintro e w2 ⟨b, rfl, hm2⟩
  refine ⟨_, rfl, go1 (v := .bool !b) rfl (by simp) (goEnd ?_)⟩
  simp only [thenC]
  have hm02 := hm1.trans hm2
  cases b with
  | false =>
    rw [wpC_cond_t (by simp), wpC_seq, wpC_blk]
    refine go1 (v := .bool false) rfl (by simp) (goEnd ?_)
    simp only [thenC]
    repeat first | refine retThen ?_ | refine retBlk ?_
    exact ret1 (v := .bool false) (by simp) ⟨_, rfl, hm02⟩
  | true =>
    rw [wpC_cond_f (by simp), wpC_skip]
    simp only [thenC]
    rw [wpC_seq, wpC_blk]
    refine go1 (v := .bool true) rfl (by simp) (goEnd ?_)
    simp only [thenC]
    exact ret1 (v := .bool true) (by simp) ⟨_, rfl, hm02⟩
end
end Go.Msk

namespace Go.Msk
open Go.RowKit
set_option maxRecDepth 100000
def behLaw (zz mx sm ver wr beh same : FuncId) : IC × List RV × Nat :=
  (.seq (.blk [⟨some 5, .box (.tmp 2), none⟩, ⟨some 6, .mv (.const (.bool false)), none⟩])
  (.seq (.seq (.blk [⟨some 13, .mv (.tmp 1), none⟩, ⟨some 14, .len (.tmp 13), none⟩, ⟨some 15, .bin .gtr (.tmp 14) (.const (.int .i64 2147483647)), none⟩, ⟨some 16, .mv (.tmp 15), none⟩,
        ⟨some 17, .ldn (.tmp 5) 5, some (16, false)⟩, ⟨some 18, .call zz [.tmp 17], some (16, false)⟩, ⟨some 19, .lnot (.tmp 18), some (16, false)⟩, ⟨some 20, .pick (.tmp 16) (.const (.bool true)) (.tmp 19), none⟩])
    (.cond (.tmp 20) (.seq (.blk [⟨some 6, .mv (.const (.bool true)), none⟩]) .ret) .skip))
  (.seq (.blk [⟨some 21, .call mx [], none⟩, ⟨some 7, .mv (.tmp 21), none⟩])
  (.seq (.seq (.blk [⟨some 22, .mv (.tmp 7), none⟩, ⟨some 23, .bin .lss (.tmp 22) (.const (.int .i64 0)), none⟩])
    (.cond (.tmp 23) (.seq (.blk [⟨some 6, .mv (.const (.bool false)), none⟩]) .ret) .skip))
  (.seq (.blk [⟨some 24, .call sm [], none⟩, ⟨some 25, .mv (.tmp 0), none⟩, ⟨some 26, .mv (.tmp 7), none⟩, ⟨some 27, .call ver [.tmp 25, .tmp 26], none⟩, ⟨some 8, .alloc [.slice none 0 0, .int .i64 0], none⟩, ⟨none, .st (.tmp 8) 2 (.tmp 24), none⟩, ⟨some 9, .mv (.tmp 27), none⟩])
  (.seq (.seq (.blk [⟨some 28, .mv (.tmp 1), none⟩, ⟨some 29, .len (.tmp 28), none⟩, ⟨some 30, .bin .gtr (.tmp 29) (.const (.int .i64 1000)), none⟩])
    (.cond (.tmp 30) (.seq (.blk [⟨some 6, .mv (.const (.bool true)), none⟩]) .ret) .skip))
  (.seq (.blk [⟨some 31, .ldn (.tmp 8) 2, none⟩, ⟨some 32, .mv (.tmp 9), none⟩, ⟨some 33, .ldn (.tmp 5) 5, none⟩, ⟨some 34, .call wr [.tmp 31, .tmp 32, .tmp 33], none⟩, ⟨some 10, .mv (.tmp 34), none⟩])
  (.seq (.blk [⟨some 36, .mv (.tmp 9), none⟩, ⟨some 37, .mv (.tmp 1), none⟩, ⟨some 38, .mv (.tmp 10), none⟩, ⟨some 39, .call beh [.tmp 36, .tmp 37, .tmp 38], none⟩, ⟨some 35, .mv (.tmp 39), none⟩, ⟨some 40, .ext (.tmp 35) 0, none⟩, ⟨some 41, .ext (.tmp 35) 1, none⟩, ⟨some 11, .mv (.tmp 40), none⟩, ⟨some 12, .mv (.tmp 41), none⟩])
  (.seq (.blk [⟨some 42, .mv (.tmp 12), none⟩, ⟨some 43, .mv (.tmp 42), none⟩, ⟨some 44, .mv (.tmp 11), some (43, true)⟩, ⟨some 45, .bslice 0 [.int .u8 0] [], some (43, true)⟩, ⟨some 46, .mv (.tmp 1), some (43, true)⟩, ⟨some 47, .append (.tmp 45) (.tmp 46) 1 1, some (43, true)⟩,
      ⟨some 48, .mv (.tmp 10), some (43, true)⟩, ⟨some 49, .append (.tmp 47) (.tmp 48) 1 1, some (43, true)⟩, ⟨some 50, .call same [.tmp 44, .tmp 49], some (43, true)⟩, ⟨some 51, .pick (.tmp 43) (.tmp 50) (.const (.bool false)), none⟩, ⟨some 6, .mv (.tmp 51), none⟩])
  .ret)))))))), [.tmp 6], 52)
section
variable {P : Program} {F : Nat → Nat}
attribute [local simp] gOk updo upd ev RK.val? isShift intBin Addr.add_mk args0 Value.cells undef
def BehOf (P : Program) (beh : FuncId) (m : MD) (most : Int) (g : Nat) (Te : TypeId) (ve : Value) : Prop :=
  ∀ (w : World) (ver : Int) (t : TR) (dv sv : Value) (ld : List UInt8), t.kok → (writeP m ver t).length + 1000 ≤ lim → 0 ≤ ver → ver ≤ most → ld.length ≤ 1000 → SlC anyB w dv ld.length (u8s ld) → SlC anyB w sv (writeP m ver t).length (u8s (writeP m ver t)) → GErr g w Te ve →
    Calls P beh [.int .i64 ver, dv, sv].toArray w fun e w' => ∃ v', e = .returned (.tuple #[v', .bool true]) ∧ SlC anyB w' v' (ld ++ writeP m ver t).length (u8s (ld ++ writeP m ver t)) ∧ Mod [] w w'
theorem beh_law (hm : P.follows .mixedOrders = true) {f zz mx sm ver wr beh same g : FuncId} (h : liftF P f = some (behLaw zz mx sm ver wr beh same)) {m : MD} {most : Int} (hmost : 0 ≤ most ∧ most < 32768)
    (hzz : ∀ (w : World) (t : TR) (ts : List Value), RepT anyB w t ts → Calls P zz [.agg ts.toArray].toArray w (BoolR w))
    (hmx : ∀ w, Calls P mx #[] w fun e w' => e = .returned (.int .i64 most) ∧ Mod [] w w')
    (hsm : ∀ w, Calls P sm #[] w fun e w' => ∃ cs, e = .returned (.agg cs.toArray) ∧ RepM anyB w' m cs ∧ Mod [] w w')
    (hver : ∀ w n, 0 ≤ n ∧ n < 256 → Calls P ver [.int .u8 n, .int .i64 most].toArray w fun e w' => e = .returned (.int .i64 (n % (most + 1))) ∧ w' = w)
    (hwr : ∀ (v : Int) (w : World) (ms : List Value) (t : TR) (ts : List Value), RepM anyB w m ms → RepT anyB w t ts → t.kok → (writeP m v t).length ≤ lim → Calls P wr [.agg ms.toArray, .int .i64 v, .agg ts.toArray].toArray w (BytesR w (writeP m v t)))
    {Te : TypeId} {ve : Value} (hbeh : BehOf P beh m most g Te ve)
    (hsame : ∀ (w : World) (v1 v2 : Value) (l1 l2 : List UInt8), SlC anyB w v1 l1.length (u8s l1) → SlC anyB w v2 l2.length (u8s l2) → l1.length ≤ 4611686018427387904 → Calls P same [v1, v2].toArray w fun e w' => e = .returned (.bool (decide (l1 = l2))) ∧ Mod [] w w')
    {w : World} {n : Int} (hn : 0 ≤ n ∧ n < 256) {dv : Value} {ld : List UInt8} {t : TR} {ts : List Value} (hd : SlC anyB w dv ld.length (u8s ld)) (ht : RepT anyB w t ts) (hk : t.kok) (hlen : ∀ v, (writeP m v t).length + 1000 ≤ lim) (hg : GErr g w Te ve) :
    Calls P f [.int .u8 n, dv, .agg ts.toArray].toArray w fun e w' => e = .returned (.bool true) ∧ Mod [] w w' := by
  unfold behLaw at h
  refine call_of h hm (by simp) ?_
  clear h
  obtain ⟨db, dc, ed⟩ := hd.shape
  have h5 := ht.five
  rw [wpC_seq, wpC_blk]
  refine goBox (v := .agg ts.toArray) (by simp) fun w1 hb1 hm1 => ?_
  have hb1 : Blk w1 w.heap.size ts := by simpa using hb1
  refine go1 (v := .bool false) rfl (by simp) (goEnd ?_)
  simp only [thenC]
  rw [wpC_seq, wpC_seq, wpC_blk]
  refine go1 (v := dv) rfl (by simp) ?_
  refine go1 (v := .int .i64 (ld.length : Nat)) rfl (by simp [ed]) ?_
  refine go1 (v := .bool (decide ((ld.length : Int) > 2147483647))) rfl (by simp) ?_
  refine go1 (v := .bool (decide ((ld.length : Int) > 2147483647))) rfl (by simp) ?_
  have hload1 := cellsAt_of' hb1.cells h5
  by_cases hc : (ld.length : Int) > 2147483647
  · iterate 3 (refine go0 (by simp [hc]) ?_)
    refine go1 (v := .bool true) rfl (by simp [hc]) (goEnd ?_)
    simp only [thenC]
    rw [wpC_cond_t (by simp), wpC_seq, wpC_blk]
    refine go1 (v := .bool true) rfl (by simp) (goEnd ?_)
    simp only [thenC]
    repeat first | refine retThen ?_ | refine retBlk ?_
    exact ret1 (v := .bool true) (by simp) ⟨rfl, hm1⟩
  refine go1 (v := .agg ts.toArray) (by simp [hc]) (by simp [hload1]) ?_
  refine goCall (by simp [hc]) (vs := [.agg ts.toArray]) (by simp) (hzz w1 t ts (ht.keep hm1)) ?_
  rintro e w2 ⟨zb, rfl, hm2⟩
  have hm02 := hm1.trans hm2
  refine ⟨_, rfl, ?_⟩
  refine go1 (v := .bool !zb) (by simp [hc]) (by simp) ?_
  refine go1 (v := .bool !zb) rfl (by simp [hc]) (goEnd ?_)
  simp only [thenC]
  cases zb with
  | false =>
    rw [wpC_cond_t (by simp), wpC_seq, wpC_blk]
    refine go1 (v := .bool true) rfl (by simp) (goEnd ?_)
    simp only [thenC]
    repeat first | refine retThen ?_ | refine retBlk ?_
    exact ret1 (v := .bool true) (by simp) ⟨rfl, hm02⟩
  | true =>
  rw [wpC_cond_f (by simp), wpC_skip]
  simp only [thenC]
  rw [wpC_seq, wpC_blk]
  refine goCall rfl (vs := []) rfl (hmx w2) ?_
  rintro e w3 ⟨rfl, hm3⟩
  have hm03 := hm02.trans hm3
  refine ⟨_, rfl, go1 (v := .int .i64 most) rfl (by simp) (goEnd ?_)⟩
  simp only [thenC]
  rw [wpC_seq, wpC_seq, wpC_blk]
  refine go1 (v := .int .i64 most) rfl (by simp) ?_
  refine go1 (v := .bool false) rfl (by simp; omega) (goEnd ?_)
  simp only [thenC]
  rw [wpC_cond_f (by simp), wpC_skip]
  simp only [thenC]
  rw [wpC_seq, wpC_blk]
  refine goCall rfl (vs := []) rfl (hsm w3) ?_
  rintro e w4 ⟨cs, rfl, hrm, hm4⟩
  have hm04 := hm03.trans hm4
  refine ⟨_, rfl, ?_⟩
  obtain ⟨cv, cfl, rfl, hone⟩ : ∃ a b, cs = [a, .int .i64 b] ∧ a.oneCell' = true := by cases hrm with | mk q1 q2 => exact ⟨_, _, rfl, q1.one⟩
  refine go1 (v := .int .u8 n) rfl (by simp) ?_
  refine go1 (v := .int .i64 most) rfl (by simp) ?_
  refine goCall rfl (vs := [.int .u8 n, .int .i64 most]) (by simp) (hver w4 n hn) ?_
  rintro e w5 ⟨rfl, e5⟩
  subst e5
  refine ⟨_, rfl, ?_⟩
  refine goAlloc fun w6 hb6 hm6 => ?_
  refine goSt (b := w5.heap.size) (v := .agg #[cv, .int .i64 cfl]) (by simp) (by simp) hb6 (by simp) (by simp) (by
    intro y hy
    simp only [Value.cells, List.mem_cons, List.not_mem_nil, or_false] at hy
    rcases hy with rfl | rfl
    · exact hone
    · rfl) fun w7 hb7 hm7 => ?_
  have hb7 : Blk w7 w5.heap.size [cv, .int .i64 cfl] := by simpa using hb7
  have hm57 : Mod [] w5 w7 := Mod.drop (b := w5.heap.size) (S := []) (hm6.nil.trans hm7) (Nat.le_refl _)
  have hm07 := hm04.trans hm57
  have hv0 : 0 ≤ n % (most + 1) := Int.emod_nonneg _ (by omega)
  have hv1 : n % (most + 1) ≤ most := by have := Int.emod_lt_of_pos n (show 0 < most + 1 by omega); omega
  generalize n % (most + 1) = vr at hv0 hv1 ⊢
  refine go1 (v := .int .i64 vr) rfl (by simp) (goEnd ?_)
  simp only [thenC]
  rw [wpC_seq, wpC_seq, wpC_blk]
  refine go1 (v := dv) rfl (by simp) ?_
  refine go1 (v := .int .i64 (ld.length : Nat)) rfl (by simp [ed]) ?_
  refine go1 (v := .bool (decide ((ld.length : Int) > 1000))) rfl (by simp) (goEnd ?_)
  simp only [thenC]
  by_cases hc2 : (ld.length : Int) > 1000
  · rw [wpC_cond_t (by simp [hc2]), wpC_seq, wpC_blk]
    refine go1 (v := .bool true) rfl (by simp) (goEnd ?_)
    simp only [thenC]
    repeat first | refine retThen ?_ | refine retBlk ?_
    exact ret1 (v := .bool true) (by simp) ⟨rfl, hm07⟩
  rw [wpC_cond_f (by simp [hc2]), wpC_skip]
  simp only [thenC]
  have hld7 := cellsAt_of' hb7.cells (show [cv, Value.int .i64 cfl].length = 2 from rfl)
  have hb17 : Blk w7 w.heap.size ts := hb1.mod (((hm2.trans hm3).trans hm4).trans hm57) (by simp)
  have hload7 := cellsAt_of' hb17.cells h5
  rw [wpC_seq, wpC_blk]
  refine go1 (v := .agg #[cv, .int .i64 cfl]) rfl (by simp [hld7]) ?_
  refine go1 (v := .int .i64 vr) rfl (by simp) ?_
  refine go1 (v := .agg ts.toArray) rfl (by simp [hload7]) ?_
  refine goCall rfl (vs := [.agg [cv, .int .i64 cfl].toArray, .int .i64 vr, .agg ts.toArray]) (by simp) (hwr vr w7 _ t ts (hrm.keep hm57) (ht.keep hm07) hk (by have := hlen vr; omega)) ?_
  rintro e w8 ⟨sv, rfl, hsd, hm8⟩
  have hm08 := hm07.trans hm8
  refine ⟨_, rfl, go1 (v := sv) rfl (by simp) (goEnd ?_)⟩
  simp only [thenC]
  have hsl : SlC anyB w8 sv (writeP m vr t).length (u8s (writeP m vr t)) := hsd.slc.any
  rw [wpC_seq, wpC_blk]
  refine go1 (v := .int .i64 vr) rfl (by simp) ?_
  refine go1 (v := dv) rfl (by simp) ?_
  refine go1 (v := sv) rfl (by simp) ?_
  refine goCall rfl (vs := [.int .i64 vr, dv, sv]) (by simp) (hbeh w8 vr t dv sv ld hk (hlen vr) hv0 hv1 (by omega) (hd.keep hm08) hsl (cell_mod hg hm08 (by simp))) ?_
  rintro e w9 ⟨ov, rfl, hov, hm9⟩
  have hm09 := hm08.trans hm9
  refine ⟨_, rfl, ?_⟩
  refine go1 (v := .tuple #[ov, .bool true]) rfl (by simp) ?_
  refine go1 (v := ov) rfl (by simp) ?_
  refine go1 (v := .bool true) rfl (by simp) ?_
  refine go1 (v := ov) rfl (by simp) ?_
  refine go1 (v := .bool true) rfl (by simp) (goEnd ?_)
  simp only [thenC]
  rw [wpC_seq, wpC_blk]
  refine go1 (v := .bool true) rfl (by simp) ?_
  refine go1 (v := .bool true) rfl (by simp) ?_
  refine go1 (v := ov) (by simp) (by simp) ?_
  refine goC (by simp) ?_
  simp only [RK.run, List.map_nil, fillL, zrep, List.replicate, List.flatten_nil]
  intro T
  have hb10 := Blk.new w9 ([] : List Value) T
  have hm10 : Mod [] w9 (w9.alloc (.cells #[] T)) := Mod.alloc _ _ _
  show wpR P _ (updo _ (some 45) (.slice (some ⟨w9.heap.size, 0, none⟩) 0 0)) (w9.alloc (.cells #[] T)) _
  generalize w9.alloc (.cells #[] T) = w10 at hb10 hm10 ⊢
  refine go1 (v := dv) (by simp) (by simp) ?_
  refine goC (by simp) ?_
  refine append_run (n0 := w9.heap.size) (v := .slice (some ⟨w9.heap.size, 0, none⟩) 0 0) (l := []) (k := ld) (by simp) ⟨.inr ⟨w9.heap.size, 0, [], rfl, by simp, Nat.le_refl _, by simpa [u8s] using hb10, rfl⟩⟩ hm10.size
    (by have := ((hd.keep hm09).keep hm10).src; simpa using this) (by have := hlen vr; simp; omega) fun v11 w11 ha11 => ?_
  have hm911 : Mod [] w9 w11 := Mod.drop (b := w9.heap.size) (S := []) (hm10.nil.trans (by simpa [ownB] using ha11.mod)) (Nat.le_refl _)
  refine go1 (v := sv) (by simp) (by simp) ?_
  refine goC (by simp) ?_
  have hraw11 : DRaw w11 w9.heap.size v11 ld := by simpa using ha11.raw
  refine append_run (n0 := w9.heap.size) (v := v11) (l := ld) (k := writeP m vr t) (by simp) hraw11 hm911.size
    (by have := ((hsl.keep hm9).keep hm911).src; simpa using this) (by have := hlen vr; omega) fun v12 w12 ha12 => ?_
  have hm912 : Mod [] w9 w12 := ha12.mod0 hraw11 hm911
  refine goCall (by simp) (vs := [ov, v12]) (by simp) (hsame w12 ov v12 _ _ (hov.keep hm912) ha12.raw.slc.any (by have := hlen vr; unfold lim at this; simp only [List.length_append]; omega)) ?_
  rintro e w13 ⟨rfl, hm13⟩
  refine ⟨_, rfl, ?_⟩
  refine go1 (v := .bool true) rfl (by simp) ?_
  refine go1 (v := .bool true) rfl (by simp) (goEnd ?_)
  simp only [thenC]
  exact ret1 (v := .bool true) (by simp) ⟨rfl, (hm09.trans hm912).trans hm13⟩
end
end Go.Msk
