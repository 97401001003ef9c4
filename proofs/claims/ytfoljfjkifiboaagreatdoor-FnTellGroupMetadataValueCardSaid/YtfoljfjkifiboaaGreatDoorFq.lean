/- A small language of resolved operations, and what the generic and the generated functions do in it (part 17). -/
import Derived.Test.YtfoljfjkifiboaaGreatDoorFp

namespace Go.Msk
open Go.RowKit
set_option maxRecDepth 100000
section
variable {P : Program} {F : Nat → Nat}
attribute [local simp] gOk updo upd ev RK.val? isShift intBin Addr.add_mk args0 Value.cells undef
theorem told_text (hm : P.follows .mixedOrders = true) (hw : liftF P (F sWhole) = some (ir_sWhole F)) (hs : liftF P (F sSame) = some (ir_sSame F)) {w0 w : World} {fb tb gb : Nat} {ver : Int} {flex nl may : Bool} {fcs : List Value} {t0 tsv t2 t3 t4 g0 gsv g2 g3 g4 : Value} {s : List UInt8} {σ : Sl} {Q : Exit → Sl → World → Prop}
    (hS : ToS w0 fb tb gb ver flex nl may fcs [t0, tsv, t2, t3, t4] [g0, gsv, g2, g3, g4] σ) (hm0 : Mod [] w0 w) (h1 : SlC anyB w0 tsv s.length (u8s s)) (h2 : SlC anyB w0 gsv (wholeP s).length (u8s (wholeP s))) (hQ : ∀ σ' w', σ' 10 = .bool true → Mod [] w0 w' → Q .ret σ' w') :
    wpC P (.seq (.drw [⟨⟨(some (53)), .fad (.tmp 9) 1, none⟩, false, []⟩, ⟨⟨(some (54)), .ld (.tmp 53), none⟩, false, []⟩, ⟨⟨(some (55)), .fad (.tmp 8) 1, none⟩, false, []⟩, ⟨⟨(some (56)), .ld (.tmp 55), none⟩, false, []⟩, ⟨⟨(some (57)), .call (F sWhole) [.tmp 56], none⟩, true, []⟩,
      ⟨⟨(some (58)), .call (F sSame) [.tmp 54, .tmp 57], none⟩, true, [4]⟩, ⟨⟨(some (10)), .mv (.tmp 58), none⟩, false, [4, 5]⟩] []) .ret) Q σ w := by
  rw [wpC_seq]
  show wpD P _ [] _ w.drew _
  have hmd : Mod [] w w.drew := Mod.drew _ _
  have c8 := fun k => (hS.bt.mod (hm0.trans hmd) (by simp)).cell k
  have c9 := fun k => (hS.bg.mod (hm0.trans hmd) (by simp)).cell k
  have e8 := hS.s8
  have e9 := hS.s9
  refine wpD_of_B (fun i v w' => match i with | 4 => SlC anyB w' v (wholeP s).length (u8s (wholeP s)) | 5 => v = .bool true | _ => True) (by
    intro i v w w' h hm
    split at h
    · exact h.keep hm
    · exact h
    · trivial) ?_
  refine bo1 (v := .pointer (some ⟨gb, 1, none⟩)) rfl (by simp [e9]) ?_
  refine bo1 (v := gsv) rfl (by simp [c9]) ?_
  refine bo1 (v := .pointer (some ⟨tb, 1, none⟩)) rfl (by simp [e8]) ?_
  refine bo1 (v := tsv) rfl (by simp [c8]) ?_
  refine boCall (vs := [tsv]) rfl (by simp) (fun w' hm' _ => (whole_call hm hw (h1.keep (hm0.trans (hmd.trans hm')))).mono ?_) ?_
  · rintro e w'' ⟨rfl, v', rfl, hv⟩
    exact ⟨_, rfl, Mod.refl _ _, hv⟩
  rintro v ⟨wv, -⟩
  refine boCall (vs := [gsv, v]) rfl (by simp) (fun w' hm' hkn => ?_) ?_
  · have k4 := known_get (j := 4) (t := 57) hkn (by simp) rfl rfl rfl rfl
    have k4 : SlC anyB w' v (wholeP s).length (u8s (wholeP s)) := by simpa using k4
    refine (same_call hm hs (h2.keep (hm0.trans (hmd.trans hm'))) k4 (by have := wholeP_le s; omega)).mono ?_
    rintro e w'' ⟨rfl, hmm⟩
    exact ⟨_, rfl, hmm, by simp⟩
  rintro v2 ⟨wv', ev'⟩
  have ev' : v2 = .bool true := ev'
  subst ev'
  refine bo1 (v := .bool true) rfl (by simp) ?_
  intro w' hm' hkn
  refine goEnd ?_
  simp only [thenC]
  exact hQ _ w' (by simp) (hm0.trans (hmd.trans hm'))
theorem told_core (hm : P.follows .mixedOrders = true) (ht : liftF P (F stold_) = some (ir_stold_ F)) (hnl : liftF P (F sNull) = some (ir_sNull F)) (hw : liftF P (F sWhole) = some (ir_sWhole F)) (hs : liftF P (F sSame) = some (ir_sSame F)) (hth : liftF P (F sThings) = some (ir_sThings F)) (hnum : liftF P (F sNumber) = some numCode)
    {ver : Int} {flex : Bool} {kind frm to null tag dfl of : Int} {sub : List FD} (hp : PartT P F ver flex sub) (hlist : kind = 11 → of ≠ 11 → FieldT P F ver flex (.mk of frm to (-1) (-1) dfl of sub)) : FieldT P F ver flex (.mk kind frm to null tag dfl of sub) := by
  intro w cs t ts g gs hf hT hG htd
  have hf0 := hf
  have hT0 := hT
  have hG0 := hG
  cases hf with
  | @mk _ _ _ _ _ _ _ _ sv css f1 f2 =>
  cases hT with
  | @mk n s tn l u tsv lv uv tss uss a1 a2 a3 a4 a5 =>
  cases hG with
  | @mk gn gs' gb' gl gu gsv glv guv gss guss b1 b2 b3 b4 b5 =>
  unfold ir_stold_ at ht
  refine call_of ht hm (by simp) ?_
  clear ht
  simp only [FD.toldT] at htd
  obtain ⟨⟨hv1, hv2⟩, hv3⟩ := htd
  generalize hnlv : FD.nullV (.mk kind frm to null tag dfl of sub) ver (.mk n s tn l u) = nl at *
  rw [wpC_seq, wpC_blk]
  refine goBox (v := .agg #[.int .i64 kind, .int .i64 frm, .int .i64 to, .int .i64 null, .int .i64 tag, .int .i64 dfl, .int .i64 of, sv]) (by simp) fun w1 hb1 hm1 => ?_
  refine goBox (v := .agg #[.int .i64 n, tsv, .bool tn, lv, uv]) (by simp) fun w2 hb2 hm2 => ?_
  refine goBox (v := .agg #[.int .i64 gn, gsv, .bool gb', glv, guv]) (by simp) fun w3 hb3 hm3 => ?_
  refine go1 (v := .bool false) rfl (by simp) (goEnd ?_)
  simp only [thenC]
  have hb1 : Blk w1 w.heap.size [.int .i64 kind, .int .i64 frm, .int .i64 to, .int .i64 null, .int .i64 tag, .int .i64 dfl, .int .i64 of, sv] := by simpa using hb1
  have hb2 : Blk w2 w1.heap.size [.int .i64 n, tsv, .bool tn, lv, uv] := by simpa using hb2
  have hb3 : Blk w3 w2.heap.size [.int .i64 gn, gsv, .bool gb', glv, guv] := by simpa using hb3
  have hm13 := hm2.trans hm3
  have hm03 := hm1.trans hm13
  have hb1' := hb1.mod hm13 (by simp)
  have hb2' := hb2.mod hm3 (by simp)
  have hld1 := cellsAt_of' hb1'.cells (n := 8) rfl
  have hld2 := cellsAt_of' hb2'.cells (n := 5) rfl
  rw [wpC_seq, wpC_blk]
  refine go1 (v := .agg #[.int .i64 kind, .int .i64 frm, .int .i64 to, .int .i64 null, .int .i64 tag, .int .i64 dfl, .int .i64 of, sv]) rfl (by simp [hld1]) ?_
  refine go1 (v := .int .i64 ver) rfl (by simp) ?_
  refine go1 (v := .agg #[.int .i64 n, tsv, .bool tn, lv, uv]) rfl (by simp [hld2]) ?_
  refine goCall rfl (vs := [.agg #[.int .i64 kind, .int .i64 frm, .int .i64 to, .int .i64 null, .int .i64 tag, .int .i64 dfl, .int .i64 of, sv], .int .i64 ver, .agg #[.int .i64 n, tsv, .bool tn, lv, uv]]) (by simp) (null_call hm hnl (hf0.keep hm03) (hT0.keep hm03)) ?_
  rintro e w4 ⟨rfl, hm4⟩
  rw [hnlv]
  refine ⟨_, rfl, go1 (v := .bool nl) rfl (by simp) (goEnd ?_)⟩
  simp only [thenC]
  have hm04 := hm03.trans hm4
  have c1 := fun k => (hb1'.mod hm4 (by simp)).cell k
  have hmay : ∀ (σ : Sl), σ 5 = .pointer (some ⟨w.heap.size, 0, none⟩) → σ 1 = .int .i64 ver → ∀ Q : Sl → World → Prop, (∀ σ', (∀ s, s < 21 → s ≠ 12 → σ' s = σ s) → σ' 12 = .bool (mayV null ver) → Q σ' w4) →
      wpR P [⟨some 21, .fad (.tmp 5) 3, none⟩, ⟨some 22, .ld (.tmp 21), none⟩, ⟨some 23, .bin .geq (.tmp 22) (.const (.int .i64 0)), none⟩, ⟨some 24, .mv (.tmp 23), none⟩, ⟨some 25, .mv (.tmp 1), some (24, true)⟩, ⟨some 26, .fad (.tmp 5) 3, some (24, true)⟩, ⟨some 27, .ld (.tmp 26), some (24, true)⟩,
        ⟨some 28, .bin .geq (.tmp 25) (.tmp 27), some (24, true)⟩, ⟨some 29, .pick (.tmp 24) (.tmp 28) (.const (.bool false)), none⟩, ⟨some 12, .mv (.tmp 29), none⟩] σ w4 Q := by
    intro σ h5 h1 Q hQ
    refine go1 (v := .pointer (some ⟨w.heap.size, 3, none⟩)) rfl (by simp [h5]) ?_
    refine go1 (v := .int .i64 null) rfl (by simp [c1]) ?_
    refine go1 (v := .bool (decide (null ≥ 0))) rfl (by simp) ?_
    refine go1 (v := .bool (decide (null ≥ 0))) rfl (by simp) ?_
    by_cases hn : null ≥ 0
    · have : decide (null ≥ 0) = true := by simp [hn]
      rw [this]
      refine go1 (v := .int .i64 ver) (by simp) (by simp [h1]) ?_
      refine go1 (v := .pointer (some ⟨w.heap.size, 3, none⟩)) (by simp) (by simp [h5]) ?_
      refine go1 (v := .int .i64 null) (by simp) (by simp [c1]) ?_
      refine go1 (v := .bool (decide (ver ≥ null))) (by simp) (by simp) ?_
      refine go1 (v := .bool (decide (ver ≥ null))) rfl (by simp) ?_
      refine go1 (v := .bool (decide (ver ≥ null))) rfl (by simp) (goEnd (hQ _ (fun s h1 h2 => ?_) (by simp [mayV, hn])))
      simp only [updo, upd]
      repeat rw [if_neg (by omega)]
    · have : decide (null ≥ 0) = false := by simp; omega
      rw [this]
      iterate 4 (refine go0 (by simp) ?_)
      refine go1 (v := .bool false) rfl (by simp) ?_
      refine go1 (v := .bool false) rfl (by simp) (goEnd (hQ _ (fun s h1 h2 => ?_) (by simp [mayV]; omega)))
      simp only [updo, upd]
      repeat rw [if_neg (by omega)]
  rw [wpC_seq, wpC_blk]
  refine hmay _ (by simp) (by simp) _ fun σ5 hfr5 h512 => ?_
  simp only [thenC]
  generalize mayV null ver = may at h512 hv1
  have hS : ToS w4 w.heap.size w1.heap.size w2.heap.size ver flex nl may [.int .i64 kind, .int .i64 frm, .int .i64 to, .int .i64 null, .int .i64 tag, .int .i64 dfl, .int .i64 of, sv] [.int .i64 n, tsv, .bool tn, lv, uv] [.int .i64 gn, gsv, .bool gb', glv, guv] σ5 :=
    ⟨hb1'.mod hm4 (by simp), hb2'.mod hm4 (by simp), hb3.mod hm4 (by simp), by rw [hfr5 1 (by omega) (by omega)]; simp, by rw [hfr5 2 (by omega) (by omega)]; simp, by rw [hfr5 5 (by omega) (by omega)]; simp, by rw [hfr5 8 (by omega) (by omega)]; simp, by rw [hfr5 9 (by omega) (by omega)]; simp,
      by rw [hfr5 11 (by omega) (by omega)]; simp, h512⟩
  clear hfr5 h512 hmay c1
  rw [wpC_seq, wpC_seq]
  refine told_null hS (Mod.refl _ _) (fun h => hv1 h) fun σ6 hfr6 h646 => ?_
  simp only [thenC]
  have hS6 := hS.keep fun s hs _ => hfr6 s (by omega)
  rw [wpC_cond_f (by simp [h646]), wpC_skip]
  simp only [thenC]
  clear hS hfr6 h646
  have e11 := hS6.s11
  rw [wpC_seq, wpC_seq, wpC_blk]
  refine go1 (v := .bool nl) rfl (by simp [e11]) (goEnd ?_)
  simp only [thenC]
  have hS7 : ToS w4 w.heap.size w1.heap.size w2.heap.size ver flex nl may [.int .i64 kind, .int .i64 frm, .int .i64 to, .int .i64 null, .int .i64 tag, .int .i64 dfl, .int .i64 of, sv] [.int .i64 n, tsv, .bool tn, lv, uv] [.int .i64 gn, gsv, .bool gb', glv, guv] (upd σ6 47 (.bool nl)) :=
    hS6.keep fun s hs _ => by simp only [upd]; rw [if_neg (by omega)]
  show wpC P _ _ (upd σ6 47 (.bool nl)) w4
  generalize hσ7 : upd σ6 47 (.bool nl) = σ7 at hS7 ⊢
  have h47 : σ7 47 = .bool nl := by subst hσ7; simp
  clear hσ7 hS6
  have fin : ∀ w', Mod [] w4 w' → TrueR w (.returned (.bool true)) w' := fun w' h => ⟨rfl, hm04.trans h⟩
  have finQ : ∀ σ' w', σ' 10 = .bool true → Mod [] w4 w' → postC [.tmp 10] (TrueR w) .ret σ' w' := fun σ' w' h1 h2 => post1 h1 (fin w' h2)
  cases nl with
  | true =>
    rw [wpC_cond_t (by simp [h47]), wpC_seq, wpC_blk]
    refine go1 (v := .bool true) rfl (by simp) (goEnd ?_)
    simp only [thenC]
    repeat first | refine retThen ?_ | refine retBlk ?_
    exact ret1 (v := .bool true) (by simp) (fin _ (Mod.refl _ _))
  | false =>
  rw [wpC_cond_f (by simp [h47]), wpC_skip]
  simp only [thenC]
  obtain ⟨x1, x2, x3, x4⟩ := hv2 rfl
  have e5 := hS7.s5
  have e8 := hS7.s8
  have e9 := hS7.s9
  have e1 := hS7.s1
  have e2 := hS7.s2
  have c5 := fun k => hS7.bf.cell k
  have a1' := a1.keep hm04
  have b1' := b1.keep hm04
  rw [wpC_seq]
  unfold ir_stold__6
  rw [wpC_seq, wpC_blk]
  refine go1 (v := .pointer (some ⟨w.heap.size, 0, none⟩)) rfl (by simp [e5]) ?_
  refine go1 (v := .int .i64 kind) rfl (by simp [c5]) (goEnd ?_)
  simp only [thenC]
  rw [wpC_block, wpC_seq, wpC_seq, wpC_blk]
  refine go1 (v := .bool (kind == 8)) rfl (by simp) ?_
  refine go1 (v := .bool (kind == 8)) rfl (by simp) (goEnd ?_)
  simp only [thenC]
  by_cases k8 : kind = 8
  · rw [wpC_cond_t (by simp [k8]), wpC_skip]
    simp only [thenC]
    rw [wpC_cond_t (by simp [k8])]
    refine told_text hm hw hs (hS7.keep fun s hs _ => ?_) (Mod.refl _ _) a1' (by have := x1 (.inl k8); simp only [TR.s] at this; rw [← this]; exact b1') fun σ' w' h1 h2 => ?_
    · simp only [updo, upd]
      repeat rw [if_neg (by omega)]
    · simp only [thenC, inBlockC]
      exact finQ σ' w' h1 h2
  rw [wpC_cond_f (by simp [k8]), wpC_blk]
  refine go1 (v := .bool (kind == 9)) rfl (by simp) ?_
  refine go1 (v := .bool (kind == 9)) rfl (by simp) (goEnd ?_)
  simp only [thenC]
  by_cases k9 : kind = 9
  · rw [wpC_cond_t (by simp [k9])]
    refine told_text hm hw hs (hS7.keep fun s hs _ => ?_) (Mod.refl _ _) a1' (by have := x1 (.inr k9); simp only [TR.s] at this; rw [← this]; exact b1') fun σ' w' h1 h2 => ?_
    · simp only [updo, upd]
      repeat rw [if_neg (by omega)]
    · simp only [thenC, inBlockC]
      exact finQ σ' w' h1 h2
  rw [wpC_cond_f (by simp [k9])]
  unfold ir_stold__5
  rw [wpC_seq, wpC_blk]
  refine go1 (v := .bool (kind == 7)) rfl (by simp) ?_
  refine go1 (v := .bool (kind == 7)) rfl (by simp) (goEnd ?_)
  simp only [thenC]
  by_cases k7 : kind = 7
  · rw [wpC_cond_t (by simp [k7]), wpC_seq, wpC_blk]
    refine wpR_run ?_
    simp only [RK.run, ev]
    refine ⟨by omega, by omega, by omega, by omega, fun T => ?_⟩
    have hbn := Blk.new w4 (u8s (List.replicate 16 0)) T
    rw [show (zrep (16 : Int).toNat [Value.int .u8 0]) = u8s (List.replicate 16 0) from rfl]
    have hmn : Mod [] w4 (w4.alloc (.cells (u8s (List.replicate 16 0)).toArray T)) := Mod.alloc _ _ _
    generalize w4.alloc (.cells (u8s (List.replicate 16 0)).toArray T) = w5 at hbn hmn ⊢
    refine go1 (v := .slice (some ⟨w4.heap.size, 0, none⟩) 16 16) rfl (by simp) (goEnd ?_)
    simp only [thenC]
    have c8 := fun k => (hS7.bt.mod hmn (by simp)).cell k
    rw [wpC_seq, wpC_blk]
    refine go1 (v := .slice (some ⟨w4.heap.size, 0, none⟩) 16 16) rfl (by simp) ?_
    refine go1 (v := .pointer (some ⟨w1.heap.size, 1, none⟩)) rfl (by simp [e8]) ?_
    refine go1 (v := tsv) rfl (by simp [c8]) ?_
    refine wpR_run ?_
    have hs2 : SlC anyB w5 tsv s.length (u8s s) := a1'.keep hmn
    simp only [RK.run, ev, updo, upd, if_true, if_false, show (62 : Nat) ≠ 64 by decide, show (62 : Nat) ≠ 63 by decide, hs2.src]
    have hput := hbn.put (o := 0) (vs := (u8s s).take (Nat.min s.length 16 * 1)) (by simp [u8s_length]; omega)
    rw [uuid_splice] at hput
    have hmput : Mod [w4.heap.size] w5 (putCells w5 ⟨w4.heap.size, 0, none⟩ 0 ((u8s s).take (Nat.min s.length 16 * 1))) := Mod.put (by simp)
    refine ⟨stOk_many hbn (by simp [u8s_length]; omega) (fun y hy => by
      have := List.mem_of_mem_take hy
      simp only [u8s, List.mem_map] at this
      obtain ⟨b, -, rfl⟩ := this; rfl), ?_⟩
    generalize putCells w5 ⟨w4.heap.size, 0, none⟩ 0 ((u8s s).take (Nat.min s.length 16 * 1)) = w6 at hput hmput ⊢
    refine wpR_done ?_
    have hm46 : Mod [] w4 w6 := Mod.drop (b := w4.heap.size) (S := []) (hmn.nil.trans hmput) (Nat.le_refl _)
    have c9 := fun k => (hS7.bg.mod hm46 (by simp)).cell k
    have hl16 : (uuidP s).length = 16 := by simp [uuidP]; omega
    have hd := DRaw.of_blk (n0 := w4.heap.size) hput (Nat.le_refl _)
    have hsl := hd.slc.any
    rw [hl16] at hsl hd
    rw [wpC_seq, wpC_blk]
    refine go1 (v := .pointer (some ⟨w2.heap.size, 1, none⟩)) rfl (by simp [e9]) ?_
    refine go1 (v := gsv) rfl (by simp [c9]) ?_
    refine go1 (v := .slice (some ⟨w4.heap.size, 0, none⟩) 16 16) rfl (by simp) ?_
    have x2 := x2 k7
    simp only [TR.s] at x2
    refine goCall rfl (vs := [gsv, .slice (some ⟨w4.heap.size, 0, none⟩) 16 16]) (by simp) (same_call hm hs (l2 := uuidP s) (b1'.keep hm46) (by rw [hl16]; exact hsl) (by rw [x2]; omega)) ?_
    rintro e w7 ⟨rfl, hm7⟩
    refine ⟨_, rfl, go1 (v := .bool true) rfl (by simp [x2]) (goEnd ?_)⟩
    simp only [thenC]
    repeat first | refine retThen ?_ | refine retBlk ?_
    exact ret1 (v := .bool true) (by simp) (fin _ (hm46.trans hm7))
  rw [wpC_cond_f (by simp [k7]), wpC_seq, wpC_blk]
  refine go1 (v := .bool (kind == 10)) rfl (by simp) ?_
  refine go1 (v := .bool (kind == 10)) rfl (by simp) (goEnd ?_)
  simp only [thenC]
  by_cases k10 : kind = 10
  · rw [wpC_cond_t (by simp [k10]), wpC_seq, wpC_blk]
    have hld8 := cellsAt_of' hS7.bt.cells (n := 5) rfl
    have hld9 := cellsAt_of' hS7.bg.cells (n := 5) rfl
    refine go1 (v := .pointer (some ⟨w.heap.size, 7, none⟩)) rfl (by simp [e5]) ?_
    refine go1 (v := sv) rfl (by simp [c5]) ?_
    refine go1 (v := .int .i64 ver) rfl (by simp [e1]) ?_
    refine go1 (v := .bool flex) rfl (by simp [e2]) ?_
    refine go1 (v := .agg #[.int .i64 n, tsv, .bool tn, lv, uv]) rfl (by simp [e8, hld8]) ?_
    refine go1 (v := .agg #[.int .i64 gn, gsv, .bool gb', glv, guv]) rfl (by simp [e9, hld9]) ?_
    refine goCall rfl (vs := [sv, .int .i64 ver, .bool flex, .agg #[.int .i64 n, tsv, .bool tn, lv, uv], .agg #[.int .i64 gn, gsv, .bool gb', glv, guv]]) (by simp) (hp w4 sv css _ _ _ _ (f1.keep hm04) (f2.keep hm04) (hT0.keep hm04) (hG0.keep hm04) (x3 k10)) ?_
    rintro e w7 ⟨rfl, hm7⟩
    refine ⟨_, rfl, go1 (v := .bool true) rfl (by simp) (goEnd ?_)⟩
    simp only [thenC]
    repeat first | refine retThen ?_ | refine retBlk ?_
    exact ret1 (v := .bool true) (by simp) (fin _ hm7)
  rw [wpC_cond_f (by simp [k10]), wpC_seq, wpC_blk]
  refine go1 (v := .bool (kind == 11)) rfl (by simp) ?_
  refine go1 (v := .bool (kind == 11)) rfl (by simp) (goEnd ?_)
  simp only [thenC]
  by_cases k11 : kind = 11
  · rw [wpC_cond_t (by simp [k11])]
    obtain ⟨y1, y2, y3⟩ := hv3 k11 rfl
    refine told_list hm hth (w0 := w4) (hS7.keep fun s hs _ => ?_) (Mod.refl _ _) (f1.keep hm04) (f2.keep hm04) (a2.keep hm04) (a3.keep hm04) (b2.keep hm04) (b3.keep hm04) (hlist k11 y1) y2 (fun i y h hy hh => ?_) fun σ' w' h1 h2 => ?_
    · simp only [updo, upd]
      repeat rw [if_neg (by omega)]
    · have q1 : FD.nullV (.mk of frm to (-1) (-1) dfl of sub) ver y = false := by simp [FD.nullV, FD.null]
      have q2 : mayV (-1) ver = false := by simp [mayV]
      simp only [FD.toldT]
      rw [q1, q2]
      exact ⟨y3 i y h hy hh, fun hk => absurd hk y1⟩
    · simp only [thenC, inBlockC]
      exact finQ σ' w' h1 h2
  rw [wpC_cond_f (by simp [k11]), wpC_skip]
  simp only [thenC, inBlockC]
  rw [wpC_seq]
  show wpD P _ [] _ w4.drew _
  have hmd : Mod [] w4 w4.drew := Mod.drew _ _
  have d5 := fun k => (hS7.bf.mod hmd (by simp)).cell k
  have d8 := fun k => (hS7.bt.mod hmd (by simp)).cell k
  have d9 := fun k => (hS7.bg.mod hmd (by simp)).cell k
  refine wpD_of_B (fun i v w' => match i with | 6 => v = .int .i64 (numberP kind n) | _ => True) (by
    intro i v w w' h hm
    split at h
    · exact h
    · trivial) ?_
  refine bo1 (v := .pointer (some ⟨w2.heap.size, 0, none⟩)) rfl (by simp [e9]) ?_
  refine bo1 (v := .int .i64 gn) rfl (by simp [d9]) ?_
  refine bo1 (v := .pointer (some ⟨w.heap.size, 0, none⟩)) rfl (by simp [e5]) ?_
  refine bo1 (v := .int .i64 kind) rfl (by simp [d5]) ?_
  refine bo1 (v := .pointer (some ⟨w1.heap.size, 0, none⟩)) rfl (by simp [e8]) ?_
  refine bo1 (v := .int .i64 n) rfl (by simp [d8]) ?_
  refine boCall (vs := [.int .i64 kind, .int .i64 n]) rfl (by simp) (fun w' hm' _ => (number_call hm hnum).mono ?_) ?_
  · rintro e w'' ⟨rfl, rfl⟩
    exact ⟨_, rfl, Mod.refl _ _, rfl⟩
  rintro v ⟨wv, ev'⟩
  have ev' : v = .int .i64 (numberP kind n) := ev'
  subst ev'
  have x4 := x4 k7 k8 k9 k10 k11
  simp only [TR.n] at x4
  refine bo1 (v := .bool true) rfl (by simp [x4]) ?_
  refine bo1 (v := .bool true) rfl (by simp) ?_
  intro w' hm' hkn
  refine goEnd ?_
  simp only [thenC]
  exact ret1 (v := .bool true) (by simp) (fin _ (hmd.trans hm'))
end
end Go.Msk

namespace Go.Msk
open Go.RowKit
set_option maxRecDepth 100000
section
variable {P : Program} {F : Nat → Nat}
attribute [local simp] gOk updo upd ev RK.val? isShift intBin Addr.add_mk args0 Value.cells undef
def UsualC (P : Program) (F : Nat → Nat) (fds : List FD) : Prop :=
  ∀ (w : World) (sv : Value) (css : List (List Value)) (x : TR) (xs : List Value), SlC anyB w sv fds.length css.flatten → RepFL anyB w fds css → RepT anyB w x xs → x.u = [] → usualL fds 0 x → Calls P (F sUsual) [sv, .agg xs.toArray].toArray w (TrueR w)
theorem usual_text {w : World} {fb xb : Nat} {kind frm to null tag dfl of n : Int} {fv xv lv uv : Value} {xn : Bool} {s : List UInt8} {σ : Sl} {Q : Exit → Sl → World → Prop} (hf : Blk w fb [.int .i64 kind, .int .i64 frm, .int .i64 to, .int .i64 null, .int .i64 tag, .int .i64 dfl, .int .i64 of, fv]) (hx : Blk w xb [.int .i64 n, xv, .bool xn, lv, uv])
    (h6 : σ 6 = .pointer (some ⟨fb, 0, none⟩)) (h7 : σ 7 = .pointer (some ⟨xb, 0, none⟩)) (hs : SlC anyB w xv s.length (u8s s)) (h : xn = decide (null ≥ 0) ∧ s = []) (hQ : ∀ σ' w', (∀ k, k < 24 → σ' k = σ k) → Mod [] w w' → Q .normal σ' w') : wpC P (ir_sUsual_1 F) Q σ w := by
  unfold ir_sUsual_1
  obtain ⟨rfl, rfl⟩ := h
  obtain ⟨b, c, es⟩ := hs.shape
  have c6 := fun k => hf.cell k
  have c7 := fun k => hx.cell k
  rw [wpC_seq, wpC_blk]
  refine go1 (v := .pointer (some ⟨xb, 2, none⟩)) rfl (by simp [h7]) ?_
  refine go1 (v := .bool (decide (null ≥ 0))) rfl (by simp [c7]) ?_
  refine go1 (v := .pointer (some ⟨fb, 3, none⟩)) rfl (by simp [h6]) ?_
  refine go1 (v := .int .i64 null) rfl (by simp [c6]) ?_
  refine go1 (v := .bool (decide (null ≥ 0))) rfl (by simp) ?_
  refine go1 (v := .bool false) rfl (by simp) ?_
  refine go1 (v := .bool false) rfl (by simp) ?_
  refine go1 (v := .pointer (some ⟨xb, 1, none⟩)) (by simp) (by simp [h7]) ?_
  refine go1 (v := xv) (by simp) (by simp [c7]) ?_
  refine go1 (v := .int .i64 (0 : Nat)) (by simp) (by simp [es]) ?_
  refine go1 (v := .bool false) (by simp) (by simp) ?_
  refine go1 (v := .bool false) rfl (by simp) (goEnd ?_)
  simp only [thenC]
  rw [wpC_cond_f (by simp), wpC_skip]
  refine hQ _ w (fun k hk => ?_) (Mod.refl _ _)
  simp only [updo, upd]
  repeat rw [if_neg (by omega)]
theorem usual_list {w : World} {xb : Nat} {n : Int} {xv lv uv : Value} {xn : Bool} {s : List UInt8} {l : List TR} {tss : List (List Value)} {σ : Sl} {Q : Exit → Sl → World → Prop} (hx : Blk w xb [.int .i64 n, xv, .bool xn, lv, uv])
    (h7 : σ 7 = .pointer (some ⟨xb, 0, none⟩)) (hs : SlC anyB w xv s.length (u8s s)) (hl : SlC anyB w lv l.length tss.flatten) (h : s = [] ∧ l = []) (hQ : ∀ σ' w', (∀ k, k < 24 → σ' k = σ k) → Mod [] w w' → Q .normal σ' w') : wpC P (ir_sUsual_2 F) Q σ w := by
  unfold ir_sUsual_2
  obtain ⟨rfl, rfl⟩ := h
  obtain ⟨b, c, es⟩ := hs.shape
  obtain ⟨b2, c2, el⟩ := hl.shape
  have c7 := fun k => hx.cell k
  rw [wpC_seq, wpC_blk]
  refine go1 (v := .pointer (some ⟨xb, 1, none⟩)) rfl (by simp [h7]) ?_
  refine go1 (v := xv) rfl (by simp [c7]) ?_
  refine go1 (v := .int .i64 (0 : Nat)) rfl (by simp [es]) ?_
  refine go1 (v := .bool false) rfl (by simp) ?_
  refine go1 (v := .bool false) rfl (by simp) ?_
  refine go1 (v := .pointer (some ⟨xb, 3, none⟩)) (by simp) (by simp [h7]) ?_
  refine go1 (v := lv) (by simp) (by simp [c7]) ?_
  refine go1 (v := .int .i64 (0 : Nat)) (by simp) (by simp [el]) ?_
  refine go1 (v := .bool false) (by simp) (by simp) ?_
  refine go1 (v := .bool false) rfl (by simp) (goEnd ?_)
  simp only [thenC]
  rw [wpC_cond_f (by simp), wpC_skip]
  refine hQ _ w (fun k hk => ?_) (Mod.refl _ _)
  simp only [updo, upd]
  repeat rw [if_neg (by omega)]
theorem usual_sub {w : World} {fb xb : Nat} {kind frm to null tag dfl of n : Int} {sub : List FD} {fv xv lv uv : Value} {xn : Bool} {x : TR} {css : List (List Value)} {σ : Sl} {Q : Exit → Sl → World → Prop} (hf : Blk w fb [.int .i64 kind, .int .i64 frm, .int .i64 to, .int .i64 null, .int .i64 tag, .int .i64 dfl, .int .i64 of, fv]) (hx : Blk w xb [.int .i64 n, xv, .bool xn, lv, uv])
    (h6 : σ 6 = .pointer (some ⟨fb, 0, none⟩)) (h7 : σ 7 = .pointer (some ⟨xb, 0, none⟩)) (hsv : SlC anyB w fv sub.length css.flatten) (hr : RepFL anyB w sub css) (hrx : RepT anyB w x [.int .i64 n, xv, .bool xn, lv, uv]) (hU : UsualC P F sub) (h1 : null ≥ 0 → xn = true) (h2 : null < 0 → x.u = [] ∧ usualL sub 0 x)
    (hQ : ∀ σ' w', (∀ k, k < 24 → σ' k = σ k) → σ' 87 = .bool false → Mod [] w w' → Q .normal σ' w') : wpC P (ir_sUsual_3 F) Q σ w := by
  unfold ir_sUsual_3
  have c6 := fun k => hf.cell k
  have c7 := fun k => hx.cell k
  have hld := cellsAt_of' hx.cells (n := 5) rfl
  rw [wpC_blk]
  refine go1 (v := .pointer (some ⟨fb, 3, none⟩)) rfl (by simp [h6]) ?_
  refine go1 (v := .int .i64 null) rfl (by simp [c6]) ?_
  refine go1 (v := .bool (decide (null ≥ 0))) rfl (by simp) ?_
  refine go1 (v := .bool (decide (null ≥ 0))) rfl (by simp) ?_
  by_cases hn : null ≥ 0
  · have e : decide (null ≥ 0) = true := by simp [hn]
    have e2 := h1 hn
    subst e2
    rw [e]
    refine go1 (v := .pointer (some ⟨xb, 2, none⟩)) (by simp) (by simp [h7]) ?_
    refine go1 (v := .bool true) (by simp) (by simp [c7]) ?_
    refine go1 (v := .bool false) (by simp) (by simp) ?_
    refine go1 (v := .bool false) rfl (by simp) ?_
    refine go1 (v := .bool false) rfl (by simp) ?_
    refine go1 (v := .pointer (some ⟨fb, 3, none⟩)) (by simp) (by simp [h6]) ?_
    refine go1 (v := .int .i64 null) (by simp) (by simp [c6]) ?_
    refine go1 (v := .bool false) (by simp) (by simp; omega) ?_
    refine go1 (v := .bool false) (by simp) (by simp) ?_
    iterate 5 (refine go0 (by simp) ?_)
    refine go1 (v := .bool false) (by simp) (by simp) ?_
    refine go1 (v := .bool false) rfl (by simp) (goEnd ?_)
    refine hQ _ w (fun k hk => ?_) (by simp) (Mod.refl _ _)
    simp only [updo, upd]
    repeat rw [if_neg (by omega)]
  · have e : decide (null ≥ 0) = false := by simp; omega
    obtain ⟨k1, k2⟩ := h2 (by omega)
    rw [e]
    iterate 3 (refine go0 (by simp) ?_)
    refine go1 (v := .bool false) rfl (by simp) ?_
    refine go1 (v := .bool false) rfl (by simp) ?_
    refine go1 (v := .pointer (some ⟨fb, 3, none⟩)) (by simp) (by simp [h6]) ?_
    refine go1 (v := .int .i64 null) (by simp) (by simp [c6]) ?_
    refine go1 (v := .bool true) (by simp) (by simp; omega) ?_
    refine go1 (v := .bool true) (by simp) (by simp) ?_
    refine go1 (v := .pointer (some ⟨fb, 7, none⟩)) (by simp) (by simp [h6]) ?_
    refine go1 (v := fv) (by simp) (by simp [c6]) ?_
    refine go1 (v := .agg #[.int .i64 n, xv, .bool xn, lv, uv]) (by simp) (by simp [h7, hld]) ?_
    refine goCall (by simp) (vs := [fv, .agg #[.int .i64 n, xv, .bool xn, lv, uv]]) (by simp) (hU w fv css x _ hsv hr hrx k1 k2) ?_
    rintro e w' ⟨rfl, hm'⟩
    refine ⟨_, rfl, ?_⟩
    refine go1 (v := .bool false) (by simp) (by simp) ?_
    refine go1 (v := .bool false) (by simp) (by simp) ?_
    refine go1 (v := .bool false) rfl (by simp) (goEnd ?_)
    refine hQ _ w' (fun k hk => ?_) (by simp) hm'
    simp only [updo, upd]
    repeat rw [if_neg (by omega)]
theorem usual_field (hm : P.follows .mixedOrders = true) (hs : liftF P (F sSame) = some (ir_sSame F)) (hnum : liftF P (F sNumber) = some numCode) {w : World} {fb xb : Nat} {f : FD} {x : TR} {fcs xcs : List Value} {σ : Sl} {Q : Exit → Sl → World → Prop} (hf : Blk w fb fcs) (hx : Blk w xb xcs) (hrf : RepF anyB w f fcs) (hrx : RepT anyB w x xcs)
    (h6 : σ 6 = .pointer (some ⟨fb, 0, none⟩)) (h7 : σ 7 = .pointer (some ⟨xb, 0, none⟩)) (hU : UsualC P F f.sub) (h : f.usualT x) (hQ : ∀ σ' w', (∀ k, k < 22 → σ' k = σ k) → Mod [] w w' → Q .normal σ' w') :
    wpC P (.seq (.blk [⟨some 22, .fad (.tmp 6) 0, none⟩, ⟨some 23, .ld (.tmp 22), none⟩]) (.block 2 (.seq (.blk [⟨some 33, .bin .eql (.tmp 23) (.const (.int .i64 8)), none⟩, ⟨some 32, .mv (.tmp 33), none⟩]) (.cond (.tmp 32) (ir_sUsual_1 F) (ir_sUsual_5 F))))) Q σ w := by
  have hrx0 := hrx
  cases hrf with
  | @mk kind frm to null tag dfl of sub sv css f1 f2 =>
  cases hrx with
  | @mk n s xn l u xv lv uv tss uss a1 a2 a3 a4 a5 =>
  simp only [FD.usualT, TR.null, TR.s, TR.l, TR.n] at h
  obtain ⟨q8, q7, q9, q10, qn⟩ := h
  simp only [FD.sub] at hU
  have c6 := fun k => hf.cell k
  have c7 := fun k => hx.cell k
  rw [wpC_seq, wpC_blk]
  refine go1 (v := .pointer (some ⟨fb, 0, none⟩)) rfl (by simp [h6]) ?_
  refine go1 (v := .int .i64 kind) rfl (by simp [c6]) (goEnd ?_)
  simp only [thenC]
  rw [wpC_block, wpC_seq, wpC_blk]
  refine go1 (v := .bool (kind == 8)) rfl (by simp) ?_
  refine go1 (v := .bool (kind == 8)) rfl (by simp) (goEnd ?_)
  simp only [thenC]
  by_cases k8 : kind = 8
  · rw [wpC_cond_t (by simp [k8])]
    refine usual_text hf hx (by simp [h6]) (by simp [h7]) a1 (q8 k8) fun σ' w' hfr hm' => ?_
    simp only [inBlockC]
    refine hQ σ' w' (fun k hk => ?_) hm'
    rw [hfr k (by omega)]
    simp only [updo, upd]
    repeat rw [if_neg (by omega)]
  rw [wpC_cond_f (by simp [k8])]
  unfold ir_sUsual_5
  rw [wpC_seq, wpC_blk]
  refine go1 (v := .bool (kind == 7)) rfl (by simp) ?_
  refine go1 (v := .bool (kind == 7)) rfl (by simp) (goEnd ?_)
  simp only [thenC]
  by_cases k7 : kind = 7
  · rw [wpC_cond_t (by simp [k7]), wpC_seq]
    show wpD P _ [] _ w.drew _
    have hmd : Mod [] w w.drew := Mod.drew _ _
    have d7 := fun k => (hx.mod hmd (by simp)).cell k
    refine wpD_of_B (fun i v w' => match i with | 2 => SlC anyB w' v (List.replicate 16 (0 : UInt8)).length (u8s (List.replicate 16 0)) | 3 => v = .bool true | _ => True) (by
      intro i v w w' h hm
      split at h
      · exact h.keep hm
      · exact h
      · trivial) ?_
    refine bo1 (v := .pointer (some ⟨xb, 1, none⟩)) rfl (by simp [h7]) ?_
    refine bo1 (v := xv) rfl (by simp [d7]) ?_
    refine boN rfl (fun w' hm' _ => ?_) ?_
    · simp only [RK.run, ev]
      refine ⟨by omega, by omega, by omega, by omega, fun T => ?_⟩
      have hbn := Blk.new w' (u8s (List.replicate 16 0)) T
      rw [show (zrep (16 : Int).toNat [Value.int .u8 0]) = u8s (List.replicate 16 0) from rfl]
      refine ⟨Mod.alloc _ _ _, ?_⟩
      have hd := DRaw.of_blk (n0 := w'.heap.size) (l := List.replicate 16 0) hbn (Nat.le_refl _)
      exact hd.slc.any
    rintro v ⟨wv, hv⟩
    refine boCall (vs := [xv, v]) rfl (by simp) (fun w' hm' hkn => ?_) ?_
    · have k2 := known_get (j := 2) (t := 50) hkn (by simp) rfl rfl rfl rfl
      have k2 : SlC anyB w' v (List.replicate 16 (0 : UInt8)).length (u8s (List.replicate 16 0)) := by simpa using k2
      have e7 := q7 k7
      refine (same_call hm hs (a1.keep (hmd.trans hm')) k2 (by rw [e7]; simp)).mono ?_
      rintro e w'' ⟨rfl, hmm⟩
      exact ⟨_, rfl, hmm, by simp [e7]⟩
    rintro v2 ⟨wv', ev'⟩
    have ev' : v2 = .bool true := ev'
    subst ev'
    refine bo1 (v := .bool false) rfl (by simp) ?_
    intro w' hm' hkn
    refine goEnd ?_
    simp only [thenC]
    rw [wpC_cond_f (by simp), wpC_skip]
    simp only [inBlockC]
    refine hQ _ w' (fun k hk => ?_) (hmd.trans hm')
    simp only [updo, upd]
    repeat rw [if_neg (by omega)]
  rw [wpC_cond_f (by simp [k7]), wpC_seq, wpC_seq, wpC_blk]
  refine go1 (v := .bool (kind == 9)) rfl (by simp) ?_
  refine go1 (v := .bool (kind == 9)) rfl (by simp) (goEnd ?_)
  simp only [thenC]
  by_cases k9 : kind = 9
  · rw [wpC_cond_t (by simp [k9]), wpC_skip]
    simp only [thenC]
    rw [wpC_cond_t (by simp [k9])]
    refine usual_list hx (by simp [h7]) a1 a2 (q9 (.inl k9)) fun σ' w' hfr hm' => ?_
    simp only [inBlockC]
    refine hQ σ' w' (fun k hk => ?_) hm'
    rw [hfr k (by omega)]
    simp only [updo, upd]
    repeat rw [if_neg (by omega)]
  rw [wpC_cond_f (by simp [k9]), wpC_blk]
  refine go1 (v := .bool (kind == 11)) rfl (by simp) ?_
  refine go1 (v := .bool (kind == 11)) rfl (by simp) (goEnd ?_)
  simp only [thenC]
  by_cases k11 : kind = 11
  · rw [wpC_cond_t (by simp [k11])]
    refine usual_list hx (by simp [h7]) a1 a2 (q9 (.inr k11)) fun σ' w' hfr hm' => ?_
    simp only [inBlockC]
    refine hQ σ' w' (fun k hk => ?_) hm'
    rw [hfr k (by omega)]
    simp only [updo, upd]
    repeat rw [if_neg (by omega)]
  rw [wpC_cond_f (by simp [k11])]
  unfold ir_sUsual_4
  rw [wpC_seq, wpC_blk]
  refine go1 (v := .bool (kind == 10)) rfl (by simp) ?_
  refine go1 (v := .bool (kind == 10)) rfl (by simp) (goEnd ?_)
  simp only [thenC]
  by_cases k10 : kind = 10
  · rw [wpC_cond_t (by simp [k10]), wpC_seq]
    refine usual_sub hf hx (by simp [h6]) (by simp [h7]) f1 f2 hrx0 hU (q10 k10).1 (q10 k10).2 fun σ' w' hfr h87 hm' => ?_
    simp only [thenC]
    rw [wpC_cond_f (by simp [h87]), wpC_skip]
    simp only [inBlockC]
    refine hQ σ' w' (fun k hk => ?_) hm'
    rw [hfr k (by omega)]
    simp only [updo, upd]
    repeat rw [if_neg (by omega)]
  rw [wpC_cond_f (by simp [k10]), wpC_seq]
  show wpD P _ [] _ w.drew _
  have hmd : Mod [] w w.drew := Mod.drew _ _
  have d6 := fun k => (hf.mod hmd (by simp)).cell k
  have d7 := fun k => (hx.mod hmd (by simp)).cell k
  refine wpD_of_B (fun i v w' => match i with | 6 => v = .int .i64 (numberP kind dfl) | _ => True) (by
    intro i v w w' h hm
    split at h
    · exact h
    · trivial) ?_
  refine bo1 (v := .pointer (some ⟨xb, 0, none⟩)) rfl (by simp [h7]) ?_
  refine bo1 (v := .int .i64 n) rfl (by simp [d7]) ?_
  refine bo1 (v := .pointer (some ⟨fb, 0, none⟩)) rfl (by simp [h6]) ?_
  refine bo1 (v := .int .i64 kind) rfl (by simp [d6]) ?_
  refine bo1 (v := .pointer (some ⟨fb, 5, none⟩)) rfl (by simp [h6]) ?_
  refine bo1 (v := .int .i64 dfl) rfl (by simp [d6]) ?_
  refine boCall (vs := [.int .i64 kind, .int .i64 dfl]) rfl (by simp) (fun w' hm' _ => (number_call hm hnum).mono ?_) ?_
  · rintro e w'' ⟨rfl, rfl⟩
    exact ⟨_, rfl, Mod.refl _ _, rfl⟩
  rintro v ⟨wv, ev'⟩
  have ev' : v = .int .i64 (numberP kind dfl) := ev'
  subst ev'
  refine bo1 (v := .bool false) rfl (by simp [qn k7 k8 k9 k10 k11]) ?_
  intro w' hm' hkn
  refine goEnd ?_
  simp only [thenC]
  rw [wpC_cond_f (by simp), wpC_skip]
  simp only [inBlockC]
  refine hQ _ w' (fun k hk => ?_) (hmd.trans hm')
  simp only [updo, upd]
  repeat rw [if_neg (by omega)]
theorem usualL_nth : ∀ {fds : List FD} {i : Nat} {x : TR} {j : Nat} {f : FD}, usualL fds i x → fds[j]? = some f → f.usualT (x.at (i + j))
  | f0 :: fds, i, x, 0, f, h, hj => by
    simp only [List.getElem?_cons_zero, Option.some.injEq] at hj
    subst hj; exact h.1
  | f0 :: fds, i, x, j + 1, f, h, hj => by
    have := usualL_nth h.2 (by simpa using hj)
    rwa [show i + (j + 1) = i + 1 + j by omega]
theorem usual_call (hm : P.follows .mixedOrders = true) (h : liftF P (F sUsual) = some (ir_sUsual F)) (hat : liftF P (F sAt) = some (ir_sAt F)) (hs : liftF P (F sSame) = some (ir_sSame F)) (hnum : liftF P (F sNumber) = some numCode) {fds : List FD} (hlen : fds.length < 1000) (hU : ∀ f ∈ fds, UsualC P F f.sub) : UsualC P F fds := by
  intro w sv css x xs hsv hr hx hu hd
  unfold ir_sUsual at h
  refine call_of h hm (by simp) ?_
  clear h
  have h5 := hx.five
  obtain ⟨sb, sc, es⟩ := hsv.shape
  rw [wpC_seq, wpC_blk]
  refine goBox (v := .agg xs.toArray) (by simp) fun w1 hb1 hm1 => ?_
  have hb1 : Blk w1 w.heap.size xs := by simpa using hb1
  refine go1 (v := .bool false) rfl (by simp) (goEnd ?_)
  simp only [thenC]
  have c1 := fun k => hb1.cell k
  obtain ⟨uv, euv⟩ : ∃ uv : Value, xs[4]? = some uv ∧ ∃ b c, uv = .slice b 0 c := by
    cases hx with
    | @mk n s xn l u xv lv uv tss uss a1 a2 a3 a4 a5 =>
      simp only [TR.u] at hu
      subst hu
      obtain ⟨b, c, e⟩ := a4.shape
      exact ⟨uv, rfl, b, c, e⟩
  obtain ⟨euv, ub, uc, rfl⟩ := euv
  rw [wpC_seq, wpC_seq, wpC_blk]
  refine go1 (v := .pointer (some ⟨w.heap.size, 4, none⟩)) rfl (by simp) ?_
  refine go1 (v := .slice ub 0 uc) rfl (by simp [c1, euv]) ?_
  refine go1 (v := .int .i64 (0 : Nat)) rfl (by simp) ?_
  refine go1 (v := .bool false) rfl (by simp) (goEnd ?_)
  simp only [thenC]
  rw [wpC_cond_f (by simp), wpC_skip]
  simp only [thenC]
  rw [wpC_seq, wpC_seq, wpC_blk]
  refine go1 (v := sv) rfl (by simp) ?_
  refine go1 (v := .int .i64 (fds.length : Nat)) rfl (by simp [es]) ?_
  refine go1 (v := .int .i64 (0 : Nat)) rfl (by simp) (goEnd ?_)
  simp only [thenC]
  refine rangeLoop (n := fds.length) (fun j σ w' => σ 3 = .pointer (some ⟨w.heap.size, 0, none⟩) ∧ σ 12 = sv ∧ σ 14 = .int .i64 (j : Nat) ∧ σ 13 = .int .i64 (fds.length : Nat) ∧ Mod [] w1 w') (by omega) (by omega) (fun j σ w h => ⟨h.2.2.1, h.2.2.2.1⟩) ?_ ?_ ?_
  · exact ⟨by simp, by simp, by simp, by simp, Mod.refl _ _⟩
  · rintro j σ w2 hj ⟨k3, k12, k14, k13, hm2⟩
    obtain ⟨fd, hfd⟩ : ∃ f, fds[j]? = some f := ⟨fds[j], by simp [hj]⟩
    obtain ⟨cs, hcs, hrep⟩ := hr.nth hfd
    obtain ⟨a, c, ea, hjn, hcell⟩ := hsv.flat hr.length hr.eight hcs
    have hm02 := hm1.trans hm2
    have hcell2 : cellsAt w2 (a.add (j * 8)) 0 8 = some cs := cellsAt_below hm02.below _ _ _ hcell
    rw [es] at ea
    simp only [Value.slice.injEq, true_and] at ea
    obtain ⟨ea, ec⟩ := ea
    subst ea
    unfold ir_sUsual_6
    rw [wpC_seq, wpC_blk]
    refine go1 (v := .int .i64 (j : Nat)) rfl (by simp [k14]) ?_
    refine go1 (v := .pointer (some (a.add (j * 8)))) rfl (by simp [k12, es, k14, hj]) ?_
    refine go1 (v := .agg cs.toArray) rfl (by simp [hcell2]) ?_
    refine goAlloc fun w3 hb3 hm3 => ?_
    refine go1 (v := .int .i64 (j : Nat)) rfl (by simp) ?_
    refine goSt (b := w2.heap.size) (v := .agg cs.toArray) (by simp) (by simp) hb3 (by simpa using hrep.eight) rfl (by simpa using hrep.oneCell) fun w4 hb4 hm4 => goEnd ?_
    simp only [thenC]
    have hb4 : Blk w4 w2.heap.size cs := by simpa using hb4
    have hm24 : Mod [] w2 w4 := Mod.drop (b := w2.heap.size) (S := []) (hm3.nil.trans hm4) (Nat.le_refl _)
    have hm14 : Mod [] w1 w4 := hm2.trans hm24
    have hld := cellsAt_of' (hb1.mod hm14 (by simp)).cells h5
    rw [wpC_seq, wpC_blk]
    refine go1 (v := .agg xs.toArray) rfl (by simp [k3, hld]) ?_
    refine go1 (v := .int .i64 (j : Nat)) rfl (by simp) ?_
    refine goCall rfl (vs := [.agg xs.toArray, .int .i64 (j : Nat)]) (by simp) (at_call hm hat (hx.keep (hm1.trans hm14))) ?_
    rintro e w5 ⟨ys, rfl, hy, hm5⟩
    refine ⟨_, rfl, ?_⟩
    refine goAlloc fun w6 hb6 hm6 => ?_
    refine goSt (b := w5.heap.size) (v := .agg ys.toArray) (by simp) (by simp) hb6 (by simpa using hy.five) rfl (by simpa using hy.oneCell) fun w7 hb7 hm7 => goEnd ?_
    simp only [thenC]
    have hb7 : Blk w7 w5.heap.size ys := by simpa using hb7
    have hm57 : Mod [] w5 w7 := Mod.drop (b := w5.heap.size) (S := []) (hm6.nil.trans hm7) (Nat.le_refl _)
    have hm47 := hm5.trans hm57
    have hm17 := hm14.trans hm47
    refine usual_field hm hs hnum (hb4.mod hm47 (by simp)) hb7 (hrep.keep (hm1.trans hm17)) (hy.keep hm57) (by simp) (by simp) (hU fd (List.mem_of_getElem? hfd)) (by have := usualL_nth hd hfd; simpa using this) fun σ' w' hfr hm' => ?_
    have hv : ∀ s, s < 16 → s ≠ 15 → s ≠ 5 → s ≠ 6 → s ≠ 7 → σ' s = σ s := fun s h1 h2 h3 h4 h5 => by
      rw [hfr s (by omega)]; simp only [updo, upd]; repeat rw [if_neg (by omega)]
    refine ⟨by rw [hv 14 (by omega) (by omega) (by omega) (by omega) (by omega)]; exact k14, ?_, ?_, by simp, ?_, hm17.trans hm'⟩
    · simp only [upd]; rw [if_neg (by omega), if_neg (by omega), hv 3 (by omega) (by omega) (by omega) (by omega) (by omega)]; exact k3
    · simp only [upd]; rw [if_neg (by omega), if_neg (by omega), hv 12 (by omega) (by omega) (by omega) (by omega) (by omega)]; exact k12
    · simp only [upd]; rw [if_neg (by omega), if_neg (by omega), hv 13 (by omega) (by omega) (by omega) (by omega) (by omega)]; exact k13
  · rintro σ w2 ⟨k3, k12, k14, k13, hm2⟩
    simp only [thenC]
    rw [wpC_seq, wpC_blk]
    refine go1 (v := .bool true) rfl (by simp) (goEnd ?_)
    simp only [thenC]
    exact ret1 (v := .bool true) (by simp) ⟨rfl, hm1.trans hm2⟩
end
end Go.Msk

namespace Go.Msk
open Go.RowKit
set_option maxRecDepth 100000
theorem unknownP_len (fs : List FD) (u : List (Nat × List UInt8)) : (unknownP fs u).length ≤ 32767 := by
  have gen : ∀ (v acc : List (Nat × List UInt8)), (v.foldl (unkStep (knownP fs)) acc).length ≤ acc.length + v.length := by
    intro v
    induction v with
    | nil => intro acc; simp
    | cons p v ih =>
      intro acc
      simp only [List.foldl_cons, List.length_cons]
      have h1 := ih (unkStep (knownP fs) acc p)
      have h2 : (unkStep (knownP fs) acc p).length ≤ acc.length + 1 := by
        unfold unkStep
        split
        · omega
        · exact insU_len acc
      omega
  have := gen (u.take 32767) []
  unfold unknownP
  simp only [List.length_nil, Nat.zero_add] at this
  refine Nat.le_trans this ?_
  simp; omega
section
variable {P : Program} {F : Nat → Nat}
attribute [local simp] gOk updo upd ev RK.val? isShift intBin Addr.add_mk args0 Value.cells undef
theorem told_has (hm : P.follows .mixedOrders = true) (hh : liftF P (F sHas) = some (ir_sHas F)) {w : World} {fb : Nat} {f : FD} {fcs : List Value} {ver : Int} {σ : Sl} {Q : Exit → Sl → World → Prop} (hb : Blk w fb fcs) (hr : RepF anyB w f fcs) (htag : f.tag < 0) (h1 : σ 1 = .int .i64 ver) (h12 : σ 12 = .pointer (some ⟨fb, 0, none⟩))
    (hQ : ∀ σ' w', (∀ s, s < 33 → σ' s = σ s) → σ' 54 = .bool (f.hasV ver) → Mod [] w w' → Q .normal σ' w') : wpC P (ir_sTold_1 F) Q σ w := by
  unfold ir_sTold_1
  have hr0 := hr
  have h8 := hr.eight
  cases hr with
  | @mk kind frm to null tag dfl of sub sv css f1 f2 =>
  simp only [FD.tag] at htag
  have c1 := fun k => hb.cell k
  have hld := cellsAt_of' hb.cells h8
  have et : decide (tag < 0) = true := by simp [htag]
  rw [wpC_blk]
  refine go1 (v := .pointer (some ⟨fb, 4, none⟩)) rfl (by simp [h12]) ?_
  refine go1 (v := .int .i64 tag) rfl (by simp [c1]) ?_
  refine go1 (v := .bool true) rfl (by simp [et]) ?_
  refine go1 (v := .bool true) rfl (by simp) ?_
  refine go1 (v := .agg #[.int .i64 kind, .int .i64 frm, .int .i64 to, .int .i64 null, .int .i64 tag, .int .i64 dfl, .int .i64 of, sv]) (by simp) (by simp [h12, hld]) ?_
  refine go1 (v := .int .i64 ver) (by simp) (by simp [h1]) ?_
  refine goCall (by simp) (vs := [.agg #[.int .i64 kind, .int .i64 frm, .int .i64 to, .int .i64 null, .int .i64 tag, .int .i64 dfl, .int .i64 of, sv], .int .i64 ver]) (by simp) (has_call hm hh hr0) ?_
  rintro e w' ⟨rfl, hm'⟩
  refine ⟨_, rfl, ?_⟩
  have c2 := fun k => (hb.mod hm' (by simp)).cell k
  show wpR P _ (updo _ (some 39) (.bool ((FD.mk kind frm to null tag dfl of sub).hasV ver))) w' _
  generalize (FD.mk kind frm to null tag dfl of sub).hasV ver = hv at hQ ⊢
  refine go1 (v := .bool hv) rfl (by simp) ?_
  refine go1 (v := .bool hv) rfl (by simp) ?_
  cases hv with
  | true =>
    iterate 12 (refine go0 (by simp) ?_)
    refine go1 (v := .bool true) rfl (by simp) (goEnd ?_)
    refine hQ _ w' (fun s hs => ?_) (by simp) hm'
    simp only [updo, upd]
    repeat rw [if_neg (by omega)]
  | false =>
    refine go1 (v := .pointer (some ⟨fb, 4, none⟩)) (by simp) (by simp [h12]) ?_
    refine go1 (v := .int .i64 tag) (by simp) (by simp [c2]) ?_
    refine go1 (v := .bool false) (by simp) (by simp; omega) ?_
    refine go1 (v := .bool false) (by simp) (by simp) ?_
    refine go0 (by simp) ?_
    refine go1 (v := .bool false) (by simp) (by simp) ?_
    refine go1 (v := .bool false) (by simp) (by simp) ?_
    iterate 4 (refine go0 (by simp) ?_)
    refine go1 (v := .bool false) (by simp) (by simp) ?_
    refine go1 (v := .bool false) rfl (by simp) (goEnd ?_)
    refine hQ _ w' (fun s hs => ?_) (by simp) hm'
    simp only [updo, upd]
    repeat rw [if_neg (by omega)]
theorem told_yes {w : World} {fb tb gb j n c : Nat} {f : FD} {x y : TR} {fcs xcs ycs gcs : List Value} {ver : Int} {flex : Bool} {a : Addr} {σ : Sl} {Q : Exit → Sl → World → Prop} (hf : Blk w fb fcs) (ht : Blk w tb xcs) (hg : Blk w gb gcs) (hrf : RepF anyB w f fcs) (hrx : RepT anyB w x xcs) (hry : RepT anyB w y ycs)
    (h1 : σ 1 = .int .i64 ver) (h2 : σ 2 = .bool flex) (h9 : σ 9 = .pointer (some ⟨gb, 0, none⟩)) (h11 : σ 11 = .int .i64 (j : Nat)) (h12 : σ 12 = .pointer (some ⟨fb, 0, none⟩)) (h13 : σ 13 = .pointer (some ⟨tb, 0, none⟩)) (hg3 : gcs[3]? = some (.slice (some a) n c)) (hj : j < n) (hcell : cellsAt w (a.add (j * 5)) 0 5 = some ycs)
    (hT : FieldT P F ver flex f) (htd : f.toldT ver flex x y) (hQ : ∀ σ' w', (∀ s, s < 55 → σ' s = σ s) → Mod [] w w' → Q .normal σ' w') : wpC P (ir_sTold_2 F) Q σ w := by
  unfold ir_sTold_2
  rw [wpC_seq]
  show wpD P _ [] _ w.drew _
  have hmd : Mod [] w w.drew := Mod.drew _ _
  have hl1 := cellsAt_of' (hf.mod hmd (by simp)).cells hrf.eight
  have hl2 := cellsAt_of' (ht.mod hmd (by simp)).cells hrx.five
  have c9 := fun k => (hg.mod hmd (by simp)).cell k
  have hc := cellsAt_below hmd.below _ _ _ hcell
  refine wpD_of_B (fun i v w' => match i with | 9 => v = .bool true | _ => True) (by
    intro i v w w' h hm
    split at h
    · exact h
    · trivial) ?_
  refine bo1 (v := .agg fcs.toArray) rfl (by simp [h12, hl1]) ?_
  refine bo1 (v := .int .i64 ver) rfl (by simp [h1]) ?_
  refine bo1 (v := .bool flex) rfl (by simp [h2]) ?_
  refine bo1 (v := .agg xcs.toArray) rfl (by simp [h13, hl2]) ?_
  refine bo1 (v := .pointer (some ⟨gb, 3, none⟩)) rfl (by simp [h9]) ?_
  refine bo1 (v := .slice (some a) n c) rfl (by simp [c9, hg3]) ?_
  refine bo1 (v := .int .i64 (j : Nat)) rfl (by simp [h11]) ?_
  refine bo1 (v := .pointer (some (a.add (j * 5)))) rfl (by simp [hj]) ?_
  refine bo1 (v := .agg ycs.toArray) rfl (by simp [hc]) ?_
  refine boCall (vs := [.agg fcs.toArray, .int .i64 ver, .bool flex, .agg xcs.toArray, .agg ycs.toArray]) rfl (by simp) (fun w' hm' _ => (hT w' fcs x xcs y ycs (hrf.keep (hmd.trans hm')) (hrx.keep (hmd.trans hm')) (hry.keep (hmd.trans hm')) htd).mono ?_) ?_
  · rintro e w'' ⟨rfl, hm2⟩
    exact ⟨_, rfl, hm2, rfl⟩
  rintro v ⟨wv, ev'⟩
  have ev' : v = .bool true := ev'
  subst ev'
  refine bo1 (v := .bool false) rfl (by simp) ?_
  intro w' hm' hkn
  refine goEnd ?_
  simp only [thenC]
  rw [wpC_cond_f (by simp), wpC_skip]
  refine hQ _ w' (fun s hs => ?_) (hmd.trans hm')
  simp only [updo, upd]
  repeat rw [if_neg (by omega)]
theorem one_run {w : World} {x : Operand} {n : Nat} {z cs : List Value} {σ : Sl} {Φ : Value → World → Prop} (hx : (ev σ x).cells.toList = cs) (hn : cs.length = n) (hz : z.length = n) (h : ∀ w', Blk w' w.heap.size cs → Mod [] w w' → Φ (.slice (some ⟨w.heap.size, 0, none⟩) 1 1) w') :
    (RK.bslice 1 z [(0, n, x)]).run P σ w fun v w' => Mod [] w w' ∧ Φ v w' := by
  have hl : (ev σ x).cells.size = n := by rw [← hn, ← hx]; simp
  have e1 : fillL (zrep 1 z) [(0, n, ev σ x)] = some cs := by
    simp only [fillL, zrep, List.replicate, List.flatten_cons, List.flatten_nil, List.append_nil]
    rw [if_pos ⟨hl, by omega⟩, hx]
    simp [splice, hn, hz]
  simp only [RK.run, List.map_cons, List.map_nil, e1]
  intro T
  exact ⟨Mod.alloc _ _ _, h _ (Blk.new w _ T) (Mod.alloc _ _ _)⟩
theorem told_no {w : World} {fb gb j n c : Nat} {f : FD} {y : TR} {fcs ycs gcs : List Value} {a : Addr} {σ : Sl} {Q : Exit → Sl → World → Prop} (hf : Blk w fb fcs) (hg : Blk w gb gcs) (hrf : RepF anyB w f fcs) (hry : RepT anyB w y ycs)
    (h9 : σ 9 = .pointer (some ⟨gb, 0, none⟩)) (h11 : σ 11 = .int .i64 (j : Nat)) (h12 : σ 12 = .pointer (some ⟨fb, 0, none⟩)) (hg3 : gcs[3]? = some (.slice (some a) n c)) (hj : j < n) (hcell : cellsAt w (a.add (j * 5)) 0 5 = some ycs)
    (hU : UsualC P F [f]) (htd : f.usualT y) (hQ : ∀ σ' w', (∀ s, s < 66 → σ' s = σ s) → σ' 76 = .bool false → Mod [] w w' → Q .normal σ' w') : wpC P (ir_sTold_3 F) Q σ w := by
  unfold ir_sTold_3
  show wpD P _ [] _ w.drew _
  have hmd : Mod [] w w.drew := Mod.drew _ _
  have hl1 := cellsAt_of' (hf.mod hmd (by simp)).cells hrf.eight
  have c9 := fun k => (hg.mod hmd (by simp)).cell k
  have hc := cellsAt_below hmd.below _ _ _ hcell
  have slc : ∀ {w' : World} {B : Nat} {cs : List Value}, Blk w' B cs → SlC anyB w' (.slice (some ⟨B, 0, none⟩) 1 1) 1 cs := fun hb => ⟨_, 1, rfl, by omega, by simp, fun a ha _ => by simp only [Option.some.injEq] at ha; subst ha; exact ⟨trivial, hb.lt, hb.cells⟩⟩
  refine wpD_of_B (fun i v w' => match i with | 1 => SlC anyB w' v 1 fcs | 7 => SlC anyB w' v 1 ycs | 9 => v = .bool true | _ => True) (by
    intro i v w w' h hm
    split at h
    · exact h.keep hm
    · exact h.keep hm
    · exact h
    · trivial) ?_
  refine bo1 (v := .agg fcs.toArray) rfl (by simp [h12, hl1]) ?_
  refine boN rfl (fun w' hm' _ => one_run (cs := fcs) (by simp) hrf.eight rfl fun w'' hb hmm => slc hb) ?_
  rintro v1 ⟨wv1, hv1⟩
  have hv1 : SlC anyB wv1 v1 1 fcs := hv1
  refine bo1 (v := .pointer (some ⟨gb, 3, none⟩)) rfl (by simp [h9]) ?_
  refine bo1 (v := .slice (some a) n c) rfl (by simp [c9, hg3]) ?_
  refine bo1 (v := .int .i64 (j : Nat)) rfl (by simp [h11]) ?_
  refine bo1 (v := .pointer (some (a.add (j * 5)))) rfl (by simp [hj]) ?_
  refine bo1 (v := .agg ycs.toArray) rfl (by simp [hc]) ?_
  refine boN rfl (fun w' hm' _ => one_run (cs := ycs) (by simp) hry.five rfl fun w'' hb hmm => slc hb) ?_
  rintro v7 ⟨wv7, hv7⟩
  have hv7 : SlC anyB wv7 v7 1 ycs := hv7
  obtain ⟨b7, c7, e7⟩ := hv7.shape
  refine bo1 (v := .agg #[.int .i64 0, .slice none 0 0, .bool false, v7, .slice none 0 0]) rfl (by simp [e7, fillL, splice]) ?_
  refine boCall (vs := [v1, .agg #[.int .i64 0, .slice none 0 0, .bool false, v7, .slice none 0 0]]) rfl (by simp) (fun w' hm' hkn => ?_) ?_
  · have k1 := known_get (j := 1) (t := 67) hkn (by simp) rfl rfl rfl rfl
    have k7 := known_get (j := 7) (t := 73) hkn (by simp) rfl rfl rfl rfl
    have k1 : SlC anyB w' v1 1 fcs := by simpa using k1
    have k7 : SlC anyB w' v7 1 ycs := by simpa using k7
    refine (hU w' v1 [fcs] (.mk 0 [] false [y] []) [.int .i64 0, .slice none 0 0, .bool false, v7, .slice none 0 0] (by simpa using k1) (.cons (hrf.keep (hmd.trans hm')) .nil)
      (.mk (css := [ycs]) (uss := []) SlC.nil (by simpa using k7) (.cons (hry.keep (hmd.trans hm')) .nil) SlC.nil .nil) rfl ⟨by simpa [TR.at, TR.l] using htd, trivial⟩).mono ?_
    rintro e w'' ⟨rfl, hmm⟩
    exact ⟨_, rfl, hmm, rfl⟩
  rintro v ⟨wv, ev'⟩
  have ev' : v = .bool true := ev'
  subst ev'
  refine bo1 (v := .bool false) rfl (by simp) ?_
  intro w' hm' hkn
  refine goEnd (hQ _ w' (fun s hs => ?_) (by simp) (hmd.trans hm'))
  simp only [updo, upd]
  repeat rw [if_neg (by omega)]
end
end Go.Msk

namespace Go.Msk
open Go.RowKit
set_option maxRecDepth 100000
section
variable {P : Program} {F : Nat → Nat}
attribute [local simp] gOk updo upd ev RK.val? isShift intBin Addr.add_mk args0 Value.cells undef
theorem told_tag (hm : P.follows .mixedOrders = true) (hw : liftF P (F sWhole) = some (ir_sWhole F)) (hs : liftF P (F sSame) = some (ir_sSame F)) {w : World} {gb ub j n c k : Nat} {gcs : List Value} {a : Addr} {kv vv uv : Value} {b : List UInt8} {σ : Sl} {Q : Exit → Sl → World → Prop}
    (hg : Blk w gb gcs) (hub : Blk w ub [.int .u32 k, uv]) (huv : SlC anyB w uv b.length (u8s b)) (hvv : SlC anyB w vv (wholeP b).length (u8s (wholeP b))) (h9 : σ 9 = .pointer (some ⟨gb, 0, none⟩)) (h15 : σ 15 = .int .i64 (j : Nat)) (h16 : σ 16 = .pointer (some ⟨ub, 0, none⟩)) (hg4 : gcs[4]? = some (.slice (some a) n c)) (hj : j < n)
    (hcell : Cells w ⟨a.block, a.off + j * 2, none⟩ [kv, vv]) (ha : a.spot = none) (hkv : kv = .int .u32 k) (hQ : ∀ σ' w', (∀ s, s < 97 → σ' s = σ s) → σ' 118 = .bool false → Mod [] w w' → Q .normal σ' w') : wpC P (ir_sTold_5 F) Q σ w := by
  unfold ir_sTold_5
  subst hkv
  show wpD P _ [] _ w.drew _
  have hmd : Mod [] w w.drew := Mod.drew _ _
  have c9 := fun k => (hg.mod hmd (by simp)).cell k
  have c16 := fun k => (hub.mod hmd (by simp)).cell k
  obtain ⟨ab, ao, as⟩ := a
  simp only at ha hcell
  subst ha
  have hc := hcell.mod hmd (.inr (by simp))
  have q0 : w.drew.cell? ⟨ab, ao + j * 2, none⟩ = some (.int .u32 k) := hc.head
  have q1 : w.drew.cell? ⟨ab, ao + j * 2 + 1, none⟩ = some vv := hc.2 1 vv rfl
  refine wpD_of_B (fun i v w' => match i with | 18 => SlC anyB w' v (wholeP b).length (u8s (wholeP b)) | 19 => v = .bool true | _ => True) (by
    intro i v w w' h hm
    split at h
    · exact h.keep hm
    · exact h
    · trivial) ?_
  refine bo1 (v := .pointer (some ⟨gb, 4, none⟩)) rfl (by simp [h9]) ?_
  refine bo1 (v := .slice (some ⟨ab, ao, none⟩) n c) rfl (by simp [c9, hg4]) ?_
  refine bo1 (v := .int .i64 (j : Nat)) rfl (by simp [h15]) ?_
  refine bo1 (v := .pointer (some ⟨ab, ao + j * 2, none⟩)) rfl (by simp [hj]) ?_
  refine bo1 (v := .pointer (some ⟨ab, ao + j * 2, none⟩)) rfl (by simp) ?_
  refine bo1 (v := .int .u32 k) rfl (by simp [q0]) ?_
  refine bo1 (v := .pointer (some ⟨ub, 0, none⟩)) rfl (by simp [h16]) ?_
  refine bo1 (v := .int .u32 k) rfl (by simp [c16]) ?_
  refine bo1 (v := .bool false) rfl (by simp) ?_
  refine bo1 (v := .bool false) rfl (by simp) ?_
  refine bo1 (v := .pointer (some ⟨gb, 4, none⟩)) (by simp) (by simp [h9]) ?_
  refine bo1 (v := .slice (some ⟨ab, ao, none⟩) n c) (by simp) (by simp [c9, hg4]) ?_
  refine bo1 (v := .int .i64 (j : Nat)) (by simp) (by simp [h15]) ?_
  refine bo1 (v := .pointer (some ⟨ab, ao + j * 2, none⟩)) (by simp) (by simp [hj]) ?_
  refine bo1 (v := .pointer (some ⟨ab, ao + j * 2 + 1, none⟩)) (by simp) (by simp) ?_
  refine bo1 (v := vv) (by simp) (by simp [q1]) ?_
  refine bo1 (v := .pointer (some ⟨ub, 1, none⟩)) (by simp) (by simp [h16]) ?_
  refine bo1 (v := uv) (by simp) (by simp [c16]) ?_
  refine boCall (vs := [uv]) (by simp) (by simp) (fun w' hm' _ => (whole_call hm hw (huv.keep (hmd.trans hm'))).mono ?_) ?_
  · rintro e w'' ⟨rfl, v', rfl, hv⟩
    exact ⟨_, rfl, Mod.refl _ _, hv⟩
  rintro v ⟨wv, -⟩
  refine boCall (vs := [vv, v]) (by simp) (by simp) (fun w' hm' hkn => ?_) ?_
  · have k4 := known_get (j := 18) (t := 115) hkn (by simp) rfl rfl (by simp) rfl
    have k4 : SlC anyB w' v (wholeP b).length (u8s (wholeP b)) := by simpa using k4
    refine (same_call hm hs (hvv.keep (hmd.trans hm')) k4 (by have := wholeP_le b; omega)).mono ?_
    rintro e w'' ⟨rfl, hmm⟩
    exact ⟨_, rfl, hmm, by simp⟩
  rintro v2 ⟨wv', ev'⟩
  have ev' : v2 = .bool true := ev'
  subst ev'
  refine bo1 (v := .bool false) (by simp) (by simp) ?_
  refine bo1 (v := .bool false) rfl (by simp) ?_
  intro w' hm' hkn
  refine goEnd (hQ _ w' (fun s hs => ?_) (by simp) (hmd.trans hm'))
  simp only [updo, upd]
  repeat rw [if_neg (by omega)]
theorem told_tags (hm : P.follows .mixedOrders = true) (hw : liftF P (F sWhole) = some (ir_sWhole F)) (hs : liftF P (F sSame) = some (ir_sSame F)) {w : World} {gb : Nat} {gcs : List Value} {lv guv : Value} {L gu : List (Nat × List UInt8)} {ucs guss : List (List Value)} {σ : Sl} {Q : Exit → Sl → World → Prop}
    (hg : Blk w gb gcs) (h9 : σ 9 = .pointer (some ⟨gb, 0, none⟩)) (h14 : σ 14 = lv) (hg4 : gcs[4]? = some guv) (hlv : SlC anyB w lv L.length ucs.flatten) (hL : RepU anyB w L ucs) (hgv : SlC anyB w guv gu.length guss.flatten) (hG : RepU anyB w gu guss) (hlen : L.length ≤ 32767) (he : gu = wholeU L)
    (hQ : ∀ σ' w', Mod [] w w' → Q .normal σ' w') : wpC P (ir_sTold_6 F) Q σ w := by
  unfold ir_sTold_6
  obtain ⟨lb, lc, el⟩ := hlv.shape
  have hgl : gu.length = L.length := by rw [he]; simp [wholeU]
  rw [wpC_seq, wpC_blk]
  refine go1 (v := lv) rfl (by simp [h14]) ?_
  refine go1 (v := .int .i64 (L.length : Nat)) rfl (by simp [el]) ?_
  refine go1 (v := .int .i64 (0 : Nat)) rfl (by simp) (goEnd ?_)
  simp only [thenC]
  refine rangeLoop (n := L.length) (fun j σ w' => σ 9 = .pointer (some ⟨gb, 0, none⟩) ∧ σ 90 = lv ∧ σ 92 = .int .i64 (j : Nat) ∧ σ 91 = .int .i64 (L.length : Nat) ∧ Mod [] w w') (by omega) (by omega) (fun j σ w h => ⟨h.2.2.1, h.2.2.2.1⟩) ?_ ?_ ?_
  · exact ⟨by simp [h9], by simp, by simp, by simp, Mod.refl _ _⟩
  · rintro j σ w2 hj ⟨k9, k90, k92, k91, hm2⟩
    obtain ⟨p, hp⟩ : ∃ p, L[j]? = some p := ⟨_, List.getElem?_eq_getElem hj⟩
    have hq : gu[j]? = some (p.1, wholeP p.2) := by rw [he]; simp [wholeU, hp]
    obtain ⟨uv, hu1, hu2⟩ := hL.nth hp
    obtain ⟨vv, hv1, hv2⟩ := hG.nth hq
    obtain ⟨base, cap, e1, e2, e3, e4⟩ := hlv
    obtain ⟨base2, cap2, f1, f2, f3, f4⟩ := hgv
    cases base with
    | none => have := e3 rfl; omega
    | some a =>
    cases base2 with
    | none => have := f3 rfl; omega
    | some a2 =>
    obtain ⟨-, -, q3⟩ := e4 a rfl (by omega)
    obtain ⟨-, -, r3⟩ := f4 a2 rfl (by omega)
    obtain ⟨ab, ao, as⟩ := a
    obtain ⟨gb2, go, gs⟩ := a2
    have ea : as = none := q3.1
    have ea2 : gs = none := r3.1
    subst ea; subst ea2
    have hce := (q3.each hL.two hu1).mod hm2 (.inr (by simp))
    have hcg := (r3.each hG.two hv1).mod hm2 (.inr (by simp))
    have hld := cellsAt_of' hce (show [Value.int .u32 (p.1 : Nat), uv].length = 2 from rfl)
    have hu2' := hu2.keep hm2
    rw [e1] at k90
    rw [f1] at hg4
    rw [wpC_seq, wpC_blk]
    refine go1 (v := .int .i64 (j : Nat)) rfl (by simp [k92]) ?_
    refine go1 (v := .pointer (some ⟨ab, ao + j * 2, none⟩)) rfl (by simp [k90, k92, hj]) ?_
    refine go1 (v := .agg #[.int .u32 (p.1 : Nat), uv]) rfl (by simp [hld]) ?_
    refine goAlloc fun w3 hb3 hm3 => ?_
    refine go1 (v := .int .i64 (j : Nat)) rfl (by simp) ?_
    refine goSt (b := w2.heap.size) (v := .agg #[.int .u32 (p.1 : Nat), uv]) (by simp) (by simp) hb3 (by simp) rfl (by
      intro y hy
      simp only [Value.cells, List.mem_cons, List.not_mem_nil, or_false] at hy
      rcases hy with rfl | rfl
      · rfl
      · exact hu2.one) fun w4 hb4 hm4 => goEnd ?_
    simp only [thenC]
    have hb4 : Blk w4 w2.heap.size [.int .u32 (p.1 : Nat), uv] := by simpa using hb4
    have hm24 : Mod [] w2 w4 := Mod.drop (b := w2.heap.size) (S := []) (hm3.nil.trans hm4) (Nat.le_refl _)
    rw [wpC_seq]
    refine told_tag hm hw hs (gb := gb) (j := j) (hg.mod (hm2.trans hm24) (by simp)) hb4 (hu2.keep (hm2.trans hm24)) (hv2.keep (hm2.trans hm24)) (by simp [k9]) (by simp) (by simp) hg4 (by omega) (hcg.mod hm24 (.inr (by simp))) rfl rfl fun σ' w' hfr h118 hm' => ?_
    simp only [thenC]
    rw [wpC_cond_f (by simp [h118]), wpC_skip]
    have hv : ∀ s, s < 94 → s ≠ 93 → s ≠ 15 → s ≠ 16 → σ' s = σ s := fun s h1 h2 h3 h4 => by
      rw [hfr s (by omega)]; simp only [updo, upd]; repeat rw [if_neg (by omega)]
    refine ⟨by rw [hv 92 (by omega) (by omega) (by omega) (by omega)]; exact k92, ?_, ?_, by simp, ?_, (hm2.trans hm24).trans hm'⟩
    · simp only [upd]; rw [if_neg (by omega), if_neg (by omega), hv 9 (by omega) (by omega) (by omega) (by omega)]; exact k9
    · simp only [upd]; rw [if_neg (by omega), if_neg (by omega), hv 90 (by omega) (by omega) (by omega) (by omega), k90, e1]
    · simp only [upd]; rw [if_neg (by omega), if_neg (by omega), hv 91 (by omega) (by omega) (by omega) (by omega)]; exact k91
  · rintro σ w2 ⟨-, -, -, -, hm2⟩
    exact hQ _ w2 hm2
theorem toldL_len {ver : Int} {flex : Bool} : ∀ {fds : List FD} {i : Nat} {t : TR} {gl : List TR}, toldL ver flex fds i t gl → gl.length = fds.length
  | [], i, t, gl, h => by simp only [toldL] at h; subst h; rfl
  | f :: fds, i, t, gl, h => by
    simp only [toldL] at h
    obtain ⟨g, r, rfl, -, -, h⟩ := h
    simp [toldL_len h]
theorem toldL_nth {ver : Int} {flex : Bool} : ∀ {fds : List FD} {i : Nat} {t : TR} {gl : List TR} {j : Nat} {f : FD} {g : TR}, toldL ver flex fds i t gl → fds[j]? = some f → gl[j]? = some g → (f.hasV ver = true → f.toldT ver flex (t.at (i + j)) g) ∧ (f.hasV ver = false → f.usualT g)
  | f0 :: fds, i, t, gl, 0, f, g, h, hf, hg => by
    simp only [toldL] at h
    obtain ⟨g0, r, rfl, h1, h2, -⟩ := h
    simp only [List.getElem?_cons_zero, Option.some.injEq] at hf hg
    subst hf; subst hg
    exact ⟨h1, h2⟩
  | f0 :: fds, i, t, gl, j + 1, f, g, h, hf, hg => by
    simp only [toldL] at h
    obtain ⟨g0, r, rfl, -, -, h⟩ := h
    have := toldL_nth h (by simpa using hf) (by simpa using hg)
    rwa [show i + (j + 1) = i + 1 + j by omega]
theorem told_part (hm : P.follows .mixedOrders = true) (h : liftF P (F sTold) = some (ir_sTold F)) (hat : liftF P (F sAt) = some (ir_sAt F)) (hh : liftF P (F sHas) = some (ir_sHas F)) (hw : liftF P (F sWhole) = some (ir_sWhole F)) (hs : liftF P (F sSame) = some (ir_sSame F)) (hkn : liftF P (F sKnown) = some (ir_sKnown F)) (hun : liftF P (F sUnknown) = some (ir_sUnknown F))
    {ver : Int} {flex : Bool} {fds : List FD} (hlen : fds.length < 1000) (htag : ∀ f ∈ fds, f.tag < 0) (hF : ∀ f ∈ fds, FieldT P F ver flex f) (hU : ∀ f ∈ fds, UsualC P F [f]) : PartT P F ver flex fds := by
  intro w sv css t ts g gs hsv hr ht hg htd
  obtain ⟨htd, hgu⟩ := htd
  have hgl := toldL_len htd
  have ht0 := ht
  have hg0 := hg
  cases ht with
  | @mk n s tn l u tsv lv uv tss uss a1 a2 a3 a4 a5 =>
  cases hg with
  | @mk gn gs' gb' gl gu gsv glv guv gss guss b1 b2 b3 b4 b5 =>
  simp only [TR.l, TR.u] at htd hgu hgl
  unfold ir_sTold at h
  refine call_of h hm (by simp) ?_
  clear h
  obtain ⟨sb, sc, es⟩ := hsv.shape
  obtain ⟨gb0, gc0, egl⟩ := b2.shape
  obtain ⟨gu0, gu1, egu⟩ := b4.shape
  rw [wpC_seq, wpC_blk]
  refine goBox (v := .agg #[.int .i64 n, tsv, .bool tn, lv, uv]) (by simp) fun w1 hb1 hm1 => ?_
  refine goBox (v := .agg #[.int .i64 gn, gsv, .bool gb', glv, guv]) (by simp) fun w2 hb2 hm2 => ?_
  refine go1 (v := .bool false) rfl (by simp) (goEnd ?_)
  simp only [thenC]
  have hb1 : Blk w2 w.heap.size [.int .i64 n, tsv, .bool tn, lv, uv] := Blk.mod (by simpa using hb1) hm2 (by simp)
  have hb2 : Blk w2 w1.heap.size [.int .i64 gn, gsv, .bool gb', glv, guv] := by simpa using hb2
  have hm02 := hm1.trans hm2
  have c2 := fun k => hb2.cell k
  rw [wpC_seq, wpC_seq, wpC_blk]
  refine go1 (v := .pointer (some ⟨w1.heap.size, 3, none⟩)) rfl (by simp) ?_
  refine go1 (v := glv) rfl (by simp [c2]) ?_
  refine go1 (v := .int .i64 (gl.length : Nat)) rfl (by simp [egl]) ?_
  refine go1 (v := sv) rfl (by simp) ?_
  refine go1 (v := .int .i64 (fds.length : Nat)) rfl (by simp [es]) ?_
  refine go1 (v := .bool false) rfl (by simp [hgl]) (goEnd ?_)
  simp only [thenC]
  rw [wpC_cond_f (by simp), wpC_skip]
  simp only [thenC]
  rw [wpC_seq, wpC_seq, wpC_blk]
  refine go1 (v := sv) rfl (by simp) ?_
  refine go1 (v := .int .i64 (fds.length : Nat)) rfl (by simp [es]) ?_
  refine go1 (v := .int .i64 (0 : Nat)) rfl (by simp) (goEnd ?_)
  simp only [thenC]
  refine rangeLoop (n := fds.length) (fun j σ w' => (σ 0 = sv ∧ σ 1 = .int .i64 ver ∧ σ 2 = .bool flex ∧ σ 8 = .pointer (some ⟨w.heap.size, 0, none⟩) ∧ σ 9 = .pointer (some ⟨w1.heap.size, 0, none⟩) ∧ σ 23 = sv) ∧ σ 25 = .int .i64 (j : Nat) ∧ σ 24 = .int .i64 (fds.length : Nat) ∧ Mod [] w2 w') (by omega) (by omega) (fun j σ w h => ⟨h.2.1, h.2.2.1⟩) ?_ ?_ ?_
  · exact ⟨⟨by simp, by simp, by simp, by simp, by simp, by simp⟩, by simp, by simp, Mod.refl _ _⟩
  · rintro j σ w3 hj ⟨⟨k0, k1, k2, k8, k9, k23⟩, k25, k24, hm3⟩
    have hm03 := hm02.trans hm3
    obtain ⟨fd, hfd⟩ : ∃ f, fds[j]? = some f := ⟨fds[j], by simp [hj]⟩
    obtain ⟨y, hy⟩ : ∃ y, gl[j]? = some y := ⟨_, List.getElem?_eq_getElem (by omega)⟩
    obtain ⟨q1, q2⟩ := toldL_nth htd hfd hy
    rw [Nat.zero_add] at q1
    obtain ⟨cs, hcs, hrep⟩ := hr.nth hfd
    obtain ⟨ycs, hycs, hyr⟩ := b3.nth hy
    obtain ⟨a, c, ea, hjn, hcell⟩ := hsv.flat hr.length hr.eight hcs
    obtain ⟨a2, c2', ea2, hjn2, hcell2⟩ := b2.flat b3.length b3.five hycs
    have hcell' : cellsAt w3 (a.add (j * 8)) 0 8 = some cs := cellsAt_below hm03.below _ _ _ hcell
    rw [ea] at k23
    unfold ir_sTold_4
    rw [wpC_seq, wpC_blk]
    refine go1 (v := .int .i64 (j : Nat)) rfl (by simp [k25]) ?_
    refine go1 (v := .pointer (some (a.add (j * 8)))) rfl (by simp [k23, k25, hj]) ?_
    refine go1 (v := .agg cs.toArray) rfl (by simp [hcell']) ?_
    refine goAlloc fun w4 hb4 hm4 => ?_
    refine go1 (v := .int .i64 (j : Nat)) rfl (by simp) ?_
    refine goSt (b := w3.heap.size) (v := .agg cs.toArray) (by simp) (by simp) hb4 (by simpa using hrep.eight) rfl (by simpa using hrep.oneCell) fun w5 hb5 hm5 => goEnd ?_
    simp only [thenC]
    have hb5 : Blk w5 w3.heap.size cs := by simpa using hb5
    have hm35 : Mod [] w3 w5 := Mod.drop (b := w3.heap.size) (S := []) (hm4.nil.trans hm5) (Nat.le_refl _)
    have hm25 := hm3.trans hm35
    have hld1 := cellsAt_of' (hb1.mod hm25 (by simp)).cells (n := 5) rfl
    rw [wpC_seq, wpC_blk]
    refine go1 (v := .agg #[.int .i64 n, tsv, .bool tn, lv, uv]) rfl (by simp [k8, hld1]) ?_
    refine go1 (v := .int .i64 (j : Nat)) rfl (by simp) ?_
    refine goCall rfl (vs := [.agg #[.int .i64 n, tsv, .bool tn, lv, uv], .int .i64 (j : Nat)]) (by simp) (at_call hm hat (ht0.keep (hm02.trans hm25))) ?_
    rintro e w6 ⟨xs, rfl, hx, hm6⟩
    refine ⟨_, rfl, ?_⟩
    refine goAlloc fun w7 hb7 hm7 => ?_
    refine goSt (b := w6.heap.size) (v := .agg xs.toArray) (by simp) (by simp) hb7 (by simpa using hx.five) rfl (by simpa using hx.oneCell) fun w8 hb8 hm8 => goEnd ?_
    simp only [thenC]
    have hb8 : Blk w8 w6.heap.size xs := by simpa using hb8
    have hm68 : Mod [] w6 w8 := Mod.drop (b := w6.heap.size) (S := []) (hm7.nil.trans hm8) (Nat.le_refl _)
    have hm58 := hm6.trans hm68
    have hm28 := hm25.trans hm58
    rw [wpC_seq, wpC_seq]
    refine told_has (ver := ver) hm hh (hb5.mod hm58 (by simp)) (hrep.keep (hm02.trans hm28)) (htag fd (List.mem_of_getElem? hfd)) (by simp [k1]) (by simp) fun σ9 w9 hfr9 h54 hm9 => ?_
    simp only [thenC]
    have hm29 := hm28.trans hm9
    have hm09 := hm02.trans hm29
    have hv9 : ∀ s, s < 26 → s ≠ 11 → s ≠ 12 → s ≠ 13 → σ9 s = σ s := fun s h1 h2 h3 h4 => by
      rw [hfr9 s (by omega)]; simp only [updo, upd]; repeat rw [if_neg (by omega)]
    have h11 : σ9 11 = .int .i64 (j : Nat) := by rw [hfr9 11 (by omega)]; simp
    have h12 : σ9 12 = .pointer (some ⟨w3.heap.size, 0, none⟩) := by rw [hfr9 12 (by omega)]; simp
    have h13 : σ9 13 = .pointer (some ⟨w6.heap.size, 0, none⟩) := by rw [hfr9 13 (by omega)]; simp
    have nxt : ∀ (σ' : Sl) (w' : World), (∀ s, s < 26 → s ≠ 11 → s ≠ 12 → s ≠ 13 → σ' s = σ s) → Mod [] w2 w' → σ' 25 = .int .i64 (j : Nat) ∧ (fun (j : Nat) (σ : Sl) (w' : World) => (σ 0 = sv ∧ σ 1 = .int .i64 ver ∧ σ 2 = .bool flex ∧ σ 8 = .pointer (some ⟨w.heap.size, 0, none⟩) ∧ σ 9 = .pointer (some ⟨w1.heap.size, 0, none⟩) ∧ σ 23 = sv) ∧ σ 25 = .int .i64 (j : Nat) ∧ σ 24 = .int .i64 (fds.length : Nat) ∧ Mod [] w2 w') (j + 1) (upd (upd σ' 77 (.int .i64 ((j + 1 : Nat) : Int))) 25 (.int .i64 ((j + 1 : Nat) : Int))) w' := by
      intro σ' w' hfr hm'
      refine ⟨by rw [hfr 25 (by omega) (by omega) (by omega) (by omega)]; exact k25, ⟨?_, ?_, ?_, ?_, ?_, ?_⟩, by simp, ?_, hm'⟩
      all_goals simp only [upd]; rw [if_neg (by omega), if_neg (by omega), hfr _ (by omega) (by omega) (by omega) (by omega)]
      · exact k0
      · exact k1
      · exact k2
      · exact k8
      · exact k9
      · rw [k23, ea]
      · exact k24
    cases hvv : fd.hasV ver with
    | true =>
      rw [hvv] at h54
      rw [wpC_cond_t (by simp [h54]), wpC_seq]
      refine told_yes (hb5.mod (hm58.trans hm9) (by simp)) (hb8.mod hm9 (by simp)) (hb2.mod hm29 (by simp)) (hrep.keep hm09) (hx.keep (hm68.trans hm9)) (hyr.keep hm09) (by rw [hv9 1 (by omega) (by omega) (by omega) (by omega)]; exact k1) (by rw [hv9 2 (by omega) (by omega) (by omega) (by omega)]; exact k2) (by rw [hv9 9 (by omega) (by omega) (by omega) (by omega)]; exact k9) h11 h12 h13
        (by rw [ea2]; rfl) hjn2 (cellsAt_below hm09.below _ _ _ hcell2) (hF fd (List.mem_of_getElem? hfd)) (q1 hvv) fun σ10 w10 hfr10 hm10 => ?_
      simp only [thenC, wpC, rngP, if_true]
      exact nxt σ10 w10 (fun s h1 h2 h3 h4 => by rw [hfr10 s (by omega)]; exact hv9 s h1 h2 h3 h4) (hm29.trans hm10)
    | false =>
      rw [hvv] at h54
      rw [wpC_cond_f (by simp [h54]), wpC_skip]
      simp only [thenC]
      rw [wpC_seq]
      refine told_no (hb5.mod (hm58.trans hm9) (by simp)) (hb2.mod hm29 (by simp)) (hrep.keep hm09) (hyr.keep hm09) (by rw [hv9 9 (by omega) (by omega) (by omega) (by omega)]; exact k9) h11 h12 (by rw [ea2]; rfl) hjn2 (cellsAt_below hm09.below _ _ _ hcell2) (hU fd (List.mem_of_getElem? hfd)) (q2 hvv) fun σ10 w10 hfr10 h76 hm10 => ?_
      simp only [thenC]
      rw [wpC_cond_f (by simp [h76]), wpC_skip]
      exact nxt σ10 w10 (fun s h1 h2 h3 h4 => by rw [hfr10 s (by omega)]; exact hv9 s h1 h2 h3 h4) (hm29.trans hm10)
  · rintro σ w3 ⟨⟨k0, k1, k2, k8, k9, k23⟩, k25, k24, hm3⟩
    have hm03 := hm02.trans hm3
    simp only [thenC]
    have c1 := fun k => (hb1.mod hm3 (by simp)).cell k
    rw [wpC_seq, wpC_blk]
    refine go1 (v := sv) rfl (by simp [k0]) ?_
    refine go1 (v := .pointer (some ⟨w.heap.size, 4, none⟩)) rfl (by simp [k8]) ?_
    refine go1 (v := uv) rfl (by simp [c1]) ?_
    refine goCall rfl (vs := [sv, uv]) (by simp) (unknown_call hm hun hkn (hsv.keep hm03) (hr.keep hm03) (by omega) (fun f hf => by have := htag f hf; omega) (a4.keep hm03) (a5.keep hm03)) ?_
    rintro e w4 ⟨lv4, ucs, rfl, hl4, hu4, hm4⟩
    refine ⟨lv4, rfl, go1 (v := lv4) rfl (by simp) (goEnd ?_)⟩
    simp only [thenC]
    have hm24 := hm3.trans hm4
    have hm04 := hm02.trans hm24
    have hb24 := hb2.mod hm24 (by simp)
    have c9 := fun k => hb24.cell k
    have key : ∀ (σ' : Sl) (lv' : Value) (L : List (Nat × List UInt8)) (ucs : List (List Value)), σ' 9 = .pointer (some ⟨w1.heap.size, 0, none⟩) → σ' 14 = lv' → SlC anyB w4 lv' L.length ucs.flatten → RepU anyB w4 L ucs → L.length ≤ 32767 → gu = wholeU L →
        wpC P (.seq (.seq (.blk [⟨(some (84)), .fad (.tmp 9) 4, none⟩, ⟨(some (85)), .ld (.tmp 84), none⟩, ⟨(some (86)), .len (.tmp 85), none⟩, ⟨(some (87)), .mv (.tmp 14), none⟩, ⟨(some (88)), .len (.tmp 87), none⟩, ⟨(some (89)), .bin .neq (.tmp 86) (.tmp 88), none⟩])
          (.cond (.tmp 89) (.seq (.blk [⟨(some (10)), .mv (.const (.bool false)), none⟩]) (.ret)) (.skip)))
          (.seq (ir_sTold_6 F) (.seq (.blk [⟨(some (10)), .mv (.const (.bool true)), none⟩]) (.ret)))) (postC [.tmp 10] (TrueR w)) σ' w4 := by
      intro σ' lv' L ucs h9 h14 hl hu hL he
      obtain ⟨b', c', el'⟩ := hl.shape
      have hgl : gu.length = L.length := by rw [he]; simp [wholeU]
      rw [wpC_seq, wpC_seq, wpC_blk]
      refine go1 (v := .pointer (some ⟨w1.heap.size, 4, none⟩)) rfl (by simp [h9]) ?_
      refine go1 (v := guv) rfl (by simp [c9]) ?_
      refine go1 (v := .int .i64 (gu.length : Nat)) rfl (by simp [egu]) ?_
      refine go1 (v := lv') rfl (by simp [h14]) ?_
      refine go1 (v := .int .i64 (L.length : Nat)) rfl (by simp [el']) ?_
      refine go1 (v := .bool false) rfl (by simp [hgl]) (goEnd ?_)
      simp only [thenC]
      rw [wpC_cond_f (by simp), wpC_skip]
      simp only [thenC]
      rw [wpC_seq]
      refine told_tags hm hw hs hb24 (by simp [h9]) (by simp [h14]) rfl hl hu (b4.keep hm04) (b5.keep hm04) hL he fun σ5 w5 hm5 => ?_
      simp only [thenC]
      rw [wpC_seq, wpC_blk]
      refine go1 (v := .bool true) rfl (by simp) (goEnd ?_)
      simp only [thenC]
      exact ret1 (v := .bool true) (by simp) ⟨rfl, hm04.trans hm5⟩
    rw [wpC_seq, wpC_seq, wpC_blk]
    refine go1 (v := .bool flex) rfl (by simp [k2]) ?_
    refine go1 (v := .bool !flex) rfl (by simp) (goEnd ?_)
    simp only [thenC]
    cases flex with
    | true =>
      rw [wpC_cond_f (by simp), wpC_skip]
      simp only [thenC]
      exact key _ lv4 (unknownP fds u) ucs (by simp [k9]) (by simp) hl4 hu4 (unknownP_len _ _) (by simpa using hgu)
    | false =>
      rw [wpC_cond_t (by simp), wpC_blk]
      refine go1 (v := .slice none 0 0) rfl (by simp) (goEnd ?_)
      simp only [thenC]
      exact key _ (.slice none 0 0) [] [] (by simp [k9]) (by simp) SlC.nil .nil (by simp) (by simpa [wholeU] using hgu)
end
end Go.Msk

namespace Go.Msk
open Go.RowKit
set_option maxRecDepth 100000
structure TLib (P : Program) (F : Nat → Nat) : Prop where
  sl : SLib P F
  same : liftF P (F sSame) = some (ir_sSame F)
  number : liftF P (F sNumber) = some numCode
  usual : liftF P (F sUsual) = some (ir_sUsual F)
  told1 : liftF P (F stold_) = some (ir_stold_ F)
  told : liftF P (F sTold) = some (ir_sTold F)
  flexible : liftF P (F sFlexible) = some (ir_sFlexible F)
section
variable {P : Program} {F : Nat → Nat}
attribute [local simp] gOk updo upd ev RK.val? isShift intBin Addr.add_mk args0 Value.cells undef
mutual
theorem FD.usC (L : TLib P F) : ∀ f : FD, f.plain = true → UsualC P F f.sub
  | .mk kind frm to null tag dfl of sub, h => by
    simp only [FD.plain, Bool.and_eq_true, decide_eq_true_eq] at h
    exact usual_call L.sl.mixed L.usual L.sl.at_ L.same L.number h.2.1 (usCL L sub h.2.2)
theorem usCL (L : TLib P F) : ∀ l : List FD, FD.plainL l = true → ∀ f ∈ l, UsualC P F f.sub
  | [], _, f, hf => by simp at hf
  | a :: l, h, f, hf => by
    simp only [FD.plainL, Bool.and_eq_true] at h
    rcases List.mem_cons.1 hf with e | hf
    · rw [e]; exact FD.usC L a h.1
    · exact usCL L l h.2 f hf
end
theorem usOne (L : TLib P F) {f : FD} (h : f.plain = true) : UsualC P F [f] :=
  usual_call L.sl.mixed L.usual L.sl.at_ L.same L.number (by simp) fun g hg => by
    rcases List.mem_singleton.1 hg with rfl
    exact FD.usC L _ h
mutual
theorem FD.toC (L : TLib P F) (ver : Int) (flex : Bool) : ∀ f : FD, f.plain = true → FieldT P F ver flex f
  | .mk kind frm to null tag dfl of sub, h => by
    simp only [FD.plain, Bool.and_eq_true, decide_eq_true_eq] at h
    have hp : PartT P F ver flex sub := told_part L.sl.mixed L.told L.sl.at_ L.sl.has L.sl.whole L.same L.sl.known L.sl.unknown h.2.1 (fun f hf => FD.plain.tag (FD.plainL_mem h.2.2 f hf)) (toCL L ver flex sub h.2.2) (fun f hf => usOne L (FD.plainL_mem h.2.2 f hf))
    refine told_core L.sl.mixed L.told1 L.sl.null L.sl.whole L.same L.sl.things L.number hp fun _ ho => ?_
    exact told_core L.sl.mixed L.told1 L.sl.null L.sl.whole L.same L.sl.things L.number hp fun ho' _ => absurd ho' ho
theorem toCL (L : TLib P F) (ver : Int) (flex : Bool) : ∀ l : List FD, FD.plainL l = true → ∀ f ∈ l, FieldT P F ver flex f
  | [], _, f, hf => by simp at hf
  | a :: l, h, f, hf => by
    simp only [FD.plainL, Bool.and_eq_true] at h
    rcases List.mem_cons.1 hf with e | hf
    · rw [e]; exact FD.toC L ver flex a h.1
    · exact toCL L ver flex l h.2 f hf
end
theorem partT_plain (L : TLib P F) (ver : Int) (flex : Bool) {fs : List FD} (h : FD.plainL fs = true) (hl : fs.length < 1000) : PartT P F ver flex fs :=
  told_part L.sl.mixed L.told L.sl.at_ L.sl.has L.sl.whole L.same L.sl.known L.sl.unknown hl (fun f hf => FD.plain.tag (FD.plainL_mem h f hf)) (toCL L ver flex fs h) (fun f hf => usOne L (FD.plainL_mem h f hf))
theorem flexible_call (L : TLib P F) {w : World} {m : MD} {ms : List Value} {ver : Int} (hms : RepM anyB w m ms) : Calls P (F sFlexible) [.agg ms.toArray, .int .i64 ver].toArray w fun e w' => e = .returned (.bool (m.isFlex ver)) ∧ Mod [] w w' := by
  have h := L.flexible
  cases hms with
  | @mk fs flex v css h1 h2 =>
  unfold ir_sFlexible at h
  refine call_of h L.sl.mixed (by simp) ?_
  clear h
  rw [wpC_seq, wpC_blk]
  refine goBox (v := .agg #[v, .int .i64 flex]) (by simp) fun w1 hb1 hm1 => ?_
  have hb1 : Blk w1 w.heap.size [v, .int .i64 flex] := by simpa using hb1
  have c1 := fun k => hb1.cell k
  refine go1 (v := .bool false) rfl (by simp) (goEnd ?_)
  simp only [thenC]
  rw [wpC_seq, wpC_blk]
  refine go1 (v := .pointer (some ⟨w.heap.size, 1, none⟩)) rfl (by simp) ?_
  refine go1 (v := .int .i64 flex) rfl (by simp [c1]) ?_
  refine go1 (v := .bool (decide (flex ≥ 0))) rfl (by simp) ?_
  refine go1 (v := .bool (decide (flex ≥ 0))) rfl (by simp) ?_
  by_cases hn : flex ≥ 0
  · rw [show decide (flex ≥ 0) = true by simp [hn]]
    refine go1 (v := .int .i64 ver) (by simp) (by simp) ?_
    refine go1 (v := .pointer (some ⟨w.heap.size, 1, none⟩)) (by simp) (by simp) ?_
    refine go1 (v := .int .i64 flex) (by simp) (by simp [c1]) ?_
    refine go1 (v := .bool (decide (ver ≥ flex))) (by simp) (by simp) ?_
    refine go1 (v := .bool (decide (ver ≥ flex))) rfl (by simp) ?_
    refine go1 (v := .bool (decide (ver ≥ flex))) rfl (by simp) (goEnd ?_)
    simp only [thenC]
    exact ret1 (v := .bool (decide (ver ≥ flex))) (by simp) ⟨by simp [MD.isFlex, hn], hm1⟩
  · rw [show decide (flex ≥ 0) = false by simp; omega]
    iterate 4 (refine go0 (by simp) ?_)
    refine go1 (v := .bool false) rfl (by simp) ?_
    refine go1 (v := .bool false) rfl (by simp) (goEnd ?_)
    simp only [thenC]
    refine ret1 (v := .bool false) (by simp) ⟨?_, hm1⟩
    have : decide (flex ≥ 0) = false := by simp; omega
    simp [MD.isFlex, this]
end
end Go.Msk

namespace Go.Msk
open Go.RowKit
set_option maxRecDepth 100000
theorem uuidP_len (s : List UInt8) : (uuidP s).length = 16 := by simp [uuidP]; omega
theorem valG_ty {p : PK} {kind : Int} {nul null : Bool} {t : TR} (hk : kindOk kind nul p = true) : p.ty (valG p null t) := by
  have hw := wholeP_le t.s
  cases p with
  | bool => exact ⟨_, rfl⟩
  | i64 => exact ⟨_, rfl, i64_wrap_wrap _⟩
  | str => exact ⟨_, rfl⟩
  | nstr => exact ⟨_, rfl⟩
  | byt => exact ⟨_, rfl, fun l e => by cases e; omega⟩
  | uuid => exact ⟨_, rfl, uuidP_len _⟩
  | u32 => simp [kindOk] at hk
  | nbyt => simp [kindOk] at hk
  | _ => exact ⟨_, _, rfl⟩
theorem valG_sm (p : PK) (null : Bool) (t : TR) : (valG p null t).sm := by
  have hw := wholeP_le t.s
  have hb : (GV.byt (some (wholeP t.s))).sm := ⟨by simp only [GV.told, TR.small, TR.smallL]; simp; omega, fun m e => by simp at e⟩
  cases p with
  | str => exact str_sm (by omega)
  | nstr =>
    refine ⟨?_, fun m e => by simp [valG] at e⟩
    cases null <;> simp [valG, GV.told, TR.small, TR.smallL]; omega
  | uuid => exact arr_sm (by rw [uuidP_len]; omega)
  | byt => exact hb
  | u32 => exact hb
  | nbyt => exact hb
  | _ => exact num_sm (by simp)
theorem lstG_ty {T : GV → Prop} {sz esz : Nat} {val : TR → GV} {ys : List TR} (hsz : sz = esz) (hl : ys.length ≤ 32767) (h : ∀ y ∈ ys, T (val y)) : ∃ isnil z l, lstG sz val ys = .lst isnil z l ∧ (∀ g ∈ l, T g) ∧ l.length ≤ 2147483647 ∧ (l = [] ∨ z = esz) := by
  refine ⟨_, _, _, rfl, fun g hg => ?_, by simp; omega, ?_⟩
  · obtain ⟨y, hy, rfl⟩ := List.mem_map.1 hg; exact h y hy
  · by_cases hz : (ys.length : Int) ≤ 0
    · left
      have : ys = [] := List.length_eq_zero_iff.1 (by omega)
      simp [this]
    · right; rw [if_neg hz, hsz]
theorem lstG_sm {sz : Nat} {val : TR → GV} {ys : List TR} (hl : ys.length ≤ 32767) (h : ∀ y ∈ ys, (val y).sm) : (lstG sz val ys).sm := by
  refine lst_small (by simp; omega) fun g hg => ?_
  obtain ⟨y, hy, rfl⟩ := List.mem_map.1 hg; exact h y hy
section
variable {ver : Int} {x : Bool}
theorem vals_len : ∀ (sc : Sc) (fds : List FD) (i : Nat) (t : TR), sc.rvB ver x fds = true → (sc.vals ver x fds i t).length = sc.len := by
  intro sc
  induction sc with
  | nil => intro fds i t _; rfl
  | tags f => intro fds i t _; rfl
  | vst _ _ _ _ rest ih => intro fds i t h; simp [Sc.rvB] at h
  | _ =>
    rename_i ih
    intro fds i t h
    cases fds with
    | nil => simp [Sc.rvB] at h
    | cons f fs =>
      simp only [Sc.rvB, Bool.and_eq_true] at h
      simp [Sc.vals, Sc.len, ih fs (i + 1) t h.2]
theorem vals_sm : ∀ (sc : Sc) (fds : List FD) (i : Nat) (t : TR), sc.rvB ver x fds = true → sc.smallB = true → t.kok → ∀ g ∈ sc.vals ver x fds i t, g.sm := by
  intro sc
  have l0 : (GV.lst true 0 []).sm := ⟨by simp [GV.told, GV.toldL, TR.small, TR.smallL], fun m e => by simp at e⟩
  have cons : ∀ {g : GV} {l : List GV}, g.sm → (∀ y ∈ l, y.sm) → ∀ y ∈ g :: l, y.sm := fun h1 h2 y hy => by
    rcases List.mem_cons.1 hy with rfl | hy
    · exact h1
    · exact h2 y hy
  induction sc with
  | nil => intro fds i t _ _ _ g hg; simp [Sc.vals] at hg
  | tags f =>
    intro fds i t _ _ hk g hg
    simp only [Sc.vals, List.mem_singleton] at hg
    subst hg
    have hku : ∀ p ∈ t.u, p.1 < 4294967296 := by cases t; exact hk.1
    obtain ⟨-, h2⟩ := unk_ok hku
    refine ⟨by simp [GV.told, TR.small, TR.smallL, TR.zero], fun m e => ?_⟩
    simp only [GV.tag.injEq] at e
    subst e
    cases x with
    | false => simp
    | true =>
      refine ⟨by simp [wholeU]; omega, fun p hp => ?_⟩
      simp only [if_true, wholeU, List.mem_map] at hp
      obtain ⟨q, -, rfl⟩ := hp
      have := wholeP_le q.2
      show (wholeP q.2).length ≤ _
      omega
  | prm vc init rr p d rest ih =>
    intro fds i t h hs hk
    cases fds with
    | nil => simp [Sc.rvB] at h
    | cons f fs =>
      simp only [Sc.rvB, Bool.and_eq_true] at h
      simp only [Sc.smallB, Bool.and_eq_true] at hs
      refine cons ?_ (ih fs (i + 1) t h.2 hs.2 hk)
      split
      · exact valG_sm _ _ _
      · exact Df.small hs.1
  | enm vc init rr p d rest ih =>
    intro fds i t h hs hk
    cases fds with
    | nil => simp [Sc.rvB] at h
    | cons f fs =>
      simp only [Sc.rvB, Bool.and_eq_true] at h
      simp only [Sc.smallB, Bool.and_eq_true] at hs
      refine cons ?_ (ih fs (i + 1) t h.2 hs.2 hk)
      split
      · exact valG_sm _ _ _
      · exact Df.small hs.1
  | vst _ _ _ _ rest ih => intro fds i t h; simp [Sc.rvB] at h
  | uid vc ff rest ih =>
    intro fds i t h hs hk
    cases fds with
    | nil => simp [Sc.rvB] at h
    | cons f fs =>
      simp only [Sc.rvB, Bool.and_eq_true] at h
      refine cons ?_ (ih fs (i + 1) t h.2 hs hk)
      split
      · exact arr_sm (by rw [uuidP_len]; omega)
      · exact arr_sm (by simp)
  | lsp vc ln bytes d init rr p rest ih =>
    intro fds i t h hs hk
    cases fds with
    | nil => simp [Sc.rvB] at h
    | cons f fs =>
      simp only [Sc.rvB, Bool.and_eq_true] at h
      refine cons ?_ (ih fs (i + 1) t h.2 hs hk)
      split
      · exact lstG_sm (take_le _) fun y _ => valG_sm _ _ _
      · exact l0
  | lss vc ln bytes z dfl body rest ihb ih =>
    intro fds i t h hs hk
    cases fds with
    | nil => simp [Sc.rvB] at h
    | cons f fs =>
      simp only [Sc.rvB, Bool.and_eq_true] at h
      simp only [Sc.smallB, Bool.and_eq_true, decide_eq_true_eq] at hs
      refine cons ?_ (ih fs (i + 1) t h.2 hs.2 hk)
      split
      · rename_i hh
        have hb : body.rvB ver x f.sub = true := by
          have := h.1.2
          rw [hh] at this
          simp only [Bool.not_true, Bool.false_or, Bool.and_eq_true] at this
          exact this.2
        refine lstG_sm (take_le _) fun y hy => rcd_small (by rw [vals_len _ _ _ _ hb]; exact hs.1.1) ?_
        exact ihb f.sub 0 y hb hs.1.2 (TR.kok_mem (hk.at i) (List.mem_of_mem_take hy))
      · exact l0
  | sub vc dfl body rest ihb ih =>
    intro fds i t h hs hk
    cases fds with
    | nil => simp [Sc.rvB] at h
    | cons f fs =>
      simp only [Sc.rvB, Bool.and_eq_true] at h
      simp only [Sc.smallB, Bool.and_eq_true, decide_eq_true_eq] at hs
      refine cons ?_ (ih fs (i + 1) t h.2 hs.2 hk)
      split
      · rename_i hh
        have hb : body.rvB ver x f.sub = true := by
          have := h.1.2
          rw [hh] at this
          simp only [Bool.not_true, Bool.false_or, Bool.and_eq_true] at this
          exact this.2
        exact rcd_small (by rw [vals_len _ _ _ _ hb]; exact hs.1.1) (ihb f.sub 0 (t.at i) hb hs.1.2 (hk.at i))
      · exact rcd_small (by rw [Sc.dgv_len]; exact hs.1.1) (Sc.dgv_small body hs.1.2)
theorem vals_ty : ∀ (sc : Sc) (tl : Tl) (fds : List FD) (i : Nat) (t : TR), sc.rvB ver x fds = true → fit sc tl = true → t.kok → tl.ty (sc.vals ver x fds i t) := by
  intro sc
  induction sc with
  | nil => intro tl fds i t _ hf _; cases tl <;> simp only [fit, Bool.false_eq_true] at hf; rfl
  | tags f =>
    intro tl fds i t _ hf hk
    cases tl <;> simp only [fit, Bool.false_eq_true] at hf
    have hku : ∀ p ∈ t.u, p.1 < 4294967296 := by cases t; exact hk.1
    obtain ⟨-, h2⟩ := unk_ok hku
    refine ⟨_, rfl, ?_⟩
    cases x with
    | false => simp
    | true =>
      refine ⟨by simp [wholeU]; omega, fun p hp => ?_⟩
      simp only [if_true, wholeU, List.mem_map] at hp
      obtain ⟨q, -, rfl⟩ := hp
      have := wholeP_le q.2
      show (wholeP q.2).length ≤ _
      omega
  | prm vc init rr p d rest ih =>
    intro tl fds i t h hf hk
    cases fds with
    | nil => simp [Sc.rvB] at h
    | cons f fs =>
      simp only [Sc.rvB, Bool.and_eq_true] at h
      have key : fitD p d = true → p.ty (if f.hasV ver = true then valG p (f.nullV ver (t.at i)) (t.at i) else d.gv) := fun hd => by
        split
        · rename_i hh
          have := h.1.2
          rw [hh] at this
          exact valG_ty (by simpa using this)
        · exact fitD_ty hd
      cases tl <;> simp only [fit, Bool.false_eq_true, Bool.and_eq_true] at hf
      · exact ⟨_, _, rfl, fitF_ty hf.1.1 (key hf.1.2), ih _ fs (i + 1) t h.2 hf.2 hk⟩
      · have e : p = .uuid := by simpa using hf.1.1
        subst e
        obtain ⟨l, h1, h2⟩ := key hf.1.2
        exact ⟨l, _, by rw [Sc.vals, h1], h2, ih _ fs (i + 1) t h.2 hf.2 hk⟩
  | enm vc init rr p d rest ih =>
    intro tl fds i t h hf hk
    cases fds with
    | nil => simp [Sc.rvB] at h
    | cons f fs =>
      simp only [Sc.rvB, Bool.and_eq_true] at h
      have key : fitD p d = true → p.ty (if f.hasV ver = true then valG p (f.nullV ver (t.at i)) (t.at i) else d.gv) := fun hd => by
        split
        · rename_i hh
          have := h.1.2
          rw [hh] at this
          exact valG_ty (by simpa using this)
        · exact fitD_ty hd
      cases tl <;> simp only [fit, Bool.false_eq_true, Bool.and_eq_true] at hf
      exact ⟨_, _, rfl, fitF_ty hf.1.1 (key hf.1.2), ih _ fs (i + 1) t h.2 hf.2 hk⟩
  | vst _ _ _ _ rest ih => intro tl fds i t h; simp [Sc.rvB] at h
  | uid vc ff rest ih =>
    intro tl fds i t h hf hk
    cases fds with
    | nil => simp [Sc.rvB] at h
    | cons f fs =>
      simp only [Sc.rvB, Bool.and_eq_true] at h
      cases tl <;> simp only [fit, Bool.false_eq_true] at hf
      refine ⟨if f.hasV ver = true then uuidP (t.at i).s else List.replicate 16 0, _, by simp only [Sc.vals]; split <;> rfl, ?_, ih _ fs (i + 1) t h.2 hf hk⟩
      split
      · exact uuidP_len _
      · simp
  | lsp vc ln bytes d init rr p rest ih =>
    intro tl fds i t h hf hk
    cases fds with
    | nil => simp [Sc.rvB] at h
    | cons f fs =>
      simp only [Sc.rvB, Bool.and_eq_true] at h
      cases tl <;> simp only [fit, Bool.false_eq_true, Bool.and_eq_true, decide_eq_true_eq] at hf
      rename_i k esz body r'
      have key : ∃ isnil z l, (if f.hasV ver = true then lstG d.size (valG p false) ((t.at i).l.take 32767) else .lst true 0 []) = .lst isnil z l ∧ (∀ g ∈ l, k.ty body.ty g) ∧ l.length ≤ 2147483647 ∧ (l = [] ∨ z = esz) := by
        split
        · rename_i hh
          have := h.1.2
          rw [hh] at this
          simp only [Bool.not_true, Bool.false_or, Bool.and_eq_true] at this
          exact lstG_ty hf.1.2 (take_le _) fun y _ => fitE_ty hf.1.1 (valG_ty this.1.2)
        · exact ⟨_, _, _, rfl, by simp, by simp, .inl rfl⟩
      obtain ⟨b, z, l, e, h1, h2, h3⟩ := key
      exact ⟨b, z, l, _, by rw [Sc.vals, e], h1, h2, h3, ih _ fs (i + 1) t h.2 hf.2 hk⟩
  | lss vc ln bytes z dfl body rest ihb ih =>
    intro tl fds i t h hf hk
    cases fds with
    | nil => simp [Sc.rvB] at h
    | cons f fs =>
      simp only [Sc.rvB, Bool.and_eq_true] at h
      cases tl with
      | lst k esz b r' =>
        cases k with
        | tell ft =>
          simp only [fit, Bool.and_eq_true, decide_eq_true_eq] at hf
          have key : ∃ isnil z l, (if f.hasV ver = true then lstG body.size (fun y => .rcd (body.vals ver x f.sub 0 y)) ((t.at i).l.take 32767) else .lst true 0 []) = .lst isnil z l ∧ (∀ g ∈ l, (EK.tell ft).ty b.ty g) ∧ l.length ≤ 2147483647 ∧ (l = [] ∨ z = esz) := by
            split
            · rename_i hh
              have hb : body.rvB ver x f.sub = true := by
                have := h.1.2
                rw [hh] at this
                simp only [Bool.not_true, Bool.false_or, Bool.and_eq_true] at this
                exact this.2
              exact lstG_ty hf.1.2 (take_le _) fun y hy => ⟨_, rfl, ihb b f.sub 0 y hb hf.1.1 (TR.kok_mem (hk.at i) (List.mem_of_mem_take hy))⟩
            · exact ⟨_, _, _, rfl, by simp, by simp, .inl rfl⟩
          obtain ⟨bb, z, l, e, h1, h2, h3⟩ := key
          exact ⟨bb, z, l, _, by rw [Sc.vals, e], h1, h2, h3, ih _ fs (i + 1) t h.2 hf.2 hk⟩
        | num c => simp [fit] at hf
        | str => simp [fit] at hf
      | _ => simp [fit] at hf
  | sub vc dfl body rest ihb ih =>
    intro tl fds i t h hf hk
    cases fds with
    | nil => simp [Sc.rvB] at h
    | cons f fs =>
      simp only [Sc.rvB, Bool.and_eq_true] at h
      cases tl <;> simp only [fit, Bool.false_eq_true, Bool.and_eq_true] at hf
      rename_i ff n b r'
      have key : ∃ l, (if f.hasV ver = true then GV.rcd (body.vals ver x f.sub 0 (t.at i)) else .rcd body.dgv) = .rcd l ∧ b.ty l := by
        split
        · rename_i hh
          have hb : body.rvB ver x f.sub = true := by
            have := h.1.2
            rw [hh] at this
            simp only [Bool.not_true, Bool.false_or, Bool.and_eq_true] at this
            exact this.2
          exact ⟨_, rfl, ihb b f.sub 0 (t.at i) hb hf.1.1 (hk.at i)⟩
        · exact ⟨_, rfl, fit_dgv body b hf.1.1⟩
      obtain ⟨l, e, h1⟩ := key
      exact ⟨l, _, by rw [Sc.vals, e], h1, ih _ fs (i + 1) t h.2 hf.2 hk, rfl⟩
end
def rvV (T : Top) (m : MD) (ver : Int) : Bool := T.rv.isNone && (T.x ver == m.isFlex ver) && neB ver (m.isFlex ver) m.fs && T.sc.rvB ver (m.isFlex ver) m.fs
def rvOk (T : Top) (m : MD) (most : Nat) : Bool := FD.plainL m.fs && (List.range (most + 1)).all fun v => rvV T m (v : Nat)
end Go.Msk
