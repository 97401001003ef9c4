/- A small language of resolved operations, and what the generic and the generated functions do in it (part 15). -/
import Derived.Test.YtkgihecaappglaaDoorFn

namespace Go.Msk
open Go.RowKit
set_option maxRecDepth 100000
theorem bodyP_append (ver : Int) (flex : Bool) : ∀ (a b : List FD) (i : Nat) (t : TR), bodyP ver flex (a ++ b) i t = bodyP ver flex a i t ++ bodyP ver flex b (i + a.length) t
  | [], b, i, t => by simp [bodyP]
  | f :: a, b, i, t => by
    rw [List.cons_append, bodyP_cons, bodyP_cons, bodyP_append ver flex a b (i + 1) t, List.append_assoc]
    congr 3
    simp; omega
theorem bodyP_snoc {ver : Int} {flex : Bool} {fs : List FD} {t : TR} {j : Nat} {f : FD} (h : fs[j]? = some f) :
    bodyP ver flex (fs.take (j + 1)) 0 t = bodyP ver flex (fs.take j) 0 t ++ (if f.tag < 0 ∧ f.hasV ver = true then f.enc ver flex (t.at j) else []) := by
  have hl : j < fs.length := (List.getElem?_eq_some_iff.1 h).1
  rw [take_succ_of h, bodyP_append, bodyP_cons]
  have e : 0 + (fs.take j).length = j := by simp; omega
  rw [e]; simp [bodyP]
theorem bodyP_take_le (ver : Int) (flex : Bool) (fs : List FD) (t : TR) (j : Nat) : (bodyP ver flex (fs.take j) 0 t).length ≤ (bodyP ver flex fs 0 t).length := by
  have : bodyP ver flex fs 0 t = bodyP ver flex (fs.take j) 0 t ++ bodyP ver flex (fs.drop j) (0 + (fs.take j).length) t := by rw [← bodyP_append, List.take_append_drop]
  rw [this, List.length_append]; omega
theorem knownP_none {fs : List FD} (h : ∀ f ∈ fs, f.tag < 0) : knownP fs = 0 := by
  have : ∀ (l : List FD), (∀ f ∈ l, f.tag < 0) → l.foldl (fun n f => if f.tag ≥ 0 then max n (f.tag.toNat + 1) else n) 0 = 0 := by
    intro l
    induction l with
    | nil => intro _; rfl
    | cons f l ih =>
      intro hl
      have := hl f List.mem_cons_self
      simp only [List.foldl_cons]
      rw [if_neg (by omega)]
      exact ih fun g hg => hl g (List.mem_cons_of_mem _ hg)
  exact this fs h
theorem insU_kok {k : Nat} {b : List UInt8} (hk : k < 4294967296) : ∀ {l : List (Nat × List UInt8)}, (∀ p ∈ l, p.1 < 4294967296) → ∀ p ∈ insU k b l, p.1 < 4294967296
  | [], _, p, hp => by simp [insU] at hp; subst hp; exact hk
  | (k', b') :: r, h, p, hp => by
    have h1 := h (k', b') List.mem_cons_self
    have h2 : ∀ p ∈ r, p.1 < 4294967296 := fun p hp => h p (List.mem_cons_of_mem _ hp)
    simp only [insU] at hp
    split at hp
    · rcases List.mem_cons.1 hp with rfl | hp
      · exact h1
      · exact insU_kok hk h2 p hp
    · split at hp
      · exact h p hp
      · rcases List.mem_cons.1 hp with rfl | hp
        · exact hk
        · exact h p hp
theorem unknownP_kok {fs : List FD} {u : List (Nat × List UInt8)} (h : ∀ p ∈ u, p.1 < 4294967296) : ∀ p ∈ unknownP fs u, p.1 < 4294967296 := by
  have : ∀ (l out : List (Nat × List UInt8)), (∀ p ∈ l, p.1 < 4294967296) → (∀ p ∈ out, p.1 < 4294967296) → ∀ p ∈ l.foldl (unkStep (knownP fs)) out, p.1 < 4294967296 := by
    intro l
    induction l with
    | nil => intro out _ h2; exact h2
    | cons t l ih =>
      intro out h1 h2
      simp only [List.foldl_cons]
      refine ih _ (fun p hp => h1 p (List.mem_cons_of_mem _ hp)) ?_
      unfold unkStep
      split
      · exact h2
      · exact insU_kok (h1 t List.mem_cons_self) h2
  exact this _ [] (fun p hp => h p (List.mem_of_mem_take hp)) (by simp)
theorem unknownP_length (fs : List FD) (u : List (Nat × List UInt8)) : (unknownP fs u).length ≤ 32767 := by
  have := unk_length (knownP fs) (u.take 32767) []
  unfold unknownP
  simp at this ⊢; omega
theorem SlC.app {N : Nat} {w w' : World} {v x x' : Value} {n : Nat} {cs : List Value} {l l' : List UInt8} (h : SlC (fun b => b < N) w v n cs) (ha : AppD N w x w' x' l') (hd : DRaw w N x l) : SlC (fun b => b < N) w' v n cs :=
  h.mod ha.mod (fun b hb hc => by have := (hd.own (b := b) (by simpa using hb)).1; omega) fun _ _ h => h
section
variable {P : Program} {F : Nat → Nat}
attribute [local simp] gOk updo upd ev RK.val? isShift intBin Addr.add_mk args0 Value.cells undef
theorem part_field (hm : P.follows .mixedOrders = true) (hh : liftF P (F sHas) = some (ir_sHas F)) (ha : liftF P (F sAt) = some (ir_sAt F))
    {w0 w : World} {tb j n c : Nat} {ver : Int} {flex : Bool} {f : FD} {fcs tcs : List Value} {t : TR} {σ : Sl} {a : Addr} {out : List UInt8} {Q : Exit → Sl → World → Prop}
    (hm0 : Mod [] w0 w) (hbt : Blk w0 tb tcs) (hrf : RepF anyB w0 f fcs) (hrt : RepT anyB w0 t tcs) (hk : t.kok) (hF : FieldC P F ver flex f) (htag : f.tag < 0)
    (h1 : σ 1 = .int .i64 ver) (h2 : σ 2 = .bool flex) (h7 : σ 7 = .pointer (some ⟨tb, 0, none⟩)) (h21 : σ 21 = .slice (some a) n c) (h23 : σ 23 = .int .i64 (j : Nat)) (hj : j < n) (hcell : cellsAt w0 (a.add (j * 8)) 0 8 = some fcs)
    (h9 : DRaw w w0.heap.size (σ 9) out) (hlen : (out ++ (if f.tag < 0 ∧ f.hasV ver = true then f.enc ver flex (t.at j) else [])).length ≤ lim)
    (hQ : ∀ σ' w', (∀ s, s < 24 → s ≠ 9 → s ≠ 12 → s ≠ 13 → σ' s = σ s) → DRaw w' w0.heap.size (σ' 9) (out ++ (if f.tag < 0 ∧ f.hasV ver = true then f.enc ver flex (t.at j) else [])) → Mod [] w0 w' → Q .normal σ' w') : wpC P (ir_sPart_1 F) Q σ w := by
  unfold ir_sPart_1
  have hcell1 := cellsAt_below hm0.below _ _ _ hcell
  rw [wpC_seq, wpC_blk]
  refine go1 (v := .int .i64 (j : Nat)) rfl (by simp [h23]) ?_
  refine go1 (v := .pointer (some (a.add (j * 8)))) rfl (by simp [h21, h23, hj]) ?_
  refine go1 (v := .agg fcs.toArray) rfl (by simp [hcell1]) ?_
  refine goAlloc fun w2 hb2 hm2 => ?_
  refine go1 (v := .int .i64 (j : Nat)) rfl (by simp) ?_
  refine goSt (b := w.heap.size) (v := .agg fcs.toArray) (by simp) (by simp) hb2 (by simp [hrf.eight]) rfl (by simpa using hrf.oneCell) fun w3 hb3 hm3 => ?_
  have hb3 : Blk w3 w.heap.size fcs := by simpa using hb3
  have hm13 : Mod [] w w3 := Mod.drop (b := w.heap.size) (S := []) (hm2.nil.trans hm3) (Nat.le_refl _)
  have hm03 := hm0.trans hm13
  refine wpR_done ?_
  have c3 := fun k => hb3.cell k
  have ht4 : fcs[4]? = some (.int .i64 f.tag) := by cases hrf; rfl
  rw [wpC_seq, wpC_blk]
  refine go1 (v := .pointer (some ⟨w.heap.size, 4, none⟩)) rfl (by simp) ?_
  refine go1 (v := .int .i64 f.tag) rfl (by simp [c3, ht4]) ?_
  refine go1 (v := .bool true) rfl (by simp [htag]) ?_
  refine go1 (v := .bool true) rfl (by simp) ?_
  refine go1 (v := .agg fcs.toArray) (by simp) (by simp [cellsAt_of' hb3.cells hrf.eight]) ?_
  refine go1 (v := .int .i64 ver) (by simp) (by simp [h1]) ?_
  refine goCall (by simp) (vs := [.agg fcs.toArray, .int .i64 ver]) (by simp) (has_call hm hh (hrf.keep hm03)) ?_
  rintro e w4 ⟨rfl, hm4⟩
  have hm04 := hm03.trans hm4
  refine ⟨_, rfl, ?_⟩
  refine go1 (v := .bool (f.hasV ver)) rfl (by simp [FD.hasV]) (wpR_done ?_)
  cases hhas : f.hasV ver with
  | false =>
    rw [wpC_cond_f (by simp), wpC_skip]
    have e0 : (if f.tag < 0 ∧ f.hasV ver = true then f.enc ver flex (t.at j) else []) = [] := by simp [hhas]
    rw [e0, List.append_nil] at hQ
    refine hQ _ w4 (fun s s1 s2 s3 s4 => ?_) (by simpa using h9.keep (hm13.trans hm4)) hm04
    simp only [updo, upd]
    repeat rw [if_neg (by omega)]
  | true =>
    have e0 : (if f.tag < 0 ∧ f.hasV ver = true then f.enc ver flex (t.at j) else []) = f.enc ver flex (t.at j) := by simp [hhas, htag]
    rw [e0] at hQ hlen
    rw [wpC_cond_t (by simp)]
    simp only [wpC]
    have hmd : Mod [] w0 w4.drew := hm04.trans (Mod.drew _ _)
    have hb4 : Blk w4.drew w.heap.size fcs := (hb3.mod hm4 (by simp)).mod (Mod.drew [] _) (by simp)
    have hbt4 := hbt.mod hmd (by simp)
    refine wpD_of_B (fun i v w' => match i with | 6 => ∃ cs, v = .agg cs.toArray ∧ RepT anyB w' (t.at j) cs | 7 => DRaw w' w0.heap.size v (f.enc ver flex (t.at j)) | _ => True) (by
      intro i v w w' h hm
      split at h
      · obtain ⟨cs, e1, e2⟩ := h; exact ⟨cs, e1, e2.keep hm⟩
      · exact h.keep hm
      · trivial) ?_
    refine bo1 (v := σ 9) rfl (by simp) ?_
    refine bo1 (v := .agg fcs.toArray) rfl (by simp [cellsAt_of' hb4.cells hrf.eight]) ?_
    refine bo1 (v := .int .i64 ver) rfl (by simp [h1]) ?_
    refine bo1 (v := .bool flex) rfl (by simp [h2]) ?_
    refine bo1 (v := .agg tcs.toArray) rfl (by simp [h7, cellsAt_of' hbt4.cells hrt.five]) ?_
    refine bo1 (v := .int .i64 (j : Nat)) rfl (by simp) ?_
    refine boCall (vs := [.agg tcs.toArray, .int .i64 (j : Nat)]) rfl (by simp) (fun w' hm' _ => (at_call hm ha (hrt.keep (hmd.trans hm'))).mono ?_) ?_
    · rintro e w'' ⟨cs, rfl, hr, hm2⟩; exact ⟨_, rfl, hm2, cs, rfl, hr⟩
    rintro v6 ⟨_, cs6, rfl, -⟩
    refine boCall (vs := [.agg fcs.toArray, .int .i64 ver, .bool flex, .agg cs6.toArray]) rfl (by simp) (fun w' hm' hkn => ?_) ?_
    · have hk6 := known_get (j := 6) (t := 42) hkn (by simp) rfl rfl rfl rfl
      obtain ⟨cs, e1, e2⟩ := hk6
      simp only [updo, upd, if_true, Value.agg.injEq, Array.mk.injEq] at e1
      have e1 : cs6 = cs := by simpa using e1
      subst e1
      refine (hF w' fcs (t.at j) cs6 (hrf.keep (hmd.trans hm')) e2 (hk.at j) (by simp only [List.length_append] at hlen; omega)).mono ?_
      rintro e w'' ⟨v, rfl, hd, hm2⟩; exact ⟨v, rfl, hm2, hd.low (hmd.trans hm').size⟩
    rintro v7 -
    intro w' hm' hkn
    have hk7 := known_get (j := 7) (t := 43) hkn (by simp) rfl rfl rfl rfl
    have d7 : DRaw w' w0.heap.size v7 (f.enc ver flex (t.at j)) := by simpa using hk7
    have hdr : DRaw w' w0.heap.size (σ 9) out := h9.keep ((hm13.trans hm4).trans ((Mod.drew _ _).trans hm'))
    have hmw := hmd.trans hm'
    refine goC rfl ?_
    refine append_run (n0 := w0.heap.size) (v := σ 9) (by simp) hdr hmw.size (k := f.enc ver flex (t.at j)) (by simpa using d7.src) (by simpa using hlen) fun v' w5 ha => ?_
    refine go1 (v := v') rfl (by simp) (goEnd ?_)
    refine hQ _ w5 (fun s s1 s2 s3 s4 => ?_) (by simpa using ha.raw) (ha.mod0 hdr hmw)
    simp only [updo, upd]
    repeat rw [if_neg (by omega)]
theorem part_tag (hm : P.follows .mixedOrders = true) (hu : liftF P (F sUvarint) = some (ir_sUvarint F)) (hw : liftF P (F sWhole) = some (ir_sWhole F))
    {w0 w : World} {j n c k : Nat} {b out : List UInt8} {sv : Value} {σ : Sl} {a : Addr} {Q : Exit → Sl → World → Prop} (hm0 : Mod [] w0 w) (h100 : σ 100 = .slice (some a) n c) (h102 : σ 102 = .int .i64 (j : Nat)) (hj : j < n) (hn : n ≤ 32767) (h11 : σ 11 = .int .i64 (j : Nat)) (hk : k < 4294967296)
    (hcell : cellsAt w0 (a.add (j * 2)) 0 2 = some [.int .u32 (k : Nat), sv]) (hsv : SlC anyB w0 sv b.length (u8s b)) (h10 : DRaw w w0.heap.size (σ 10) out) (hlen : (out ++ (uvE k ++ (uvE (wholeP b).length ++ wholeP b))).length ≤ lim)
    (hQ : ∀ σ' w', (∀ s, s < 104 → s ≠ 10 → s ≠ 11 → s ≠ 19 → s ≠ 20 → σ' s = σ s) → σ' 11 = .int .i64 ((j + 1 : Nat) : Int) → DRaw w' w0.heap.size (σ' 10) (out ++ (uvE k ++ (uvE (wholeP b).length ++ wholeP b))) → Mod [] w0 w' → Q .normal σ' w') : wpC P (ir_sPart_5 F) Q σ w := by
  unfold ir_sPart_5
  have hcell1 := cellsAt_below hm0.below _ _ _ hcell
  rw [wpC_seq, wpC_blk]
  refine go1 (v := .pointer (some (a.add (j * 2)))) rfl (by simp [h100, h102, hj]) ?_
  refine go1 (v := .agg #[.int .u32 (k : Nat), sv]) rfl (by simp [hcell1]) ?_
  refine goAlloc fun w1 hb1 hm1 => ?_
  refine goSt (b := w.heap.size) (v := .agg #[.int .u32 (k : Nat), sv]) (by simp) (by simp) hb1 rfl rfl (two_one hsv.one) fun w2 hb2 hm2 => ?_
  have hb2 : Blk w2 w.heap.size [.int .u32 (k : Nat), sv] := by simpa using hb2
  have hm12 : Mod [] w w2 := Mod.drop (b := w.heap.size) (S := []) (hm1.nil.trans hm2) (Nat.le_refl _)
  have hm02 := hm0.trans hm12
  have c2 := fun k => hb2.cell k
  have hsv2 : SlC (fun b => b < w0.heap.size) w2 sv b.length (u8s b) := hsv.lowN.mod hm02 (by simp) fun _ _ h => h
  refine wpR_done ?_
  rw [wpC_seq, wpC_blk]
  refine go1 (v := .pointer (some ⟨w.heap.size, 1, none⟩)) rfl (by simp) ?_
  refine go1 (v := sv) rfl (by simp [c2]) ?_
  refine goCall rfl (vs := [sv]) (by simp) (whole_call hm hw hsv2) ?_
  rintro e w3 ⟨ew, v3, rfl, hv3⟩
  rw [ew]
  refine ⟨v3, rfl, go1 (v := v3) rfl (by simp) (wpR_done ?_)⟩
  obtain ⟨vb, vc, ev3⟩ := hv3.shape
  have hwl : (wholeP b).length ≤ 32767 := by simp [wholeP]; omega
  simp only [List.length_append] at hlen
  rw [wpC_seq, wpC_blk]
  refine go1 (v := σ 10) rfl (by simp) ?_
  refine go1 (v := .pointer (some ⟨w.heap.size, 0, none⟩)) rfl (by simp) ?_
  refine go1 (v := .int .u32 (k : Nat)) rfl (by simp [c2]) ?_
  refine go1 (v := .int .u64 (k : Nat)) rfl (by simp [u64_natS (n := k) (by omega)]) ?_
  refine goCall rfl (vs := [.int .u64 (k : Nat)]) (by simp) (uvarint_call hm hu (by omega)) ?_
  rintro e w4 ⟨v4, rfl, hd4, hm4⟩
  refine ⟨v4, rfl, ?_⟩
  have hm04 := hm02.trans hm4
  have r0 : DRaw w4 w0.heap.size (σ 10) out := h10.keep (hm12.trans hm4)
  refine goC rfl ?_
  refine append_run (n0 := w0.heap.size) (v := σ 10) (by simp) r0 hm04.size (k := uvE k) (by simpa using hd4.src) (by omega) fun v5 w5 ha5 => ?_
  have hm05 := ha5.mod0 r0 hm04
  have hv35 : SlC (fun b => b < w0.heap.size) w5 v3 (wholeP b).length (u8s (wholeP b)) := (hv3.mod hm4 (by simp) fun _ _ h => h).app ha5 r0
  refine go1 (v := v3) rfl (by simp) ?_
  refine go1 (v := .int .i64 ((wholeP b).length : Nat)) rfl (by simp [ev3]) ?_
  refine go1 (v := .int .u64 ((wholeP b).length : Nat)) rfl (by simp [u64_natS (n := (wholeP b).length) (by omega)]) ?_
  refine goCall rfl (vs := [.int .u64 ((wholeP b).length : Nat)]) (by simp) (uvarint_call hm hu (by omega)) ?_
  rintro e w6 ⟨v6, rfl, hd6, hm6⟩
  refine ⟨v6, rfl, ?_⟩
  have r1 := ha5.raw.keep hm6
  refine goC rfl ?_
  refine append_run (n0 := w0.heap.size) (v := v5) (by simp) r1 (hm05.trans hm6).size (k := uvE (wholeP b).length) (by simpa using hd6.src) (by simp only [List.length_append]; omega) fun v7 w7 ha7 => ?_
  have hm07 := ha7.mod0 r1 (hm05.trans hm6)
  have hv37 : SlC (fun b => b < w0.heap.size) w7 v3 (wholeP b).length (u8s (wholeP b)) := (hv35.mod hm6 (by simp) fun _ _ h => h).app ha7 r1
  refine go1 (v := v3) rfl (by simp) ?_
  refine goC rfl ?_
  refine append_run (n0 := w0.heap.size) (v := v7) (by simp) ha7.raw hm07.size (k := wholeP b) (by simpa using hv37.src) (by simp only [List.length_append]; omega) fun v8 w8 ha8 => ?_
  have hm08 := ha8.mod0 ha7.raw hm07
  refine go1 (v := v8) rfl (by simp) (wpR_done ?_)
  rw [wpC_blk]
  refine go1 (v := .int .i64 (j : Nat)) rfl (by simp [h11]) ?_
  refine go1 (v := .int .i64 ((j + 1 : Nat) : Int)) rfl (by
    simp only [RK.val?, ev, updo, upd, if_true, isShift, decide_true, Bool.or_true, intBin]
    rw [show (j : Int) + 1 = ((j + 1 : Nat) : Int) by omega, i64_nat (by omega)]) ?_
  refine go1 (v := .int .i64 ((j + 1 : Nat) : Int)) rfl (by simp) (goEnd ?_)
  refine hQ _ w8 (fun s s1 s2 s3 s4 s5 => ?_) (by simp) (by simpa [List.append_assoc] using ha8.raw) hm08
  simp only [updo, upd]
  repeat rw [if_neg (by omega)]
theorem tagsP_snoc {u : List (Nat × List UInt8)} {j : Nat} {p : Nat × List UInt8} (h : u[j]? = some p) : tagsP (u.take (j + 1)) = tagsP (u.take j) ++ (uvE p.1 ++ (uvE (wholeP p.2).length ++ wholeP p.2)) := flatMap_snoc h
theorem part_call (hm : P.follows .mixedOrders = true) (h : liftF P (F sPart) = some (ir_sPart F)) (hh : liftF P (F sHas) = some (ir_sHas F)) (ha : liftF P (F sAt) = some (ir_sAt F)) (hu : liftF P (F sUvarint) = some (ir_sUvarint F)) (hw : liftF P (F sWhole) = some (ir_sWhole F))
    (hkn : liftF P (F sKnown) = some (ir_sKnown F)) (hun : liftF P (F sUnknown) = some (ir_sUnknown F)) {ver : Int} {flex : Bool} {fs : List FD} (hF : ∀ f ∈ fs, FieldC P F ver flex f) (htag : ∀ f ∈ fs, f.tag < 0) (hfl : fs.length < 2147483648) : PartC P F ver flex fs := by
  intro w v css t ts hv hr ht hk hlen
  have hk5 := ht.five
  unfold ir_sPart at h
  refine call_of h hm (by simp) ?_
  clear h
  rw [wpC_seq, wpC_blk]
  refine goBox (v := .agg ts.toArray) (by simp) fun w1 hb1 hm1 => ?_
  have hb1 : Blk w1 w.heap.size ts := by simpa using hb1
  refine go1 rfl rfl (wpR_done ?_)
  rw [wpC_seq, wpC_blk]
  refine go1 rfl rfl (go1 rfl rfl (wpR_done ?_))
  rw [wpC_seq, wpC_blk]
  refine go1 rfl rfl (wpR_done ?_)
  obtain ⟨vb, vc, ev'⟩ := hv.shape
  rw [wpC_seq, wpC_seq, wpC_blk]
  refine go1 (v := v) rfl (by simp) ?_
  refine go1 (v := .int .i64 fs.length) rfl (by simp [ev']) ?_
  refine go1 rfl rfl (wpR_done ?_)
  have hv1 := hv.keep hm1
  have hr1 := hr.keep hm1
  have ht1 := ht.keep hm1
  have hbody : (bodyP ver flex fs 0 t).length ≤ lim := by unfold partP joinP at hlen; simp only [List.length_append] at hlen; omega
  refine rangeLoop (n := fs.length) (fun j σ w' => σ 21 = v ∧ σ 23 = .int .i64 (j : Nat) ∧ σ 22 = .int .i64 (fs.length : Nat) ∧ σ 0 = v ∧ σ 1 = .int .i64 ver ∧ σ 2 = .bool flex ∧ σ 7 = .pointer (some ⟨w.heap.size, 0, none⟩) ∧ σ 10 = .slice none 0 0 ∧ σ 11 = .int .i64 0 ∧
      DRaw w' w1.heap.size (σ 9) (bodyP ver flex (fs.take j) 0 t) ∧ Mod [] w1 w') (by omega) (by omega) (fun j σ w h => ⟨h.2.1, h.2.2.1⟩) ?_ ?_ ?_
  · exact ⟨by simp, by simp, by simp, by simp, by simp, by simp, by simp, by simp, by simp, by simpa [bodyP] using DRaw.nil w1 _, Mod.refl _ _⟩
  · rintro j σ w2 hj ⟨h21, h23, h22, h0, h1, h2, h7, h10, h11, hd, hm2⟩
    obtain ⟨f, hf⟩ : ∃ f, fs[j]? = some f := ⟨_, List.getElem?_eq_getElem hj⟩
    obtain ⟨fcs, hcs, hrep⟩ := hr1.nth hf
    obtain ⟨a, c, ea, hjn, hcell⟩ := hv1.flat hr1.length hr1.eight hcs
    have hfm := List.mem_of_getElem? hf
    have hsn := bodyP_snoc (ver := ver) (flex := flex) (t := t) hf
    refine part_field (w0 := w1) (n := fs.length) (c := c) (a := a) (f := f) (t := t) hm hh ha hm2 hb1 hrep ht1 hk (hF f hfm) (htag f hfm) (by simp [h1]) (by simp [h2]) (by simp [h7]) (by simp [h21, ea]) (by simp [h23]) hj hcell (by simpa using hd) (by
      rw [← hsn]; exact Nat.le_trans (bodyP_take_le ver flex fs t _) hbody) fun σ' w' hfr hd' hm' => ?_
    rw [← hsn] at hd'
    simp only [rngP]
    have g : ∀ s, s < 24 → s ≠ 9 → s ≠ 12 → s ≠ 13 → σ' s = σ s := fun s s1 s2 s3 s4 => by rw [hfr s s1 s2 s3 s4, upd_ne _ _ (by omega)]
    refine ⟨by rw [g 23 (by omega) (by omega) (by omega) (by omega)]; exact h23, ?_, by simp, ?_, ?_, ?_, ?_, ?_, ?_, ?_, ?_, hm'⟩
    · simp only [upd]; rw [if_neg (by omega), if_neg (by omega), g 21 (by omega) (by omega) (by omega) (by omega)]; exact h21
    · simp only [upd]; rw [if_neg (by omega), if_neg (by omega), g 22 (by omega) (by omega) (by omega) (by omega)]; exact h22
    · simp only [upd]; rw [if_neg (by omega), if_neg (by omega), g 0 (by omega) (by omega) (by omega) (by omega)]; exact h0
    · simp only [upd]; rw [if_neg (by omega), if_neg (by omega), g 1 (by omega) (by omega) (by omega) (by omega)]; exact h1
    · simp only [upd]; rw [if_neg (by omega), if_neg (by omega), g 2 (by omega) (by omega) (by omega) (by omega)]; exact h2
    · simp only [upd]; rw [if_neg (by omega), if_neg (by omega), g 7 (by omega) (by omega) (by omega) (by omega)]; exact h7
    · simp only [upd]; rw [if_neg (by omega), if_neg (by omega), g 10 (by omega) (by omega) (by omega) (by omega)]; exact h10
    · simp only [upd]; rw [if_neg (by omega), if_neg (by omega), g 11 (by omega) (by omega) (by omega) (by omega)]; exact h11
    · simpa [upd] using hd'
  · rintro σ w2 ⟨h21, h23, h22, h0, h1, h2, h7, h10, h11, hd, hm2⟩
    rw [List.take_of_length_le (Nat.le_refl _)] at hd
    have hm02 := hm1.trans hm2
    simp only [thenC]
    rw [wpC_seq, wpC_seq, wpC_blk]
    refine go1 (v := .bool flex) rfl (by simp [h2]) ?_
    refine go1 (v := .bool (!flex)) rfl (by simp) (wpR_done ?_)
    cases flex with
    | false =>
      rw [wpC_cond_t (by simp), wpC_seq, wpC_blk]
      refine go1 (v := σ 9) rfl (by simp) ?_
      refine go1 (v := σ 9) rfl (by simp) (wpR_done ?_)
      repeat first | refine retThen ?_ | refine retBlk ?_
      refine ret1 (v := σ 9) (by simp) ⟨_, rfl, ?_, hm02⟩
      have := hd.low hm1.size
      simpa [partP, joinP] using this
    | true =>
      rw [wpC_cond_f (by simp), wpC_skip]
      simp only [thenC]
      rw [wpC_seq, wpC_seq, wpC_blk]
      refine go1 (v := v) rfl (by simp [h0]) ?_
      refine goCall rfl (vs := [v]) (by simp) (known_call hm hkn (hv.keep hm02) (hr.keep hm02) hfl (fun f hf => by have := htag f hf; omega)) ?_
      rintro e w3 ⟨rfl, hm3⟩
      refine ⟨_, rfl, ?_⟩
      rw [knownP_none htag]
      have hm03 := hm02.trans hm3
      refine go1 (v := .int .i64 0) rfl (by simp [wrap_zero]) ?_
      refine go1 rfl rfl (wpR_done ?_)
      rw [wpC_block, wpC_loop]
      refine ⟨fun σ' w' => w' = w3 ∧ σ' 52 = .int .i64 0 ∧ σ' 51 = .int .i64 0 ∧ σ' 0 = v ∧ σ' 7 = .pointer (some ⟨w.heap.size, 0, none⟩) ∧ σ' 10 = .slice none 0 0 ∧ σ' 11 = .int .i64 0 ∧ σ' 9 = σ 9, fun _ _ => 0, ⟨rfl, by simp, by simp, by simp [h0], by simp [h7], by simp [h10], by simp [h11], by simp⟩, ?_⟩
      rintro σ3 w3' ⟨ew, k52, k51, k0, k7, k10, k11, k9⟩
      rw [ew]
      rw [wpC_seq, wpC_blk]
      refine go1 (v := .bool false) rfl (by simp [k52, k51]) (wpR_done ?_)
      rw [wpC_seq, wpC_cond_f (by simp)]
      refine wpC_exit_out3 ?_
      simp only [thenC]
      rw [wpC_seq, wpC_seq, wpC_blk]
      have hb3 : Blk w3 w.heap.size ts := hb1.mod (hm2.trans hm3) (by simp)
      have c3 := fun k => hb3.cell k
      have ht3 := ht.keep hm03
      cases ht with
      | @mk n s tn l u tsv lv uv tss uss g1 g2 g3 g4 g5 =>
      have hku : ∀ p ∈ u, p.1 < 4294967296 := by simp only [TR.kok] at hk; exact hk.1
      refine go1 (v := v) rfl (by simp [k0]) ?_
      refine go1 (v := .pointer (some ⟨w.heap.size, 4, none⟩)) rfl (by simp [k7]) ?_
      refine go1 (v := uv) rfl (by simp [c3]) ?_
      refine goCall rfl (vs := [v, uv]) (by simp) (unknown_call hm hun hkn (hv.keep hm03) (hr.keep hm03) hfl (fun f hf => by have := htag f hf; omega) (g4.keep hm03) (g5.keep hm03)) ?_
      rintro e w4 ⟨lv4, ucs, rfl, hl4, hu4, hm4⟩
      refine ⟨_, rfl, ?_⟩
      have hm04 := hm03.trans hm4
      have hpl : partP ver true fs (.mk n s tn l u) = bodyP ver true fs 0 (.mk n s tn l u) ++ (uvE (unknownP fs u).length ++ tagsP (unknownP fs u)) := by simp [partP, joinP, TR.u]
      rw [hpl] at hlen ⊢
      have hku' := unknownP_kok (fs := fs) hku
      have hul := unknownP_length fs u
      generalize unknownP fs u = U at hl4 hu4 hlen hku' hul ⊢
      obtain ⟨ub, uc, eu⟩ := hl4.shape
      have hdr : DRaw w4 w1.heap.size (σ 9) (bodyP ver true fs 0 (.mk n s tn l u)) := hd.keep (hm3.trans hm4)
      refine go1 (v := .int .i64 (U.length : Nat)) rfl (by simp [eu]) ?_
      refine go1 rfl rfl (wpR_done ?_)
      refine rangeLoop (n := U.length)
        (fun j σ' w' => σ' 100 = lv4 ∧ σ' 102 = .int .i64 (j : Nat) ∧ σ' 101 = .int .i64 (U.length : Nat) ∧ σ' 11 = .int .i64 (j : Nat) ∧ σ' 9 = σ 9 ∧ DRaw w' w4.heap.size (σ' 10) (tagsP (U.take j)) ∧ Mod [] w4 w')
        (by omega) (by omega) (fun j σ w h => ⟨h.2.1, h.2.2.1⟩) ?_ ?_ ?_
      · exact ⟨by simp, by simp, by simp, by simp [k11], by simp [k9], by simpa [tagsP, k10] using DRaw.nil w4 _, Mod.refl _ _⟩
      · rintro j σ5 w5 hj ⟨q100, q102, q101, q11, q9, qd, qm⟩
        obtain ⟨p, hp⟩ : ∃ p, U[j]? = some p := ⟨_, List.getElem?_eq_getElem hj⟩
        obtain ⟨psv, hps, hpsv⟩ := hu4.nth hp
        obtain ⟨a, c, ea, hjn, hcell⟩ := hl4.flat hu4.length hu4.two hps
        have hpm := List.mem_of_getElem? hp
        have hsn := tagsP_snoc hp
        refine part_tag (w0 := w4) (n := U.length) (c := c) (a := a) (k := p.1) (b := p.2) hm hu hw qm (by simp [q100, ea]) (by simp [q102]) hj hul (by simp [q11]) (hku' p hpm) hcell hpsv (by simpa using qd) (by
          rw [← hsn]
          have := flatMap_take_le (fun p : Nat × List UInt8 => uvE p.1 ++ (uvE (wholeP p.2).length ++ wholeP p.2)) U (j + 1)
          simp only [List.length_append] at hlen
          unfold tagsP at hlen ⊢; omega) fun σ' w' hfr h11' hd' hm' => ?_
        rw [← hsn] at hd'
        simp only [rngP]
        have g : ∀ s, s < 104 → s ≠ 10 → s ≠ 11 → s ≠ 19 → s ≠ 20 → s ≠ 103 → σ' s = σ5 s := fun s s1 s2 s3 s4 s5 s6 => by rw [hfr s s1 s2 s3 s4 s5, upd_ne _ _ s6]
        refine ⟨by rw [g 102 (by omega) (by omega) (by omega) (by omega) (by omega) (by omega)]; exact q102, ?_, by simp, ?_, ?_, ?_, ?_, hm'⟩
        · simp only [upd]; rw [if_neg (by omega), if_neg (by omega), g 100 (by omega) (by omega) (by omega) (by omega) (by omega) (by omega)]; exact q100
        · simp only [upd]; rw [if_neg (by omega), if_neg (by omega), g 101 (by omega) (by omega) (by omega) (by omega) (by omega) (by omega)]; exact q101
        · simp only [upd]; rw [if_neg (by omega), if_neg (by omega)]; exact h11'
        · simp only [upd]; rw [if_neg (by omega), if_neg (by omega), g 9 (by omega) (by omega) (by omega) (by omega) (by omega) (by omega)]; exact q9
        · simpa [upd] using hd'
      · rintro σ5 w5 ⟨q100, q102, q101, q11, q9, qd, qm⟩
        rw [List.take_of_length_le (Nat.le_refl _)] at qd
        have hm05 := hm04.trans qm
        simp only [List.length_append] at hlen
        simp only [thenC]
        rw [wpC_seq, wpC_blk]
        refine go1 (v := σ 9) rfl (by simp [q9]) ?_
        refine go1 (v := .int .i64 (U.length : Nat)) rfl (by simp [q11]) ?_
        refine go1 (v := .int .u64 (U.length : Nat)) rfl (by simp [u64_natS (n := U.length) (by omega)]) ?_
        refine goCall rfl (vs := [.int .u64 (U.length : Nat)]) (by simp) (uvarint_call hm hu (by omega)) ?_
        rintro e w6 ⟨v6, rfl, hd6, hm6⟩
        refine ⟨v6, rfl, ?_⟩
        have r0 := hdr.keep (qm.trans hm6)
        have hm16 : Mod [] w1 w6 := (hm2.trans hm3).trans ((hm4.trans qm).trans hm6)
        refine goC rfl ?_
        refine append_run (n0 := w1.heap.size) (v := σ 9) (by simp) r0 hm16.size (k := uvE U.length) (by simpa using hd6.src) (by omega) fun v7 w7 ha7 => ?_
        have hm17 := ha7.mod0 r0 hm16
        have qd7 : DRaw w7 w4.heap.size (σ5 10) (tagsP U) := (qd.keep hm6).mod ha7.mod fun b hb hc => by
          have h1 := (qd.own hb).1
          have h2 := (hdr.own (b := b) (by simpa using hc)).2
          omega
        refine go1 (v := σ5 10) rfl (by simp) ?_
        refine goC rfl ?_
        refine append_run (n0 := w1.heap.size) (v := v7) (by simp) ha7.raw hm17.size (k := tagsP U) (by simpa using qd7.src) (by simp only [List.length_append]; omega) fun v8 w8 ha8 => ?_
        have hm18 := ha8.mod0 ha7.raw hm17
        refine go1 (v := v8) rfl (by simp) (wpR_done ?_)
        refine ret1 (v := v8) (by simp) ⟨v8, rfl, ?_, hm1.trans hm18⟩
        have := ha8.raw.low hm1.size
        simpa [List.append_assoc] using this
end
end Go.Msk

namespace Go.Msk
open Go.RowKit
set_option maxRecDepth 100000
mutual
/-- No field, of the parts within too, has a tag; the lists of fields are short. -/
def FD.plain : FD → Bool
  | .mk _ _ _ _ tag _ _ sub => decide (tag < 0) && (decide (sub.length < 1000) && FD.plainL sub)
def FD.plainL : List FD → Bool
  | [] => true
  | f :: l => f.plain && FD.plainL l
end
structure SLib (P : Program) (F : Nat → Nat) : Prop where
  mixed : P.follows .mixedOrders = true
  has : liftF P (F sHas) = some (ir_sHas F)
  null : liftF P (F sNull) = some (ir_sNull F)
  whole : liftF P (F sWhole) = some (ir_sWhole F)
  things : liftF P (F sThings) = some (ir_sThings F)
  at_ : liftF P (F sAt) = some (ir_sAt F)
  uvarint : liftF P (F sUvarint) = some (ir_sUvarint F)
  fixed : liftF P (F sFixed) = some (ir_sFixed F)
  width : liftF P (F sWidth) = some (ir_sWidth F)
  counted : liftF P (F sCounted) = some (ir_sCounted F)
  value : liftF P (F sValue) = some (ir_sValue F)
  field : liftF P (F sField) = some (ir_sField F)
  known : liftF P (F sKnown) = some (ir_sKnown F)
  unknown : liftF P (F sUnknown) = some (ir_sUnknown F)
  part : liftF P (F sPart) = some (ir_sPart F)
  write : liftF P (F sWrite) = some (ir_sWrite F)
theorem FD.plainL_mem : ∀ {l : List FD}, FD.plainL l = true → ∀ f ∈ l, f.plain = true
  | [], _, f, h => by simp at h
  | a :: l, hl, f, h => by
    simp only [FD.plainL, Bool.and_eq_true] at hl
    rcases List.mem_cons.1 h with rfl | h
    · exact hl.1
    · exact FD.plainL_mem hl.2 f h
theorem FD.plain.tag {f : FD} (h : f.plain = true) : f.tag < 0 := by
  cases f
  simp only [FD.plain, Bool.and_eq_true, decide_eq_true_eq] at h
  exact h.1
section
variable {P : Program} {F : Nat → Nat}
mutual
theorem FD.fieldC (L : SLib P F) (ver : Int) (flex : Bool) : ∀ f : FD, f.plain = true → FieldC P F ver flex f
  | .mk kind frm to null tag dfl of sub, h => by
    simp only [FD.plain, Bool.and_eq_true, decide_eq_true_eq] at h
    have hp : PartC P F ver flex sub := part_call L.mixed L.part L.has L.at_ L.uvarint L.whole L.known L.unknown (FD.fieldsC L ver flex sub h.2.2) (fun f hf => FD.plain.tag (FD.plainL_mem h.2.2 f hf)) (by omega)
    exact field_call L.mixed L.field L.null L.things L.counted L.uvarint L.fixed (fun k => value_call L.mixed L.value L.whole L.counted L.uvarint L.fixed L.width fun _ => hp) hp
theorem FD.fieldsC (L : SLib P F) (ver : Int) (flex : Bool) : ∀ l : List FD, FD.plainL l = true → ∀ f ∈ l, FieldC P F ver flex f
  | [], _, f, hf => by simp at hf
  | a :: l, h, f, hf => by
    simp only [FD.plainL, Bool.and_eq_true] at h
    rcases List.mem_cons.1 hf with e | hf
    · rw [e]; exact FD.fieldC L ver flex a h.1
    · exact FD.fieldsC L ver flex l h.2 f hf
end
theorem partC_plain (L : SLib P F) (ver : Int) (flex : Bool) {fs : List FD} (h : FD.plainL fs = true) (hl : fs.length < 1000) : PartC P F ver flex fs :=
  part_call L.mixed L.part L.has L.at_ L.uvarint L.whole L.known L.unknown (FD.fieldsC L ver flex fs h) (fun f hf => FD.plain.tag (FD.plainL_mem h f hf)) (by omega)
structure MD where
  fs : List FD
  flex : Int
  deriving Inhabited
def MD.isFlex (m : MD) (ver : Int) : Bool := decide (m.flex ≥ 0) && decide (ver ≥ m.flex)
def writeP (m : MD) (ver : Int) (t : TR) : List UInt8 := partP ver (m.isFlex ver) m.fs t
inductive RepM (ok : Nat → Prop) (w : World) : MD → List Value → Prop
  | mk {fs : List FD} {flex : Int} {v : Value} {css : List (List Value)} : SlC ok w v fs.length css.flatten → RepFL ok w fs css → RepM ok w ⟨fs, flex⟩ [v, .int .i64 flex]
theorem RepM.keep {w w' : World} {m : MD} {cs : List Value} (h : RepM anyB w m cs) (hm : Mod [] w w') : RepM anyB w' m cs := by
  cases h with | mk h1 h2 => exact .mk (h1.keep hm) (h2.keep hm)
attribute [local simp] gOk updo upd ev RK.val? isShift intBin Addr.add_mk args0 Value.cells undef
def WriteC (P : Program) (F : Nat → Nat) (m : MD) (ver : Int) : Prop :=
  ∀ (w : World) (ms : List Value) (t : TR) (ts : List Value), RepM anyB w m ms → RepT anyB w t ts → t.kok → (writeP m ver t).length ≤ lim →
    Calls P (F sWrite) [.agg ms.toArray, .int .i64 ver, .agg ts.toArray].toArray w (BytesR w (writeP m ver t))
theorem write_call (hm : P.follows .mixedOrders = true) (h : liftF P (F sWrite) = some (ir_sWrite F)) {m : MD} {ver : Int} (hp : PartC P F ver (m.isFlex ver) m.fs) : WriteC P F m ver := by
  intro w ms t ts hms ht hk hlen
  cases hms with
  | @mk fs flex v css h1 h2 =>
  have h5 := ht.five
  unfold ir_sWrite at h
  refine call_of h hm (by simp) ?_
  clear h
  rw [wpC_seq, wpC_blk]
  refine goBox (v := .agg #[v, .int .i64 flex]) (by simp) fun w1 hb1 hm1 => ?_
  refine goBox (v := .agg ts.toArray) (by simp) fun w2 hb2 hm2 => ?_
  have hb1 : Blk w2 w.heap.size [v, .int .i64 flex] := Blk.mod (by simpa using hb1) hm2 (by simp)
  have hb2 : Blk w2 w1.heap.size ts := by simpa using hb2
  have hm02 := hm1.trans hm2
  have c1 := fun k => hb1.cell k
  refine go1 rfl rfl (wpR_done ?_)
  rw [wpC_seq, wpC_blk]
  refine go1 (v := .pointer (some ⟨w.heap.size, 0, none⟩)) rfl (by simp) ?_
  refine go1 (v := v) rfl (by simp [c1]) ?_
  refine go1 (v := .int .i64 ver) rfl (by simp) ?_
  refine go1 (v := .pointer (some ⟨w.heap.size, 1, none⟩)) rfl (by simp) ?_
  refine go1 (v := .int .i64 flex) rfl (by simp [c1]) ?_
  refine go1 (v := .bool (decide (flex ≥ 0))) rfl (by simp) ?_
  refine go1 (v := .bool (decide (flex ≥ 0))) rfl (by simp) ?_
  have fin : ∀ σ : Sl, σ 5 = .pointer (some ⟨w1.heap.size, 0, none⟩) → σ 8 = v → σ 9 = .int .i64 ver → σ 18 = .bool (MD.isFlex ⟨fs, flex⟩ ver) → wpR P [⟨(some (19)), .ldn (.tmp 5) 5, none⟩,
      ⟨(some (20)), .call (F sPart) [.tmp 8, .tmp 9, .tmp 18, .tmp 19], none⟩,
      ⟨(some (6)), .mv (.tmp 20), none⟩] σ w2 (thenC (wpC P .ret (postC [.tmp 6] (BytesR w (writeP ⟨fs, flex⟩ ver t)))) (postC [.tmp 6] (BytesR w (writeP ⟨fs, flex⟩ ver t))) .normal) := by
    intro σ k5 k8 k9 k18
    refine go1 (v := .agg ts.toArray) rfl (by simp [k5, cellsAt_of' hb2.cells h5]) ?_
    refine goCall rfl (vs := [v, .int .i64 ver, .bool (MD.isFlex ⟨fs, flex⟩ ver), .agg ts.toArray]) (by simp [k8, k9, k18]) (hp w2 v css t ts (h1.keep hm02) (h2.keep hm02) (ht.keep hm02) hk hlen) ?_
    rintro e w3 ⟨v3, rfl, hd, hm3⟩
    exact ⟨v3, rfl, go1 (v := v3) rfl (by simp) (wpR_done (ret1 (v := v3) (by simp) ⟨v3, rfl, hd.low hm02.size, hm02.trans hm3⟩))⟩
  by_cases e1 : flex ≥ 0
  · refine go1 (v := .int .i64 ver) (by simp [e1]) (by simp) ?_
    refine go1 (v := .pointer (some ⟨w.heap.size, 1, none⟩)) (by simp [e1]) (by simp) ?_
    refine go1 (v := .int .i64 flex) (by simp [e1]) (by simp [c1]) ?_
    refine go1 (v := .bool (decide (ver ≥ flex))) (by simp [e1]) (by simp) ?_
    refine go1 (v := .bool (decide (ver ≥ flex))) rfl (by simp [e1]) ?_
    exact fin _ (by simp) (by simp) (by simp) (by simp [MD.isFlex, e1] <;> rfl)
  · iterate 4 (refine go0 (by simp [e1]) ?_)
    refine go1 (v := .bool false) rfl (by simp [e1]) ?_
    exact fin _ (by simp) (by simp) (by simp) (by simp [MD.isFlex, e1])
theorem writeC_plain (L : SLib P F) {m : MD} {ver : Int} (h : FD.plainL m.fs = true) (hl : m.fs.length < 1000) : WriteC P F m ver := write_call L.mixed L.write (partC_plain L ver _ h hl)
end
end Go.Msk

namespace Go.Msk
open Go.RowKit
set_option maxRecDepth 100000
abbrev at_ (l : List UInt8) : RS := ⟨l, false, false⟩
end Go.Msk

namespace Go.Msk
open Go.RowKit
set_option maxRecDepth 100000
section
variable {P : Program} {F : Nat → Nat}
attribute [local simp] bnd wpC wpR RI.wp gOk RK.run thenC inBlockC updo upd ev args0 postC rvals RV.val tup_one isShift
theorem got_loop2 {N : Nat} {w w3 : World} {Pb b2 Ob : Nat} {n : Int} {sv lv uv0 : Value} {null : Bool} {u : List (Nat × List UInt8)} {uss : List (List Value)} {σ : Sl} {Q : Exit → Sl → World → Prop}
    (hw : Mod [] w w3 ∨ (Mod [Ob] w w3)) (_hN : N ≤ w.heap.size) (hu : SlC (fun b => b < N) w uv0 u.length uss.flatten) (hr : RepU (fun b => b < N) w u uss) (hlen : u.length ≤ 2147483647)
    (hob : Blk w3 Ob [.int .i64 n, sv, .bool null, lv, .slice none 0 0]) (hoN : N ≤ Ob)
    (h1 : σ 1 = .pointer (some ⟨Pb, 0, none⟩)) (h2 : σ 2 = .pointer (some ⟨b2, 0, none⟩)) (h3 : σ 3 = .pointer (some ⟨Ob, 0, none⟩)) (hpb : w3.cell? ⟨Pb, 4, none⟩ = some uv0)
    (hQ : ∀ σ' w' uv ucs, σ' 2 = .pointer (some ⟨b2, 0, none⟩) → σ' 3 = .pointer (some ⟨Ob, 0, none⟩) → GU w3 w' Ob n sv lv uv null N u ucs → ucs.length = u.length → Q .normal σ' w') :
    wpC P (.seq (.blk [⟨some 30, .fad (.tmp 1) 4, none⟩, ⟨some 31, .ld (.tmp 30), none⟩, ⟨some 32, .len (.tmp 31), none⟩, ⟨some 33, .mv (.const (.int .i64 0)), none⟩])
      (.block 2 (.loop (.seq (.blk [⟨some 34, .bin .lss (.tmp 33) (.tmp 32), none⟩]) (.seq (.cond (.tmp 34) .skip (.exit 2))
        (.seq (.block 3 (.seq (.blk [⟨some 35, .iad (.tmp 31) (.tmp 33) 2, none⟩, ⟨some 36, .ldn (.tmp 35) 2, none⟩, ⟨some 7, .alloc uzero, none⟩, ⟨none, .st (.tmp 7) 2 (.tmp 36), none⟩])
            (.blk [⟨some 37, .fad (.tmp 3) 4, none⟩, ⟨some 38, .ld (.tmp 37), none⟩, ⟨some 39, .fad (.tmp 7) 0, none⟩, ⟨some 40, .ld (.tmp 39), none⟩, ⟨some 41, .fad (.tmp 7) 1, none⟩, ⟨some 42, .ld (.tmp 41), none⟩,
                ⟨some 43, .build uzero [(0, 1, .tmp 40), (1, 1, .tmp 42)], none⟩, ⟨some 44, .bslice 1 uzero [(0, 2, .tmp 43)], none⟩, ⟨some 45, .append (.tmp 38) (.tmp 44) 2 32, none⟩, ⟨some 46, .fad (.tmp 3) 4, none⟩, ⟨none, .st (.tmp 46) 1 (.tmp 45), none⟩])))
          (.blk [⟨some 47, .bin .add (.tmp 33) (.const (.int .i64 1)), none⟩, ⟨some 33, .mv (.tmp 47), none⟩])))))))
      Q σ w3 := by
  obtain ⟨lb, lc, elv⟩ := hu.shape
  have hol := hob.lt
  have hw' : Mod [Ob] w w3 := hw.elim (·.nil) id
  rw [wpC_seq, wpC_blk]
  refine wpR_step (v := .pointer (some ⟨Pb, 4, none⟩)) (by simp [RK.val?, h1, Addr.add_mk]) ?_
  refine wpR_step (v := uv0) (by simp [RK.val?, hpb]) ?_
  refine wpR_step (v := .int .i64 u.length) (by simp [RK.val?, elv]) ?_
  refine wpR_step (v := .int .i64 0) (by simp [RK.val?]) ?_
  simp only [wpR, thenC]
  rw [wpC_block, wpC_loop]
  refine ⟨fun σ1 w1 => ∃ j uv ucs, j ≤ u.length ∧ σ1 2 = .pointer (some ⟨b2, 0, none⟩) ∧ σ1 3 = .pointer (some ⟨Ob, 0, none⟩) ∧ σ1 31 = uv0 ∧ σ1 32 = .int .i64 u.length ∧ σ1 33 = .int .i64 j ∧
      GU w3 w1 Ob n sv lv uv null N (u.take j) ucs ∧ ucs.length = j,
    fun σ1 _ => u.length - (match σ1 33 with | .int _ j => j.toNat | _ => 0), ⟨0, .slice none 0 0, [], Nat.zero_le _, by simp [h2], by simp [h3], by simp, by simp, by simp, ⟨hob, ⟨by simp, .inl ⟨rfl, rfl⟩⟩, by simpa using .nil, Mod.refl _ _, hol, hoN⟩, rfl⟩, ?_⟩
  rintro σ1 w1 ⟨j, uv, ucs, hj, s2, s3, s31, s32, s33, hgs, htl⟩
  rw [wpC_seq, wpC_blk]
  refine wpR_step (v := .bool (decide ((j : Int) < u.length))) (by simp [RK.val?, s32, s33, intBin]) ?_
  simp only [wpR, thenC]
  rw [wpC_seq]
  by_cases hlt : j < u.length
  · rw [wpC_cond_t (by simp [hlt]), wpC_skip]
    simp only [thenC]
    rw [wpC_seq, wpC_block, wpC_seq, wpC_blk]
    obtain ⟨tj, htj⟩ : ∃ t, u[j]? = some t := ⟨u[j], List.getElem?_eq_getElem hlt⟩
    have hmw : Mod [Ob] w w1 := hw'.trans hgs.mod
    have hNob : ∀ b ∈ [Ob], ¬ b < N := fun b hb => by simp only [List.mem_singleton] at hb; have := hgs.nob; omega
    obtain ⟨vj, hcj, hrj⟩ := (hr.mod (ok' := fun b => b < N) hmw hNob fun _ _ h => h).nth htj
    obtain ⟨pa, pc, ep, -, hcells⟩ := (hu.mod (ok' := fun b => b < N) hmw hNob fun _ _ h => h).flat hr.length hr.two hcj
    obtain ⟨vb, vc, evj⟩ := hrj.shape
    refine wpR_step (v := .pointer (some (pa.add (j * 2)))) (by simp [RK.val?, s31, s33, ep, hlt]) ?_
    refine wpR_step (v := .agg [.int .u32 tj.1, vj].toArray) (by simp [RK.val?, hcells]) ?_
    refine wpR_run ?_
    intro Ty
    obtain ⟨q1, q2, q3⟩ := new_put w1 uzero [.int .u32 tj.1, vj] Ty rfl (by rw [evj]; simp [Value.oneCell'])
    refine wpR_run ?_
    have ec' : (Value.agg [.int .u32 tj.1, vj].toArray).cells.toList = [.int .u32 tj.1, vj] := rfl
    simp only [RK.run, ev, updo, upd]
    simp only [if_true, show (36 : Nat) ≠ 7 by decide, if_false, ec']
    refine ⟨rfl, q1, ?_⟩
    generalize hw4 : putCells (w1.alloc (.cells uzero.toArray Ty)) ⟨w1.heap.size, 0, none⟩ 0 [.int .u32 tj.1, vj] = w4 at q2 q3
    simp only [wpR, thenC]
    rw [wpC_blk]
    have hob4 := hgs.ob.mod q3 (by simp)
    have hraw4 : LRaw2 w4 w3.heap.size uv ucs := ⟨hgs.raw.two, hgs.raw.sl.imp id fun ⟨BA, cap, rest, g1, g2, g3, g4, g5⟩ => ⟨BA, cap, rest, g1, g2, g3, g4.mod q3 (by simp), g5⟩⟩
    have c0 := q2.cell 0
    have c1 := q2.cell 1
    refine wpR_step (v := .pointer (some ⟨Ob, 4, none⟩)) (by simp [RK.val?, s3, Addr.add_mk]) ?_
    refine wpR_step (v := uv) (by simp [RK.val?]; exact hob4.cell 4) ?_
    refine wpR_step (v := .pointer (some ⟨w1.heap.size, 0, none⟩)) (by simp [RK.val?, Addr.add_mk]) ?_
    refine wpR_step (v := .int .u32 tj.1) (by simp [RK.val?]; simpa using c0) ?_
    refine wpR_step (v := .pointer (some ⟨w1.heap.size, 1, none⟩)) (by simp [RK.val?, Addr.add_mk]) ?_
    refine wpR_step (v := vj) (by simp [RK.val?]; simpa using c1) ?_
    refine wpR_step (v := .agg [.int .u32 tj.1, vj].toArray) (by simp [RK.val?, uzero, fillL, splice, Value.cells, evj]) ?_
    refine wpR_run ?_
    have hf : fillL (zrep 1 uzero) [(0, 2, Value.agg [.int .u32 tj.1, vj].toArray)] = some [.int .u32 tj.1, vj] := by
      simp [zrep, uzero, fillL, splice, Value.cells]
    simp only [RK.run, List.map_cons, List.map_nil, ev, updo, upd, if_true, hf]
    intro T5
    have hm5 : Mod [] w4 (w4.alloc (.cells [.int .u32 tj.1, vj].toArray T5)) := Mod.alloc _ _ _
    have hb5 : Blk (w4.alloc (.cells [.int .u32 tj.1, vj].toArray T5)) w4.heap.size [.int .u32 tj.1, vj] := Blk.new _ _ _
    generalize w4.alloc (.cells [.int .u32 tj.1, vj].toArray T5) = w5 at hm5 hb5
    have hob5 := hob4.mod hm5 (by simp)
    have hraw5 : LRaw2 w5 w3.heap.size uv ucs := ⟨hraw4.two, hraw4.sl.imp id fun ⟨BA, cap, rest, g1, g2, g3, g4, g5⟩ => ⟨BA, cap, rest, g1, g2, g3, g4.mod hm5 (by simp), g5⟩⟩
    have hm15 : Mod [] w1 w5 := q3.trans hm5
    have hm35 : Mod [Ob] w3 w5 := hgs.mod.trans hm15.nil
    refine wpR_run ?_
    refine append_two (lv := uv) (n0 := w3.heap.size) (by simp) hraw5 hm35.size (by simp) hb5 rfl (by rw [evj]; simp [Value.oneCell']) (by omega) fun uv' w6 hraw6 hown => ?_
    have hlob := hgs.lob
    have hge : ∀ b, own uv = some b → w3.heap.size ≤ b := fun b hb => by
      rcases hraw5.sl with ⟨e, -⟩ | ⟨BA, cap, rest, e, g2, g3, -⟩
      · rw [e] at hb; simp [own] at hb
      · rw [e] at hb; simp only [own, Option.some.injEq] at hb; omega
    have hnN : N ≤ w3.heap.size := by have := hgs.nob; omega
    have key : Blk w6 Ob [.int .i64 n, sv, .bool null, lv, uv] ∧ Mod [Ob] w3 w6 ∧ RepU (fun b => b < N) w6 (u.take j ++ [tj]) (ucs ++ [[.int .u32 tj.1, vj]]) := by
      have hS : ∀ b ∈ (own uv).toList, own uv = some b := fun b hb => by simpa using hb
      have hrep5 : RepU (fun b => b < N) w5 (u.take j ++ [tj]) (ucs ++ [[.int .u32 tj.1, vj]]) := (hgs.rep.mod hm15 (by simp) fun _ _ h => h).append (.cons (hrj.mod hm15 (by simp) fun _ _ h => h) .nil)
      rcases hown with ⟨⟨ho, hm⟩, -⟩ | ⟨ho, hm⟩
      · refine ⟨hob5.mod hm (fun hc => by have := hge _ (hS _ hc); omega), ?_, hrep5.mod hm (fun b hb hc => by have := hge _ (hS _ hb); omega) fun _ _ h => h⟩
        refine ⟨hm.os.trans hm35.os, hm.tape.trans hm35.tape, hm.output.trans hm35.output, Nat.le_trans hm35.size hm.size, fun k hk hn => ?_⟩
        rw [hm.block k (Nat.lt_of_lt_of_le hk hm35.size) (fun hc => by have := hge _ (hS _ hc); omega)]
        exact hm35.block k hk hn
      · exact ⟨hob5.mod hm (by simp), hm35.trans hm.nil, hrep5.mod hm (by simp) fun _ _ h => h⟩
    obtain ⟨k1, k2, k3⟩ := key
    have o1 : uv'.cells = #[uv'] ∧ uv'.oneCell' = true := by
      rcases hraw6.sl with ⟨e, -⟩ | ⟨BA, cap, rest, e, -⟩ <;> subst e <;> exact ⟨rfl, rfl⟩
    have hput : Mod [Ob] w6 (putCells w6 ⟨Ob, 4, none⟩ 0 [uv']) := Mod.put (by simp)
    have hp := k1.put (o := 4) (vs := [uv']) (by simp)
    have e1 : splice [Value.int .i64 n, sv, .bool null, lv, uv] 4 [uv'] = [.int .i64 n, sv, .bool null, lv, uv'] := by simp [splice]
    rw [e1] at hp
    refine wpR_step (v := .pointer (some ⟨Ob, 4, none⟩)) (by simp [RK.val?, s3, Addr.add_mk]) ?_
    refine wpR_run ?_
    simp only [RK.run, ev, updo, upd, if_true, show (45 : Nat) ≠ 46 by decide, if_false, o1.1]
    refine ⟨rfl, stOk_one k1 (by simp) o1.2, ?_⟩
    have hge' : ∀ b, own uv' = some b → w3.heap.size ≤ b := fun b hb => by
      rcases hraw6.sl with ⟨e, -⟩ | ⟨BA, cap, rest, e, g2, g3, -⟩
      · rw [e] at hb; simp [own] at hb
      · rw [e] at hb; simp only [own, Option.some.injEq] at hb; omega
    simp only [wpR, inBlockC, thenC]
    have hw : IntKind.i64.wrap ((j : Int) + 1) = ((j + 1 : Nat) : Int) := by
      simp only [IntKind.wrap, IntKind.bits, IntKind.signed]; simp; omega
    rw [wpC_blk]
    refine wpR_step (v := .int .i64 ((j + 1 : Nat) : Int)) (by simp [RK.val?, intBin, s33, hw]) ?_
    refine wpR_step (v := .int .i64 ((j + 1 : Nat) : Int)) (by simp [RK.val?]) ?_
    simp only [wpR, thenC]
    refine ⟨⟨j + 1, uv', ucs ++ [[.int .u32 tj.1, vj]], hlt, by simp [s2], by simp [s3], by simp [s31], by simp [s32], by simp, ?_, by simp [htl]⟩, ?_⟩
    · rw [List.take_add_one, htj]
      refine ⟨by simpa using hp, ⟨hraw6.two, hraw6.sl.imp id fun ⟨BA, cap, rest, g1, g2, g3, g4, g5⟩ => ⟨BA, cap, rest, g1, g2, g3, by simpa using g4.mod hput (by have := hge' BA (by rw [g1]; rfl); simp; omega), g5⟩⟩, ?_, by simpa using k2.trans hput, hlob, hgs.nob⟩
      exact k3.mod hput (fun b hb hc => by simp only [List.mem_singleton] at hb; have := hgs.nob; omega) fun _ _ h => h
    · simp [s33]; show u.length - (j + 1) < u.length - j; omega
  · rw [wpC_cond_f (by simp; omega)]
    have hje : j = u.length := by omega
    subst hje
    rw [List.take_length] at hgs
    simp only [wpC, inBlockC, thenC, if_true]
    exact hQ _ w1 uv ucs (by simp [s2]) (by simp [s3]) hgs htl
end
end Go.Msk

namespace Go.Msk
open Go.RowKit
set_option maxRecDepth 100000
mutual
/-- Lists within what Go can hold. -/
def TR.small : TR → Prop
  | .mk _ s _ l u => s.length ≤ 2147483647 ∧ l.length ≤ 2147483647 ∧ u.length ≤ 2147483647 ∧ (∀ x ∈ u, x.2.length ≤ 2147483647) ∧ TR.smallL l
def TR.smallL : List TR → Prop
  | [] => True
  | t :: l => t.small ∧ TR.smallL l
end
theorem TR.smallL_mem : ∀ {l : List TR}, TR.smallL l → ∀ t ∈ l, t.small
  | [], _, t, h => by simp at h
  | a :: l, hs, t, h => by
    simp only [TR.smallL] at hs
    rcases List.mem_cons.1 h with rfl | h
    · exact hs.1
    · exact TR.smallL_mem hs.2 t h
section
variable {P : Program} {F : Nat → Nat}
theorem LRaw.slc {w : World} {n0 : Nat} {lv : Value} {css : List (List Value)} (h : LRaw w n0 lv css) {ok : Nat → Prop} (hok : ∀ b, n0 ≤ b → ok b) : SlC ok w lv css.length css.flatten := by
  rcases h.sl with ⟨rfl, rfl⟩ | ⟨BA, cap, rest, rfl, q2, q3, q4, q5⟩
  · exact SlC.nil
  · refine ⟨some ⟨BA, 0, none⟩, cap, rfl, q2, fun h => by simp at h, fun a ha _ => ?_⟩
    simp only [Option.some.injEq] at ha; subst ha
    refine ⟨hok _ q3, q4.lt, ?_⟩
    have := q4.cells.take css.flatten.length
    rwa [List.take_left] at this
theorem LRaw2.slc {w : World} {n0 : Nat} {lv : Value} {css : List (List Value)} (h : LRaw2 w n0 lv css) {ok : Nat → Prop} (hok : ∀ b, n0 ≤ b → ok b) : SlC ok w lv css.length css.flatten := by
  rcases h.sl with ⟨rfl, rfl⟩ | ⟨BA, cap, rest, rfl, q2, q3, q4, q5⟩
  · exact SlC.nil
  · refine ⟨some ⟨BA, 0, none⟩, cap, rfl, q2, fun h => by simp at h, fun a ha _ => ?_⟩
    simp only [Option.some.injEq] at ha; subst ha
    refine ⟨hok _ q3, q4.lt, ?_⟩
    have := q4.cells.take css.flatten.length
    rwa [List.take_left] at this
theorem got_one (hm : P.follows .mixedOrders = true) (h : liftF P (F lGot) = some (ir_lGot F)) {n : Int} {s : List UInt8} {null : Bool} {l : List TR} {u : List (Nat × List UInt8)} (hf : ∀ t ∈ l, GotAt P (F lGot) t)
    (hl : l.length ≤ 2147483647) (hul : u.length ≤ 2147483647) : GotAt P (F lGot) (.mk n s null l u) := by
  intro N w cs hN hrep
  obtain ⟨sv, lv0, uv0, css, uss, rfl, h1, h2, h3, h4, h5⟩ : ∃ sv lv0 uv0 css uss, cs = [.int .i64 n, sv, .bool null, lv0, uv0] ∧ SlC (fun b => b < N) w sv s.length (u8s s) ∧ SlC (fun b => b < N) w lv0 l.length css.flatten ∧ RepTL (fun b => b < N) w l css ∧
      SlC (fun b => b < N) w uv0 u.length uss.flatten ∧ RepU (fun b => b < N) w u uss := by
    cases hrep with | mk h1 h2 h3 h4 h5 => exact ⟨_, _, _, _, _, rfl, h1, h2, h3, h4, h5⟩
  refine call_of h hm (by simp) ?_
  have a0 : args0 [.agg [.int .i64 n, sv, .bool null, lv0, uv0].toArray] 0 = .agg [.int .i64 n, sv, .bool null, lv0, uv0].toArray := rfl
  generalize args0 [.agg [.int .i64 n, sv, .bool null, lv0, uv0].toArray] = σ0 at a0 ⊢
  rw [wpC_seq, wpC_blk]
  refine wpR_run ?_
  have ec : (Value.agg [.int .i64 n, sv, .bool null, lv0, uv0].toArray).cells.toList = [.int .i64 n, sv, .bool null, lv0, uv0] := rfl
  simp only [RK.run, ev, a0, ec]
  intro T1
  have b1 := Blk.new w [.int .i64 n, sv, .bool null, lv0, uv0] T1
  have m1 : Mod [] w (w.alloc (.cells [.int .i64 n, sv, .bool null, lv0, uv0].toArray T1)) := Mod.alloc _ _ _
  have z1 : (w.alloc (.cells [.int .i64 n, sv, .bool null, lv0, uv0].toArray T1)).heap.size = w.heap.size + 1 := by simp
  generalize w.alloc (.cells [.int .i64 n, sv, .bool null, lv0, uv0].toArray T1) = w1 at b1 m1 z1 ⊢
  refine wpR_run ?_
  have hz : ([Value.int .i64 0, .slice none 0 0, .bool false, .slice none 0 0, .slice none 0 0] : List Value) = tzero := rfl
  rw [hz]
  simp only [RK.run]
  intro T2
  have b2 := Blk.new w1 tzero T2
  have m2 : Mod [] w1 (w1.alloc (.cells tzero.toArray T2)) := Mod.alloc _ _ _
  have z2 : (w1.alloc (.cells tzero.toArray T2)).heap.size = w1.heap.size + 1 := by simp
  generalize w1.alloc (.cells tzero.toArray T2) = w2 at b2 m2 z2 ⊢
  simp only [wpR, thenC]
  rw [wpC_seq, wpC_blk]
  have b12 := b1.mod m2 (by simp)
  have s1 : ∀ x y, updo (updo σ0 (some 1) x) (some 2) y 1 = x := fun x y => by simp [updo, upd]
  have c0 := b12.cell 0
  have c1 := b12.cell 1
  have c2 := b12.cell 2
  simp only [List.getElem?_cons_zero, List.getElem?_cons_succ] at c0 c1 c2
  obtain ⟨svb, svc, esv⟩ := h1.shape
  refine wpR_step (v := .pointer (some ⟨w.heap.size, 0, none⟩)) (by simp [RK.val?, ev, updo, upd, Addr.add_mk]) ?_
  refine wpR_step (v := .int .i64 n) (by simp only [RK.val?, ev, updo, upd_same, c0]) ?_
  refine wpR_step (v := .pointer (some ⟨w.heap.size, 1, none⟩)) (by simp [RK.val?, ev, updo, upd, Addr.add_mk]) ?_
  refine wpR_step (v := sv) (by simp only [RK.val?, ev, updo, upd_same, c1]) ?_
  refine wpR_step (v := .pointer (some ⟨w.heap.size, 2, none⟩)) (by simp [RK.val?, ev, updo, upd, Addr.add_mk]) ?_
  refine wpR_step (v := .bool null) (by simp only [RK.val?, ev, updo, upd_same, c2]) ?_
  refine wpR_step (v := .agg [.int .i64 n, sv, .bool null, .slice none 0 0, .slice none 0 0].toArray) (by simp [RK.val?, ev, updo, upd, tzero, fillL, splice, Value.cells, esv]) ?_
  refine wpR_run ?_
  simp only [RK.run]
  intro T3
  obtain ⟨q1, q2, q3⟩ := new_put w2 tzero [.int .i64 n, sv, .bool null, .slice none 0 0, .slice none 0 0] T3 rfl (by rw [esv]; simp [Value.oneCell'])
  refine wpR_run ?_
  have ec2 : (Value.agg [.int .i64 n, sv, .bool null, .slice none 0 0, .slice none 0 0].toArray).cells.toList = [.int .i64 n, sv, .bool null, .slice none 0 0, .slice none 0 0] := rfl
  simp only [RK.run, ev, updo, upd]
  simp only [if_true, show (14 : Nat) ≠ 3 by decide, if_false, ec2]
  refine ⟨rfl, q1, ?_⟩
  have hsz3 : (putCells (w2.alloc (.cells tzero.toArray T3)) ⟨w2.heap.size, 0, none⟩ 0 [.int .i64 n, sv, .bool null, .slice none 0 0, .slice none 0 0]).heap.size = w2.heap.size + 1 := by rw [size_putCells]; simp
  generalize putCells (w2.alloc (.cells tzero.toArray T3)) ⟨w2.heap.size, 0, none⟩ 0 [.int .i64 n, sv, .bool null, .slice none 0 0, .slice none 0 0] = w3 at q2 q3 hsz3
  have m03 : Mod [] w w3 := (m1.trans m2).trans q3
  simp only [wpR, thenC]
  rw [wpC_seq]
  refine got_loop1 (Pb := w.heap.size) (b2 := w1.heap.size) (Ob := w2.heap.size) (n := n) (sv := sv) (null := null) hf m03 hN h2 h3 hl q2 (by omega) (by simp [upd]) (by simp [upd]) (by simp [upd]) ((b12.mod q3 (by simp)).cell 3) fun σ4 w4 lv tcs t1 t2 t3 hgs hln => ?_
  simp only [thenC]
  rw [wpC_seq]
  have m04 : Mod [w2.heap.size] w w4 := m03.nil.trans hgs.mod
  have nO : ∀ b ∈ [w2.heap.size], ¬ b < N := fun b hb => by simp only [List.mem_singleton] at hb; omega
  refine got_loop2 (Pb := w.heap.size) (b2 := w1.heap.size) (Ob := w2.heap.size) (n := n) (sv := sv) (null := null) (.inr m04) hN h4 h5 hul hgs.ob (by omega) t1 t2 t3 (((b12.mod q3 (by simp)).mod hgs.mod (by simp; omega)).cell 4) fun σ5 w5 uv ucs r2 r3 hgu hun => ?_
  simp only [thenC]
  rw [wpC_seq, wpC_blk]
  refine wpR_step (v := .agg [.int .i64 n, sv, .bool null, lv, uv].toArray) (by simp only [RK.val?, ev, r3, cellsAt_of' hgu.ob.cells (n := 5) rfl, Option.map_some]) ?_
  have m05 : Mod [w2.heap.size] w w5 := m04.trans hgu.mod
  have m45 := hgu.mod
  have own_ne : ∀ b, own lv = some b → w3.heap.size ≤ b := fun b hb => (hgs.raw.own hb).1
  have hraw5 : LRaw w5 w3.heap.size lv tcs := hgs.raw.mod m45 (fun b hb => by have := own_ne b hb; simp; omega)
  have hrep5 : RepTL (fun b => b < N ∨ (w3.heap.size ≤ b ∧ own lv ≠ some b)) w5 l tcs := hgs.rep.mod m45 (fun b hb hc => by
    simp only [List.mem_singleton] at hb
    rcases hc with hc | hc <;> omega) fun _ _ h => h
  have hb25 : Blk w5 w1.heap.size tzero := ((b2.mod q3 (by simp)).mod hgs.mod (by simp; omega)).mod m45 (by simp; omega)
  have hs5 := h1.mod (ok' := fun b => b < N) m05 nO fun _ _ h => h
  have hfin : RepT (fun b => (b < N ∨ w.heap.size ≤ b) ∧ b ≠ w1.heap.size) w5 (.mk n s null l u) [.int .i64 n, sv, .bool null, lv, uv] := by
    refine .mk (css := tcs) (uss := ucs) (hs5.mod (Mod.refl [] _) (by simp) fun b _ hb => ⟨.inl hb, by omega⟩) ?_ (hrep5.mod (Mod.refl [] _) (by simp) fun b _ hb => ?_) ?_ (hgu.rep.mod (Mod.refl [] _) (by simp) fun b _ hb => ⟨.inl hb, by omega⟩)
    · rw [← hln]; exact hraw5.slc fun b hb => ⟨.inr (by omega), by omega⟩
    · rcases hb with hb | hb
      · exact ⟨.inl hb, by omega⟩
      · exact ⟨.inr (by omega), by omega⟩
    · rw [← hun]; exact hgu.raw.slc fun b hb => ⟨.inr (by have := hgs.mod.size; omega), by have := hgs.mod.size; omega⟩
  have hput : Mod [w1.heap.size] w5 (putCells w5 ⟨w1.heap.size, 0, none⟩ 0 [.int .i64 n, sv, .bool null, lv, uv]) := Mod.put (by simp)
  have hp := hb25.put (o := 0) (vs := [.int .i64 n, sv, .bool null, lv, uv]) (by simp [tzero])
  rw [splice_all (by rfl)] at hp
  refine wpR_run ?_
  have ec3 : (Value.agg [.int .i64 n, sv, .bool null, lv, uv].toArray).cells.toList = [.int .i64 n, sv, .bool null, lv, uv] := rfl
  simp only [RK.run, ev, updo, upd]
  simp only [show (2 : Nat) ≠ 48 by decide, if_false, if_true, r2, ec3]
  refine ⟨rfl, stOk_many hb25 (by simp [tzero]) hfin.oneCell, ?_⟩
  simp only [wpR, wpC, thenC, postC, rvals, List.mapM_cons, List.mapM_nil, RV.val, upd, show (2 : Nat) ≠ 48 by decide, if_false, r2, cellsAt_of' hp.cells (n := 5) rfl, Option.bind_eq_bind, Option.map_some, Option.bind_some, Option.pure_def, tup_one]
  refine ⟨_, rfl, hfin.mod hput (fun b hb hc => by simp only [List.mem_singleton] at hb; exact hc.2 hb) (fun b _ hb => hb.1), ?_⟩
  refine Mod.drop (b := w1.heap.size) (S := []) ?_ (by omega)
  refine Mod.drop (b := w2.heap.size) (S := [w1.heap.size]) ?_ (by omega)
  exact (m05.mono (by simp)).trans (hput.mono (by simp))
theorem got_call (hm : P.follows .mixedOrders = true) (h : liftF P (F lGot) = some (ir_lGot F)) : ∀ t : TR, t.small → GotAt P (F lGot) t := by
  intro t
  refine TR.rec (motive_1 := fun t => t.small → GotAt P (F lGot) t) (motive_2 := fun l => ∀ t ∈ l, t.small → GotAt P (F lGot) t) ?_ ?_ ?_ t
  · intro n s null l u ih hs
    simp only [TR.small] at hs
    exact got_one hm h (fun t ht => ih t ht (TR.smallL_mem hs.2.2.2.2 t ht)) hs.2.1 hs.2.2.1
  · intro t ht; simp at ht
  · intro a l ih1 ih2 t ht
    rcases List.mem_cons.1 ht with rfl | ht
    · exact ih1
    · exact ih2 t ht
end
end Go.Msk

namespace Go.Msk
open Go.RowKit
set_option maxRecDepth 100000
def ziP : PK → List Value
  | .bool => [.bool false]
  | .i8 => [.int .i8 0]
  | .i16 => [.int .i16 0]
  | .u16 => [.int .u16 0]
  | .i32 => [.int .i32 0]
  | .i64 => [.int .i64 0]
  | .str => [.string .empty]
  | .uuid => u8s (List.replicate 16 0)
  | _ => [.int .i64 0]
inductive Fl where
  | nil
  | prm (p : PK) (rest : Fl)
  | lsp (p : PK) (bytes : Nat) (rest : Fl)
  | lss (f : FuncId) (bytes : Nat) (body rest : Fl)
  | tags (set : FuncId)
  deriving Inhabited
def Fl.zs : Fl → List (List Value)
  | .nil => []
  | .prm p rest => ziP p :: rest.zs
  | .lsp _ _ rest => [.slice none 0 0] :: rest.zs
  | .lss _ _ _ rest => [.slice none 0 0] :: rest.zs
  | .tags _ => [[.map none]]
def Fl.loops : Fl → Nat
  | .nil => 0
  | .prm _ rest => rest.loops
  | .lsp _ _ rest => 1 + rest.loops
  | .lss _ _ _ rest => 1 + rest.loops
  | .tags _ => 1
end Go.Msk

namespace Go.Msk
open Go.RowKit
set_option maxRecDepth 100000
def Kp (NV nv nt : Nat) (σ σ' : Sl) : Prop := ∀ j, j ≠ 1 → (j < nv ∨ (NV ≤ j ∧ j < nt)) → σ' j = σ j
theorem Kp.trans {NV nv nt nv' nt' nv'' nt'' : Nat} {σ σ' σ'' : Sl} (h : Kp NV nv nt σ σ') (h' : Kp NV nv' nt' σ' σ'') (a : nv'' ≤ nv) (b : nt'' ≤ nt) (a' : nv'' ≤ nv') (b' : nt'' ≤ nt') : Kp NV nv'' nt'' σ σ'' :=
  fun j h1 h2 => (h' j h1 (h2.imp (fun h => by omega) fun h => by omega)).trans (h j h1 (h2.imp (fun h => by omega) fun h => by omega))
section
variable {P : Program}
attribute [local simp] gOk updo upd ev RK.val? isShift intBin Addr.add_mk args0 Value.cells undef
end
end Go.Msk

namespace Go.Msk
open Go.RowKit
set_option maxRecDepth 100000
def keptP (m : MD) (ver : Int) (t : TR) : List UInt8 := beI 2 ver ++ writeP m ver t
theorem keptP_length (m : MD) (ver : Int) (t : TR) : (keptP m ver t).length = 2 + (writeP m ver t).length := by
  simp [keptP, beI_length]
section
variable {P : Program} {F : Nat → Nat}
attribute [local simp] gOk updo upd ev RK.val? isShift intBin Addr.add_mk args0 Value.cells undef
theorem skept_call (hm : P.follows .mixedOrders = true) (h : liftF P (F sKept) = some (ir_sKept F)) (hf : liftF P (F sFixed) = some (ir_sFixed F)) {m : MD} {ver : Int} (hw : WriteC P F m ver) {w : World} {ms : List Value} {t : TR} {ts : List Value}
    (hms : RepM anyB w m ms) (ht : RepT anyB w t ts) (hk : t.kok) (hlen : (writeP m ver t).length + 1000 ≤ lim) :
    Calls P (F sKept) [.agg ms.toArray, .int .i64 ver, .agg ts.toArray].toArray w (BytesR w (keptP m ver t)) := by
  have h5 := ht.five
  unfold ir_sKept at h
  refine call_of h hm (by simp) ?_
  clear h
  have hm2 : ms.length = 2 := by cases hms; rfl
  rw [wpC_seq, wpC_blk]
  refine goBox (v := .agg ms.toArray) (by simp) fun w1 hb1 hm1 => ?_
  refine goBox (v := .agg ts.toArray) (by simp) fun w2 hb2 hm2' => ?_
  have hb1 : Blk w2 w.heap.size ms := Blk.mod (by simpa using hb1) hm2' (by simp)
  have hb2 : Blk w2 w1.heap.size ts := by simpa using hb2
  have hm02 := hm1.trans hm2'
  refine go1 (v := .slice none 0 0) rfl (by simp) (goEnd ?_)
  simp only [thenC]
  rw [wpC_seq]
  show wpD P _ _ _ w2.drew _
  have hmd : Mod [] w2 w2.drew := Mod.drew _ _
  have hm0d := hm02.trans hmd
  have hb1d := hb1.mod hmd (by simp)
  have hb2d := hb2.mod hmd (by simp)
  have hl1 := cellsAt_of' hb1d.cells hm2
  have hl2 := cellsAt_of' hb2d.cells h5
  refine wpD_of_B (fun i v w' => match i with | 1 => DRaw w' w.heap.size v (beI 2 ver) | 5 => DRaw w' w.heap.size v (writeP m ver t) | _ => True) (by
    intro i v w w' h hm
    split at h
    · exact h.keep hm
    · exact h.keep hm
    · trivial) ?_
  refine bo1 (v := .int .i64 ver) rfl (by simp) ?_
  refine boCall (vs := [.int .i64 ver, .int .i64 (2 : Nat)]) (by simp) (by simp) (fun w' hm' _ => (fixed_call hm hf (n := ver) (k := 2) (by omega)).mono ?_) ?_
  · rintro e w'' ⟨v, rfl, hd, hmm⟩
    exact ⟨_, rfl, hmm, hd.low (hm0d.trans hm').size⟩
  rintro v1 ⟨wv1, -⟩
  refine bo1 (v := .agg ms.toArray) rfl (by simp [hl1]) ?_
  refine bo1 (v := .int .i64 ver) rfl (by simp) ?_
  refine bo1 (v := .agg ts.toArray) rfl (by simp [hl2]) ?_
  refine boCall (vs := [.agg ms.toArray, .int .i64 ver, .agg ts.toArray]) (by simp) (by simp) (fun w' hm' _ => (hw w' ms t ts (hms.keep (hm0d.trans hm')) (ht.keep (hm0d.trans hm')) hk (by omega)).mono ?_) ?_
  · rintro e w'' ⟨v, rfl, hd, hmm⟩
    exact ⟨_, rfl, hmm, hd.low (hm0d.trans hm').size⟩
  rintro v2 ⟨wv2, -⟩
  intro w' hm' hkn
  have k1 : DRaw w' w.heap.size v1 (beI 2 ver) := by
    have := known_get (j := 1) (t := 8) hkn (by simp) rfl rfl (by simp) rfl
    simpa using this
  have k2 : DRaw w' w.heap.size v2 (writeP m ver t) := by
    have := known_get (j := 5) (t := 12) hkn (by simp) rfl rfl (by simp) rfl
    simpa using this
  refine goC rfl (append_run (n0 := w.heap.size) (v := v1) (l := beI 2 ver) (k := writeP m ver t) (by simp) k1 (hm0d.trans hm').size (by simpa using k2.src) (by rw [beI_length]; omega) fun v3 w3 ha => ?_)
  refine go1 (v := v3) rfl (by simp) (goEnd ?_)
  simp only [thenC]
  exact ret1 (v := v3) (by simp) ⟨v3, rfl, ha.raw, ha.mod0 k1 (hm0d.trans hm')⟩
end
end Go.Msk

namespace Go.Msk
open Go.RowKit
set_option maxRecDepth 100000
def SameAt (P : Program) (f : FuncId) (t : TR) : Prop :=
  ∀ (w : World) (cs1 cs2 : List Value), RepT (fun _ => True) w t cs1 → RepT (fun _ => True) w t cs2 →
    Calls P f [.agg cs1.toArray, .agg cs2.toArray].toArray w fun e w' => e = .returned (.bool true) ∧ Mod [] w w'
section
variable {P : Program} {F : Nat → Nat}
attribute [local simp] bnd wpC wpR RI.wp gOk RK.run thenC inBlockC updo upd ev args0 postC rvals RV.val tup_one isShift
theorem same_head (hS : ∀ (w : World) (v1 v2 : Value) (l : List UInt8), SlC (fun _ => True) w v1 l.length (u8s l) → SlC (fun _ => True) w v2 l.length (u8s l) → l.length ≤ 2147483647 →
      Calls P (F sSame) [v1, v2].toArray w fun e w' => e = .returned (.bool true) ∧ Mod [] w w')
    {w : World} {p1 p2 : Nat} {n : Int} {null : Bool} {s : List UInt8} {nl nu : Nat} {sv1 sv2 : Value} {lb1 lb2 ub1 ub2 : Option Addr} {lc1 lc2 uc1 uc2 : Nat} {σ : Sl} {Q : Exit → Sl → World → Prop} (hs : s.length ≤ 2147483647)
    (b1 : Blk w p1 [.int .i64 n, sv1, .bool null, .slice lb1 nl lc1, .slice ub1 nu uc1]) (b2 : Blk w p2 [.int .i64 n, sv2, .bool null, .slice lb2 nl lc2, .slice ub2 nu uc2]) (h1 : SlC (fun _ => True) w sv1 s.length (u8s s)) (h2 : SlC (fun _ => True) w sv2 s.length (u8s s))
    (s2 : σ 2 = .pointer (some ⟨p1, 0, none⟩)) (s3 : σ 3 = .pointer (some ⟨p2, 0, none⟩)) (hQ : ∀ σ' w', σ' 2 = .pointer (some ⟨p1, 0, none⟩) → σ' 3 = .pointer (some ⟨p2, 0, none⟩) → Mod [] w w' → Q .normal σ' w') :
    wpC P (.seq (.blk [⟨some 7, .fad (.tmp 2) 0, none⟩, ⟨some 8, .ld (.tmp 7), none⟩, ⟨some 9, .fad (.tmp 3) 0, none⟩, ⟨some 10, .ld (.tmp 9), none⟩, ⟨some 11, .bin .neq (.tmp 8) (.tmp 10), none⟩, ⟨some 12, .mv (.tmp 11), none⟩,
        ⟨some 13, .fad (.tmp 2) 2, some (12, false)⟩, ⟨some 14, .ld (.tmp 13), some (12, false)⟩, ⟨some 15, .fad (.tmp 3) 2, some (12, false)⟩, ⟨some 16, .ld (.tmp 15), some (12, false)⟩, ⟨some 17, .beq true (.tmp 14) (.tmp 16), some (12, false)⟩,
        ⟨some 18, .pick (.tmp 12) (.const (.bool true)) (.tmp 17), none⟩, ⟨some 19, .mv (.tmp 18), none⟩,
        ⟨some 20, .fad (.tmp 2) 1, some (19, false)⟩, ⟨some 21, .ld (.tmp 20), some (19, false)⟩, ⟨some 22, .fad (.tmp 3) 1, some (19, false)⟩, ⟨some 23, .ld (.tmp 22), some (19, false)⟩, ⟨some 24, .call (F sSame) [.tmp 21, .tmp 23], some (19, false)⟩,
        ⟨some 25, .lnot (.tmp 24), some (19, false)⟩, ⟨some 26, .pick (.tmp 19) (.const (.bool true)) (.tmp 25), none⟩, ⟨some 27, .mv (.tmp 26), none⟩,
        ⟨some 28, .fad (.tmp 2) 3, some (27, false)⟩, ⟨some 29, .ld (.tmp 28), some (27, false)⟩, ⟨some 30, .len (.tmp 29), some (27, false)⟩, ⟨some 31, .fad (.tmp 3) 3, some (27, false)⟩, ⟨some 32, .ld (.tmp 31), some (27, false)⟩,
        ⟨some 33, .len (.tmp 32), some (27, false)⟩, ⟨some 34, .bin .neq (.tmp 30) (.tmp 33), some (27, false)⟩, ⟨some 35, .pick (.tmp 27) (.const (.bool true)) (.tmp 34), none⟩, ⟨some 36, .mv (.tmp 35), none⟩,
        ⟨some 37, .fad (.tmp 2) 4, some (36, false)⟩, ⟨some 38, .ld (.tmp 37), some (36, false)⟩, ⟨some 39, .len (.tmp 38), some (36, false)⟩, ⟨some 40, .fad (.tmp 3) 4, some (36, false)⟩, ⟨some 41, .ld (.tmp 40), some (36, false)⟩,
        ⟨some 42, .len (.tmp 41), some (36, false)⟩, ⟨some 43, .bin .neq (.tmp 39) (.tmp 42), some (36, false)⟩, ⟨some 44, .pick (.tmp 36) (.const (.bool true)) (.tmp 43), none⟩])
      (.cond (.tmp 44) (.seq (.blk [⟨some 4, .mv (.const (.bool false)), none⟩]) .ret) .skip)) Q σ w := by
  have c1 := fun k => b1.cell k
  have c2 := fun k => b2.cell k
  rw [wpC_seq, wpC_blk]
  refine wpR_step (v := .pointer (some ⟨p1, 0, none⟩)) (by simp [RK.val?, s2, Addr.add_mk]) ?_
  refine wpR_step (v := .int .i64 n) (by simp [RK.val?, c1]) ?_
  refine wpR_step (v := .pointer (some ⟨p2, 0, none⟩)) (by simp [RK.val?, s3, Addr.add_mk]) ?_
  refine wpR_step (v := .int .i64 n) (by simp [RK.val?, c2]) ?_
  refine wpR_step (v := .bool false) (by simp [RK.val?, intBin]) ?_
  refine wpR_step (v := .bool false) (by simp [RK.val?]) ?_
  refine wpR_stepG (v := .pointer (some ⟨p1, 2, none⟩)) (by simp) (by simp [RK.val?, s2, Addr.add_mk]) ?_
  refine wpR_stepG (v := .bool null) (by simp) (by simp [RK.val?, c1]) ?_
  refine wpR_stepG (v := .pointer (some ⟨p2, 2, none⟩)) (by simp) (by simp [RK.val?, s3, Addr.add_mk]) ?_
  refine wpR_stepG (v := .bool null) (by simp) (by simp [RK.val?, c2]) ?_
  refine wpR_stepG (v := .bool false) (by simp) (by simp [RK.val?]) ?_
  refine wpR_step (v := .bool false) (by simp [RK.val?]) ?_
  refine wpR_step (v := .bool false) (by simp [RK.val?]) ?_
  refine wpR_stepG (v := .pointer (some ⟨p1, 1, none⟩)) (by simp) (by simp [RK.val?, s2, Addr.add_mk]) ?_
  refine wpR_stepG (v := sv1) (by simp) (by simp [RK.val?, c1]) ?_
  refine wpR_stepG (v := .pointer (some ⟨p2, 1, none⟩)) (by simp) (by simp [RK.val?, s3, Addr.add_mk]) ?_
  refine wpR_stepG (v := sv2) (by simp) (by simp [RK.val?, c2]) ?_
  refine wpR_runG (by simp) ?_
  have hcall := hS w sv1 sv2 s h1 h2 hs
  simp only [RK.run, List.map_cons, List.map_nil, ev, updo, upd]
  simp only [show (21 : Nat) ≠ 23 by decide, show (21 : Nat) ≠ 22 by decide, if_true, if_false]
  refine hcall.mono ?_
  rintro e w' ⟨rfl, hm⟩
  refine ⟨_, rfl, ?_⟩
  have d1 := fun k => (b1.mod hm (by simp)).cell k
  have d2 := fun k => (b2.mod hm (by simp)).cell k
  refine wpR_stepG (v := .bool false) (by simp) (by simp [RK.val?]) ?_
  refine wpR_step (v := .bool false) (by simp [RK.val?]) ?_
  refine wpR_step (v := .bool false) (by simp [RK.val?]) ?_
  refine wpR_stepG (v := .pointer (some ⟨p1, 3, none⟩)) (by simp) (by simp [RK.val?, s2, Addr.add_mk]) ?_
  refine wpR_stepG (v := .slice lb1 nl lc1) (by simp) (by simp [RK.val?, d1]) ?_
  refine wpR_stepG (v := .int .i64 nl) (by simp) (by simp [RK.val?]) ?_
  refine wpR_stepG (v := .pointer (some ⟨p2, 3, none⟩)) (by simp) (by simp [RK.val?, s3, Addr.add_mk]) ?_
  refine wpR_stepG (v := .slice lb2 nl lc2) (by simp) (by simp [RK.val?, d2]) ?_
  refine wpR_stepG (v := .int .i64 nl) (by simp) (by simp [RK.val?]) ?_
  refine wpR_stepG (v := .bool false) (by simp) (by simp [RK.val?, intBin]) ?_
  refine wpR_step (v := .bool false) (by simp [RK.val?]) ?_
  refine wpR_step (v := .bool false) (by simp [RK.val?]) ?_
  refine wpR_stepG (v := .pointer (some ⟨p1, 4, none⟩)) (by simp) (by simp [RK.val?, s2, Addr.add_mk]) ?_
  refine wpR_stepG (v := .slice ub1 nu uc1) (by simp) (by simp [RK.val?, d1]) ?_
  refine wpR_stepG (v := .int .i64 nu) (by simp) (by simp [RK.val?]) ?_
  refine wpR_stepG (v := .pointer (some ⟨p2, 4, none⟩)) (by simp) (by simp [RK.val?, s3, Addr.add_mk]) ?_
  refine wpR_stepG (v := .slice ub2 nu uc2) (by simp) (by simp [RK.val?, d2]) ?_
  refine wpR_stepG (v := .int .i64 nu) (by simp) (by simp [RK.val?]) ?_
  refine wpR_stepG (v := .bool false) (by simp) (by simp [RK.val?, intBin]) ?_
  refine wpR_step (v := .bool false) (by simp [RK.val?]) ?_
  simp only [wpR, thenC]
  rw [wpC_cond_f (by simp), wpC_skip]
  refine hQ _ w' ?_ ?_ hm
  · simp [s2]
  · simp [s3]
theorem same_loop1 {w : World} {p1 p2 : Nat} {n : Int} {null : Bool} {l : List TR} {sv1 sv2 lv1 lv2 uv1 uv2 : Value} {css1 css2 : List (List Value)} {σ : Sl} {Q : Exit → Sl → World → Prop} (hf : ∀ t ∈ l, SameAt P (F sSameTree) t) (hlen : l.length ≤ 2147483647)
    (b1 : Blk w p1 [.int .i64 n, sv1, .bool null, lv1, uv1]) (b2 : Blk w p2 [.int .i64 n, sv2, .bool null, lv2, uv2])
    (h1 : SlC (fun _ => True) w lv1 l.length css1.flatten) (r1 : RepTL (fun _ => True) w l css1) (h2 : SlC (fun _ => True) w lv2 l.length css2.flatten) (r2 : RepTL (fun _ => True) w l css2)
    (s2 : σ 2 = .pointer (some ⟨p1, 0, none⟩)) (s3 : σ 3 = .pointer (some ⟨p2, 0, none⟩)) (hQ : ∀ σ' w', σ' 2 = .pointer (some ⟨p1, 0, none⟩) → σ' 3 = .pointer (some ⟨p2, 0, none⟩) → Mod [] w w' → Q .normal σ' w') :
    wpC P (.seq (.blk [⟨some 45, .fad (.tmp 2) 3, none⟩, ⟨some 46, .ld (.tmp 45), none⟩, ⟨some 47, .len (.tmp 46), none⟩, ⟨some 48, .mv (.const (.int .i64 0)), none⟩])
      (.block 0 (.loop (.seq (.blk [⟨some 49, .bin .lss (.tmp 48) (.tmp 47), none⟩]) (.seq (.cond (.tmp 49) .skip (.exit 0))
        (.seq (.block 1 (.seq (.blk [⟨some 50, .mv (.tmp 48), none⟩, ⟨some 5, .mv (.tmp 50), none⟩])
          (.seq (.drw [⟨⟨some 51, .fad (.tmp 2) 3, none⟩, false, []⟩, ⟨⟨some 52, .ld (.tmp 51), none⟩, false, []⟩, ⟨⟨some 53, .mv (.tmp 5), none⟩, false, []⟩, ⟨⟨some 54, .iad (.tmp 52) (.tmp 53) 5, none⟩, false, []⟩, ⟨⟨some 55, .ldn (.tmp 54) 5, none⟩, false, []⟩,
                ⟨⟨some 56, .fad (.tmp 3) 3, none⟩, false, []⟩, ⟨⟨some 57, .ld (.tmp 56), none⟩, false, []⟩, ⟨⟨some 58, .mv (.tmp 5), none⟩, false, []⟩, ⟨⟨some 59, .iad (.tmp 57) (.tmp 58) 5, none⟩, false, []⟩, ⟨⟨some 60, .ldn (.tmp 59) 5, none⟩, false, []⟩,
                ⟨⟨some 61, .call (F sSameTree) [.tmp 55, .tmp 60], none⟩, true, []⟩, ⟨⟨some 62, .lnot (.tmp 61), none⟩, false, [10]⟩] [])
            (.cond (.tmp 62) (.seq (.blk [⟨some 4, .mv (.const (.bool false)), none⟩]) .ret) .skip))))
          (.blk [⟨some 63, .bin .add (.tmp 48) (.const (.int .i64 1)), none⟩, ⟨some 48, .mv (.tmp 63), none⟩])))))))
      Q σ w := by
  obtain ⟨lb1, lc1, e1⟩ := h1.shape
  rw [wpC_seq, wpC_blk]
  refine wpR_step (v := .pointer (some ⟨p1, 3, none⟩)) (by simp [RK.val?, s2, Addr.add_mk]) ?_
  refine wpR_step (v := lv1) (by simp [RK.val?, b1.cell]) ?_
  refine wpR_step (v := .int .i64 l.length) (by simp [RK.val?, e1]) ?_
  refine wpR_step (v := .int .i64 0) (by simp [RK.val?]) ?_
  simp only [wpR, thenC]
  rw [wpC_block, wpC_loop]
  refine ⟨fun σ1 w1 => ∃ j, j ≤ l.length ∧ σ1 2 = .pointer (some ⟨p1, 0, none⟩) ∧ σ1 3 = .pointer (some ⟨p2, 0, none⟩) ∧ σ1 47 = .int .i64 l.length ∧ σ1 48 = .int .i64 j ∧ Mod [] w w1,
    fun σ1 _ => l.length - (match σ1 48 with | .int _ j => j.toNat | _ => 0), ⟨0, Nat.zero_le _, by simp [s2], by simp [s3], by simp, by simp, Mod.refl _ _⟩, ?_⟩
  rintro σ1 w1 ⟨j, hj, t2, t3, t47, t48, hm1⟩
  rw [wpC_seq, wpC_blk]
  refine wpR_step (v := .bool (decide ((j : Int) < l.length))) (by simp [RK.val?, t47, t48, intBin]) ?_
  simp only [wpR, thenC]
  rw [wpC_seq]
  by_cases hlt : j < l.length
  · rw [wpC_cond_t (by simp [hlt]), wpC_skip]
    simp only [thenC]
    rw [wpC_seq, wpC_block, wpC_seq, wpC_blk]
    refine wpR_step (v := .int .i64 j) (by simp [RK.val?, t48]) ?_
    refine wpR_step (v := .int .i64 j) (by simp [RK.val?]) ?_
    simp only [wpR, thenC]
    obtain ⟨tj, htj⟩ : ∃ t, l[j]? = some t := ⟨l[j], List.getElem?_eq_getElem hlt⟩
    have hmd : Mod [] w w1.drew := hm1.trans (Mod.drew _ _)
    have g1 := fun k => (b1.mod hmd (by simp)).cell k
    have g2 := fun k => (b2.mod hmd (by simp)).cell k
    have r1d := r1.mod (ok' := fun _ => True) hmd (by simp) fun _ _ h => h
    have r2d := r2.mod (ok' := fun _ => True) hmd (by simp) fun _ _ h => h
    obtain ⟨c1, hc1, hr1⟩ := r1d.nth htj
    obtain ⟨c2, hc2, hr2⟩ := r2d.nth htj
    obtain ⟨pa1, pc1, ep1, -, hcells1⟩ := (h1.mod (ok' := fun _ => True) hmd (by simp) fun _ _ h => h).flat r1.length r1.five hc1
    obtain ⟨pa2, pc2, ep2, -, hcells2⟩ := (h2.mod (ok' := fun _ => True) hmd (by simp) fun _ _ h => h).flat r2.length r2.five hc2
    rw [wpC_seq]
    show wpD P _ _ _ w1.drew _
    refine wpD_one (.bool true) ?_
    refine walkB_step (v := .pointer (some ⟨p1, 3, none⟩)) (by simp [RK.val?, t2, Addr.add_mk]) ?_
    refine walkB_step (v := lv1) (by simp [RK.val?, g1]) ?_
    refine walkB_step (v := .int .i64 j) (by simp [RK.val?]) ?_
    refine walkB_step (v := .pointer (some (pa1.add (j * 5)))) (by simp [RK.val?, ep1, hlt]) ?_
    refine walkB_step (v := .agg c1.toArray) (by simp [RK.val?, hcells1]) ?_
    refine walkB_step (v := .pointer (some ⟨p2, 3, none⟩)) (by simp [RK.val?, t3, Addr.add_mk]) ?_
    refine walkB_step (v := lv2) (by simp [RK.val?, g2]) ?_
    refine walkB_step (v := .int .i64 j) (by simp [RK.val?]) ?_
    refine walkB_step (v := .pointer (some (pa2.add (j * 5)))) (by simp [RK.val?, ep2, hlt]) ?_
    refine walkB_step (v := .agg c2.toArray) (by simp [RK.val?, hcells2]) ?_
    refine walkB_node (fun w5 hm5 _ => ?_) fun u hu => ?_
    · have := hf tj (List.mem_of_getElem? htj) w5 c1 c2 (hr1.mod hm5 (by simp) fun _ _ h => h) (hr2.mod hm5 (by simp) fun _ _ h => h)
      simp only [RK.run, List.map_cons, List.map_nil, ev, updo, upd]
      simp only [show (55 : Nat) ≠ 60 by decide, show (55 : Nat) ≠ 59 by decide, show (55 : Nat) ≠ 58 by decide, show (55 : Nat) ≠ 57 by decide, show (55 : Nat) ≠ 56 by decide, if_true, if_false]
      refine this.mono ?_
      rintro e w6 ⟨rfl, hm6⟩
      exact ⟨_, rfl, hm6, rfl⟩
    obtain ⟨wu, rfl⟩ := hu
    refine walkB_step (v := .bool false) (by simp [RK.val?]) ?_
    simp only [walkB]
    intro w5 hm5
    simp only [wpR, thenC]
    rw [wpC_cond_f (by simp), wpC_skip]
    simp only [inBlockC, thenC]
    have hw : IntKind.i64.wrap ((j : Int) + 1) = ((j + 1 : Nat) : Int) := by
      simp only [IntKind.wrap, IntKind.bits, IntKind.signed]; simp; omega
    rw [wpC_blk]
    refine wpR_step (v := .int .i64 ((j + 1 : Nat) : Int)) (by simp [RK.val?, intBin, t48, hw]) ?_
    refine wpR_step (v := .int .i64 ((j + 1 : Nat) : Int)) (by simp [RK.val?]) ?_
    simp only [wpR, thenC]
    refine ⟨⟨j + 1, hlt, by simp [t2], by simp [t3], by simp [t47], by simp, hmd.trans hm5⟩, ?_⟩
    simp [t48]; show l.length - (j + 1) < l.length - j; omega
  · rw [wpC_cond_f (by simp; omega)]
    simp only [wpC, inBlockC, thenC, if_true]
    exact hQ _ w1 (by simp [t2]) (by simp [t3]) hm1
theorem same_loop2 (hS : ∀ (w : World) (v1 v2 : Value) (l : List UInt8), SlC (fun _ => True) w v1 l.length (u8s l) → SlC (fun _ => True) w v2 l.length (u8s l) → l.length ≤ 2147483647 →
      Calls P (F sSame) [v1, v2].toArray w fun e w' => e = .returned (.bool true) ∧ Mod [] w w')
    {w : World} {p1 p2 : Nat} {n : Int} {null : Bool} {u : List (Nat × List UInt8)} {sv1 sv2 lv1 lv2 uv1 uv2 : Value} {us1 us2 : List (List Value)} {σ : Sl} {Q : Exit → Sl → World → Prop} (hu : ∀ x ∈ u, x.2.length ≤ 2147483647) (hlen : u.length ≤ 2147483647)
    (b1 : Blk w p1 [.int .i64 n, sv1, .bool null, lv1, uv1]) (b2 : Blk w p2 [.int .i64 n, sv2, .bool null, lv2, uv2])
    (h1 : SlC (fun _ => True) w uv1 u.length us1.flatten) (r1 : RepU (fun _ => True) w u us1) (h2 : SlC (fun _ => True) w uv2 u.length us2.flatten) (r2 : RepU (fun _ => True) w u us2)
    (s2 : σ 2 = .pointer (some ⟨p1, 0, none⟩)) (s3 : σ 3 = .pointer (some ⟨p2, 0, none⟩)) (hQ : ∀ σ' w', Mod [] w w' → Q .normal σ' w') :
    wpC P (.seq (.blk [⟨some 64, .fad (.tmp 2) 4, none⟩, ⟨some 65, .ld (.tmp 64), none⟩, ⟨some 66, .len (.tmp 65), none⟩, ⟨some 67, .mv (.const (.int .i64 0)), none⟩])
      (.block 2 (.loop (.seq (.blk [⟨some 68, .bin .lss (.tmp 67) (.tmp 66), none⟩]) (.seq (.cond (.tmp 68) .skip (.exit 2))
        (.seq (.block 3 (.seq (.blk [⟨some 69, .mv (.tmp 67), none⟩, ⟨some 6, .mv (.tmp 69), none⟩])
          (.seq (.drw [⟨⟨some 70, .fad (.tmp 2) 4, none⟩, false, []⟩, ⟨⟨some 71, .ld (.tmp 70), none⟩, false, []⟩, ⟨⟨some 72, .mv (.tmp 6), none⟩, false, []⟩, ⟨⟨some 73, .iad (.tmp 71) (.tmp 72) 2, none⟩, false, []⟩, ⟨⟨some 74, .fad (.tmp 73) 0, none⟩, false, []⟩, ⟨⟨some 75, .ld (.tmp 74), none⟩, false, []⟩,
                ⟨⟨some 76, .fad (.tmp 3) 4, none⟩, false, []⟩, ⟨⟨some 77, .ld (.tmp 76), none⟩, false, []⟩, ⟨⟨some 78, .mv (.tmp 6), none⟩, false, []⟩, ⟨⟨some 79, .iad (.tmp 77) (.tmp 78) 2, none⟩, false, []⟩, ⟨⟨some 80, .fad (.tmp 79) 0, none⟩, false, []⟩, ⟨⟨some 81, .ld (.tmp 80), none⟩, false, []⟩,
                ⟨⟨some 82, .bin .neq (.tmp 75) (.tmp 81), none⟩, false, []⟩, ⟨⟨some 83, .mv (.tmp 82), none⟩, false, []⟩,
                ⟨⟨some 84, .fad (.tmp 2) 4, some (83, false)⟩, false, []⟩, ⟨⟨some 85, .ld (.tmp 84), some (83, false)⟩, false, []⟩, ⟨⟨some 86, .mv (.tmp 6), some (83, false)⟩, false, []⟩, ⟨⟨some 87, .iad (.tmp 85) (.tmp 86) 2, some (83, false)⟩, false, []⟩, ⟨⟨some 88, .fad (.tmp 87) 1, some (83, false)⟩, false, []⟩, ⟨⟨some 89, .ld (.tmp 88), some (83, false)⟩, false, []⟩,
                ⟨⟨some 90, .fad (.tmp 3) 4, some (83, false)⟩, false, []⟩, ⟨⟨some 91, .ld (.tmp 90), some (83, false)⟩, false, []⟩, ⟨⟨some 92, .mv (.tmp 6), some (83, false)⟩, false, []⟩, ⟨⟨some 93, .iad (.tmp 91) (.tmp 92) 2, some (83, false)⟩, false, []⟩, ⟨⟨some 94, .fad (.tmp 93) 1, some (83, false)⟩, false, []⟩, ⟨⟨some 95, .ld (.tmp 94), some (83, false)⟩, false, []⟩,
                ⟨⟨some 96, .call (F sSame) [.tmp 89, .tmp 95], some (83, false)⟩, true, []⟩, ⟨⟨some 97, .lnot (.tmp 96), some (83, false)⟩, false, [26]⟩, ⟨⟨some 98, .pick (.tmp 83) (.const (.bool true)) (.tmp 97), none⟩, false, [26]⟩] [])
            (.cond (.tmp 98) (.seq (.blk [⟨some 4, .mv (.const (.bool false)), none⟩]) .ret) .skip))))
          (.blk [⟨some 99, .bin .add (.tmp 67) (.const (.int .i64 1)), none⟩, ⟨some 67, .mv (.tmp 99), none⟩])))))))
      Q σ w := by
  obtain ⟨lb1, lc1, e1⟩ := h1.shape
  rw [wpC_seq, wpC_blk]
  refine wpR_step (v := .pointer (some ⟨p1, 4, none⟩)) (by simp [RK.val?, s2, Addr.add_mk]) ?_
  refine wpR_step (v := uv1) (by simp [RK.val?, b1.cell]) ?_
  refine wpR_step (v := .int .i64 u.length) (by simp [RK.val?, e1]) ?_
  refine wpR_step (v := .int .i64 0) (by simp [RK.val?]) ?_
  simp only [wpR, thenC]
  rw [wpC_block, wpC_loop]
  refine ⟨fun σ1 w1 => ∃ j, j ≤ u.length ∧ σ1 2 = .pointer (some ⟨p1, 0, none⟩) ∧ σ1 3 = .pointer (some ⟨p2, 0, none⟩) ∧ σ1 66 = .int .i64 u.length ∧ σ1 67 = .int .i64 j ∧ Mod [] w w1,
    fun σ1 _ => u.length - (match σ1 67 with | .int _ j => j.toNat | _ => 0), ⟨0, Nat.zero_le _, by simp [s2], by simp [s3], by simp, by simp, Mod.refl _ _⟩, ?_⟩
  rintro σ1 w1 ⟨j, hj, t2, t3, t47, t48, hm1⟩
  rw [wpC_seq, wpC_blk]
  refine wpR_step (v := .bool (decide ((j : Int) < u.length))) (by simp [RK.val?, t47, t48, intBin]) ?_
  simp only [wpR, thenC]
  rw [wpC_seq]
  by_cases hlt : j < u.length
  · rw [wpC_cond_t (by simp [hlt]), wpC_skip]
    simp only [thenC]
    rw [wpC_seq, wpC_block, wpC_seq, wpC_blk]
    refine wpR_step (v := .int .i64 j) (by simp [RK.val?, t48]) ?_
    refine wpR_step (v := .int .i64 j) (by simp [RK.val?]) ?_
    simp only [wpR, thenC]
    obtain ⟨tj, htj⟩ : ∃ t, u[j]? = some t := ⟨u[j], List.getElem?_eq_getElem hlt⟩
    have hmd : Mod [] w w1.drew := hm1.trans (Mod.drew _ _)
    have g1 := fun k => (b1.mod hmd (by simp)).cell k
    have g2 := fun k => (b2.mod hmd (by simp)).cell k
    have r1d := r1.mod (ok' := fun _ => True) hmd (by simp) fun _ _ h => h
    have r2d := r2.mod (ok' := fun _ => True) hmd (by simp) fun _ _ h => h
    obtain ⟨v1, hc1, hr1⟩ := r1d.nth htj
    obtain ⟨v2, hc2, hr2⟩ := r2d.nth htj
    obtain ⟨pa1, pc1, ep1, hp1, q1, q2⟩ := (h1.mod (ok' := fun _ => True) hmd (by simp) fun _ _ h => h).pair r1d.length r1d.two hc1
    obtain ⟨pa2, pc2, ep2, hp2, q3, q4⟩ := (h2.mod (ok' := fun _ => True) hmd (by simp) fun _ _ h => h).pair r2d.length r2d.two hc2
    rw [wpC_seq]
    show wpD P _ _ _ w1.drew _
    refine wpD_one (.bool true) ?_
    refine walkB_step (v := .pointer (some ⟨p1, 4, none⟩)) (by simp [RK.val?, t2, Addr.add_mk]) ?_
    refine walkB_step (v := uv1) (by simp [RK.val?, g1]) ?_
    refine walkB_step (v := .int .i64 j) (by simp [RK.val?]) ?_
    refine walkB_step (v := .pointer (some (pa1.add (j * 2)))) (by simp [RK.val?, ep1, hlt]) ?_
    refine walkB_step (v := .pointer (some ((pa1.add (j * 2)).add 0))) (by simp [RK.val?]) ?_
    refine walkB_step (v := .int .u32 tj.1) (by simp [RK.val?, q1]) ?_
    refine walkB_step (v := .pointer (some ⟨p2, 4, none⟩)) (by simp [RK.val?, t3, Addr.add_mk]) ?_
    refine walkB_step (v := uv2) (by simp [RK.val?, g2]) ?_
    refine walkB_step (v := .int .i64 j) (by simp [RK.val?]) ?_
    refine walkB_step (v := .pointer (some (pa2.add (j * 2)))) (by simp [RK.val?, ep2, hlt]) ?_
    refine walkB_step (v := .pointer (some ((pa2.add (j * 2)).add 0))) (by simp [RK.val?]) ?_
    refine walkB_step (v := .int .u32 tj.1) (by simp [RK.val?, q3]) ?_
    refine walkB_step (v := .bool false) (by simp [RK.val?, intBin]) ?_
    refine walkB_step (v := .bool false) (by simp [RK.val?]) ?_
    refine walkB_stepG (v := .pointer (some ⟨p1, 4, none⟩)) (by simp) (by simp [RK.val?, t2, Addr.add_mk]) ?_
    refine walkB_stepG (v := uv1) (by simp) (by simp [RK.val?, g1]) ?_
    refine walkB_stepG (v := .int .i64 j) (by simp) (by simp [RK.val?]) ?_
    refine walkB_stepG (v := .pointer (some (pa1.add (j * 2)))) (by simp) (by simp [RK.val?, ep1, hlt]) ?_
    refine walkB_stepG (v := .pointer (some ((pa1.add (j * 2)).add 1))) (by simp) (by simp [RK.val?]) ?_
    refine walkB_stepG (v := v1) (by simp) (by simp [RK.val?, q2]) ?_
    refine walkB_stepG (v := .pointer (some ⟨p2, 4, none⟩)) (by simp) (by simp [RK.val?, t3, Addr.add_mk]) ?_
    refine walkB_stepG (v := uv2) (by simp) (by simp [RK.val?, g2]) ?_
    refine walkB_stepG (v := .int .i64 j) (by simp) (by simp [RK.val?]) ?_
    refine walkB_stepG (v := .pointer (some (pa2.add (j * 2)))) (by simp) (by simp [RK.val?, ep2, hlt]) ?_
    refine walkB_stepG (v := .pointer (some ((pa2.add (j * 2)).add 1))) (by simp) (by simp [RK.val?]) ?_
    refine walkB_stepG (v := v2) (by simp) (by simp [RK.val?, q4]) ?_
    refine walkB_nodeG (by simp) (fun w5 hm5 _ => ?_) fun x hx => ?_
    · have := hS w5 v1 v2 tj.2 (hr1.mod hm5 (by simp) fun _ _ h => h) (hr2.mod hm5 (by simp) fun _ _ h => h) (hu tj (List.mem_of_getElem? htj))
      have e1 : ∀ σ : Sl, σ 89 = v1 → σ 95 = v2 → (RK.call (F sSame) [.tmp 89, .tmp 95]).run P σ w5 fun v w' => Mod [] w5 w' ∧ v = .bool true := by
        intro σ a1 a2
        simp only [RK.run, List.map_cons, List.map_nil, ev, a1, a2]
        refine this.mono ?_
        rintro e w6 ⟨rfl, hm6⟩
        exact ⟨_, rfl, hm6, rfl⟩
      exact e1 _ (by simp) (by simp)
    obtain ⟨wu, rfl⟩ := hx
    refine walkB_stepG (v := .bool false) (by simp) (by simp [RK.val?]) ?_
    refine walkB_step (v := .bool false) (by simp [RK.val?]) ?_
    simp only [walkB]
    intro w5 hm5
    simp only [wpR, thenC]
    rw [wpC_cond_f (by simp), wpC_skip]
    simp only [inBlockC, thenC]
    have hw : IntKind.i64.wrap ((j : Int) + 1) = ((j + 1 : Nat) : Int) := by
      simp only [IntKind.wrap, IntKind.bits, IntKind.signed]; simp; omega
    rw [wpC_blk]
    refine wpR_step (v := .int .i64 ((j + 1 : Nat) : Int)) (by simp [RK.val?, intBin, t48, hw]) ?_
    refine wpR_step (v := .int .i64 ((j + 1 : Nat) : Int)) (by simp [RK.val?]) ?_
    simp only [wpR, thenC]
    refine ⟨⟨j + 1, hlt, by simp [t2], by simp [t3], by simp [t47], by simp, hmd.trans hm5⟩, ?_⟩
    simp [t48]; show u.length - (j + 1) < u.length - j; omega
  · rw [wpC_cond_f (by simp; omega)]
    simp only [wpC, inBlockC, thenC, if_true]
    exact hQ _ w1 hm1
end
end Go.Msk
