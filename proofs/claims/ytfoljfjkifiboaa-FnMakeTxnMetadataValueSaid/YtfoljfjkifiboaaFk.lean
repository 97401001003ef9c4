/- A small language of resolved operations, and what the generic and the generated functions do in it (part 11). -/
import Derived.Test.YtfoljfjkifiboaaFj
import Derived.WideKeyArgs

namespace Go.Msk
open Go.RowKit
set_option maxRecDepth 100000
theorem bodyP_append (ver : Int) (flex : Bool) : ∀ (a b : List FD) (i : Nat) (t : TR), bodyP ver flex (a ++ b) i t = bodyP ver flex a i t ++ bodyP ver flex b (i + a.length) t
  | [], b, i, t => by simp [bodyP]
  | f :: a, b, i, t => by
    rw [List.cons_append, bodyP_cons, bodyP_cons, bodyP_append ver flex a b (i + 1) t, List.append_assoc]
    congr 3
    simp; omega
theorem bodyP_snoc {ver : Int} {flex : Bool} {fs : List FD} {t : TR} {j : Nat} {f : FD} (h : fs[j]? = some f) :
    bodyP ver flex (fs.take (j + 1)) 0 t = bodyP ver flex (fs.take j) 0 t ++ (if f.tag < 0 ∧ f.hasV ver = true then f.enc ver flex (t.at j) else []) := by
  have hl : j < fs.length := (List.getElem?_eq_some_iff.1 h).1
  rw [take_succ_of h, bodyP_append, bodyP_cons]
  have e : 0 + (fs.take j).length = j := by simp; omega
  rw [e]; simp [bodyP]
theorem bodyP_take_le (ver : Int) (flex : Bool) (fs : List FD) (t : TR) (j : Nat) : (bodyP ver flex (fs.take j) 0 t).length ≤ (bodyP ver flex fs 0 t).length := by
  have : bodyP ver flex fs 0 t = bodyP ver flex (fs.take j) 0 t ++ bodyP ver flex (fs.drop j) (0 + (fs.take j).length) t := by rw [← bodyP_append, List.take_append_drop]
  rw [this, List.length_append]; omega
theorem knownP_none {fs : List FD} (h : ∀ f ∈ fs, f.tag < 0) : knownP fs = 0 := by
  have : ∀ (l : List FD), (∀ f ∈ l, f.tag < 0) → l.foldl (fun n f => if f.tag ≥ 0 then max n (f.tag.toNat + 1) else n) 0 = 0 := by
    intro l
    induction l with
    | nil => intro _; rfl
    | cons f l ih =>
      intro hl
      have := hl f List.mem_cons_self
      simp only [List.foldl_cons]
      rw [if_neg (by omega)]
      exact ih fun g hg => hl g (List.mem_cons_of_mem _ hg)
  exact this fs h
theorem insU_kok {k : Nat} {b : List UInt8} (hk : k < 4294967296) : ∀ {l : List (Nat × List UInt8)}, (∀ p ∈ l, p.1 < 4294967296) → ∀ p ∈ insU k b l, p.1 < 4294967296
  | [], _, p, hp => by simp [insU] at hp; subst hp; exact hk
  | (k', b') :: r, h, p, hp => by
    have h1 := h (k', b') List.mem_cons_self
    have h2 : ∀ p ∈ r, p.1 < 4294967296 := fun p hp => h p (List.mem_cons_of_mem _ hp)
    simp only [insU] at hp
    split at hp
    · rcases List.mem_cons.1 hp with rfl | hp
      · exact h1
      · exact insU_kok hk h2 p hp
    · split at hp
      · exact h p hp
      · rcases List.mem_cons.1 hp with rfl | hp
        · exact hk
        · exact h p hp
theorem unknownP_kok {fs : List FD} {u : List (Nat × List UInt8)} (h : ∀ p ∈ u, p.1 < 4294967296) : ∀ p ∈ unknownP fs u, p.1 < 4294967296 := by
  have : ∀ (l out : List (Nat × List UInt8)), (∀ p ∈ l, p.1 < 4294967296) → (∀ p ∈ out, p.1 < 4294967296) → ∀ p ∈ l.foldl (unkStep (knownP fs)) out, p.1 < 4294967296 := by
    intro l
    induction l with
    | nil => intro out _ h2; exact h2
    | cons t l ih =>
      intro out h1 h2
      simp only [List.foldl_cons]
      refine ih _ (fun p hp => h1 p (List.mem_cons_of_mem _ hp)) ?_
      unfold unkStep
      split
      · exact h2
      · exact insU_kok (h1 t List.mem_cons_self) h2
  exact this _ [] (fun p hp => h p (List.mem_of_mem_take hp)) (by simp)
theorem unknownP_length (fs : List FD) (u : List (Nat × List UInt8)) : (unknownP fs u).length ≤ 32767 := by
  have := unk_length (knownP fs) (u.take 32767) []
  unfold unknownP
  simp at this ⊢; omega
theorem SlC.app {N : Nat} {w w' : World} {v x x' : Value} {n : Nat} {cs : List Value} {l l' : List UInt8} (h : SlC (fun b => b < N) w v n cs) (ha : AppD N w x w' x' l') (hd : DRaw w N x l) : SlC (fun b => b < N) w' v n cs :=
  h.mod ha.mod (fun b hb hc => by have := (hd.own (b := b) (by simpa using hb)).1; omega) fun _ _ h => h
section
variable {P : Program} {F : Nat → Nat}
attribute [local simp] gOk updo upd ev RK.val? isShift intBin Addr.add_mk args0 Value.cells undef
theorem part_field (hm : P.follows .mixedOrders = true) (hh : liftF P (F sHas) = some (ir_sHas F)) (ha : liftF P (F sAt) = some (ir_sAt F))
    {w0 w : World} {tb j n c : Nat} {ver : Int} {flex : Bool} {f : FD} {fcs tcs : List Value} {t : TR} {σ : Sl} {a : Addr} {out : List UInt8} {Q : Exit → Sl → World → Prop}
    (hm0 : Mod [] w0 w) (hbt : Blk w0 tb tcs) (hrf : RepF anyB w0 f fcs) (hrt : RepT anyB w0 t tcs) (hk : t.kok) (hF : FieldC P F ver flex f) (htag : f.tag < 0)
    (h1 : σ 1 = .int .i64 ver) (h2 : σ 2 = .bool flex) (h7 : σ 7 = .pointer (some ⟨tb, 0, none⟩)) (h21 : σ 21 = .slice (some a) n c) (h23 : σ 23 = .int .i64 (j : Nat)) (hj : j < n) (hcell : cellsAt w0 (a.add (j * 8)) 0 8 = some fcs)
    (h9 : DRaw w w0.heap.size (σ 9) out) (hlen : (out ++ (if f.tag < 0 ∧ f.hasV ver = true then f.enc ver flex (t.at j) else [])).length ≤ lim)
    (hQ : ∀ σ' w', (∀ s, s < 24 → s ≠ 9 → s ≠ 12 → s ≠ 13 → σ' s = σ s) → DRaw w' w0.heap.size (σ' 9) (out ++ (if f.tag < 0 ∧ f.hasV ver = true then f.enc ver flex (t.at j) else [])) → Mod [] w0 w' → Q .normal σ' w') : wpC P (ir_sPart_1 F) Q σ w := by
  unfold ir_sPart_1
  have hcell1 := cellsAt_below hm0.below _ _ _ hcell
  rw [wpC_seq, wpC_blk]
  refine go1 (v := .int .i64 (j : Nat)) rfl (by simp [h23]) ?_
  refine go1 (v := .pointer (some (a.add (j * 8)))) rfl (by simp [h21, h23, hj]) ?_
  refine go1 (v := .agg fcs.toArray) rfl (by simp [hcell1]) ?_
  refine goAlloc fun w2 hb2 hm2 => ?_
  refine go1 (v := .int .i64 (j : Nat)) rfl (by simp) ?_
  refine goSt (b := w.heap.size) (v := .agg fcs.toArray) (by simp) (by simp) hb2 (by simp [hrf.eight]) rfl (by simpa using hrf.oneCell) fun w3 hb3 hm3 => ?_
  have hb3 : Blk w3 w.heap.size fcs := by simpa using hb3
  have hm13 : Mod [] w w3 := Mod.drop (b := w.heap.size) (S := []) (hm2.nil.trans hm3) (Nat.le_refl _)
  have hm03 := hm0.trans hm13
  refine wpR_done ?_
  have c3 := fun k => hb3.cell k
  have ht4 : fcs[4]? = some (.int .i64 f.tag) := by cases hrf; rfl
  rw [wpC_seq, wpC_blk]
  refine go1 (v := .pointer (some ⟨w.heap.size, 4, none⟩)) rfl (by simp) ?_
  refine go1 (v := .int .i64 f.tag) rfl (by simp [c3, ht4]) ?_
  refine go1 (v := .bool true) rfl (by simp [htag]) ?_
  refine go1 (v := .bool true) rfl (by simp) ?_
  refine go1 (v := .agg fcs.toArray) (by simp) (by simp [cellsAt_of' hb3.cells hrf.eight]) ?_
  refine go1 (v := .int .i64 ver) (by simp) (by simp [h1]) ?_
  refine goCall (by simp) (vs := [.agg fcs.toArray, .int .i64 ver]) (by simp) (has_call hm hh (hrf.keep hm03)) ?_
  rintro e w4 ⟨rfl, hm4⟩
  have hm04 := hm03.trans hm4
  refine ⟨_, rfl, ?_⟩
  refine go1 (v := .bool (f.hasV ver)) rfl (by simp [FD.hasV]) (wpR_done ?_)
  cases hhas : f.hasV ver with
  | false =>
    rw [wpC_cond_f (by simp), wpC_skip]
    have e0 : (if f.tag < 0 ∧ f.hasV ver = true then f.enc ver flex (t.at j) else []) = [] := by simp [hhas]
    rw [e0, List.append_nil] at hQ
    refine hQ _ w4 (fun s s1 s2 s3 s4 => ?_) (by simpa using h9.keep (hm13.trans hm4)) hm04
    simp only [updo, upd]
    repeat rw [if_neg (by omega)]
  | true =>
    have e0 : (if f.tag < 0 ∧ f.hasV ver = true then f.enc ver flex (t.at j) else []) = f.enc ver flex (t.at j) := by simp [hhas, htag]
    rw [e0] at hQ hlen
    rw [wpC_cond_t (by simp)]
    simp only [wpC]
    have hmd : Mod [] w0 w4.drew := hm04.trans (Mod.drew _ _)
    have hb4 : Blk w4.drew w.heap.size fcs := (hb3.mod hm4 (by simp)).mod (Mod.drew [] _) (by simp)
    have hbt4 := hbt.mod hmd (by simp)
    refine wpD_of_B (fun i v w' => match i with | 6 => ∃ cs, v = .agg cs.toArray ∧ RepT anyB w' (t.at j) cs | 7 => DRaw w' w0.heap.size v (f.enc ver flex (t.at j)) | _ => True) (by
      intro i v w w' h hm
      split at h
      · obtain ⟨cs, e1, e2⟩ := h; exact ⟨cs, e1, e2.keep hm⟩
      · exact h.keep hm
      · trivial) ?_
    refine bo1 (v := σ 9) rfl (by simp) ?_
    refine bo1 (v := .agg fcs.toArray) rfl (by simp [cellsAt_of' hb4.cells hrf.eight]) ?_
    refine bo1 (v := .int .i64 ver) rfl (by simp [h1]) ?_
    refine bo1 (v := .bool flex) rfl (by simp [h2]) ?_
    refine bo1 (v := .agg tcs.toArray) rfl (by simp [h7, cellsAt_of' hbt4.cells hrt.five]) ?_
    refine bo1 (v := .int .i64 (j : Nat)) rfl (by simp) ?_
    refine boCall (vs := [.agg tcs.toArray, .int .i64 (j : Nat)]) rfl (by simp) (fun w' hm' _ => (at_call hm ha (hrt.keep (hmd.trans hm'))).mono ?_) ?_
    · rintro e w'' ⟨cs, rfl, hr, hm2⟩; exact ⟨_, rfl, hm2, cs, rfl, hr⟩
    rintro v6 ⟨_, cs6, rfl, -⟩
    refine boCall (vs := [.agg fcs.toArray, .int .i64 ver, .bool flex, .agg cs6.toArray]) rfl (by simp) (fun w' hm' hkn => ?_) ?_
    · have hk6 := known_get (j := 6) (t := 42) hkn (by simp) rfl rfl rfl rfl
      obtain ⟨cs, e1, e2⟩ := hk6
      simp only [updo, upd, if_true, Value.agg.injEq, Array.mk.injEq] at e1
      have e1 : cs6 = cs := by simpa using e1
      subst e1
      refine (hF w' fcs (t.at j) cs6 (hrf.keep (hmd.trans hm')) e2 (hk.at j) (by simp only [List.length_append] at hlen; omega)).mono ?_
      rintro e w'' ⟨v, rfl, hd, hm2⟩; exact ⟨v, rfl, hm2, hd.low (hmd.trans hm').size⟩
    rintro v7 -
    intro w' hm' hkn
    have hk7 := known_get (j := 7) (t := 43) hkn (by simp) rfl rfl rfl rfl
    have d7 : DRaw w' w0.heap.size v7 (f.enc ver flex (t.at j)) := by simpa using hk7
    have hdr : DRaw w' w0.heap.size (σ 9) out := h9.keep ((hm13.trans hm4).trans ((Mod.drew _ _).trans hm'))
    have hmw := hmd.trans hm'
    refine goC rfl ?_
    refine append_run (n0 := w0.heap.size) (v := σ 9) (by simp) hdr hmw.size (k := f.enc ver flex (t.at j)) (by simpa using d7.src) (by simpa using hlen) fun v' w5 ha => ?_
    refine go1 (v := v') rfl (by simp) (goEnd ?_)
    refine hQ _ w5 (fun s s1 s2 s3 s4 => ?_) (by simpa using ha.raw) (ha.mod0 hdr hmw)
    simp only [updo, upd]
    repeat rw [if_neg (by omega)]
theorem part_tag (hm : P.follows .mixedOrders = true) (hu : liftF P (F sUvarint) = some (ir_sUvarint F)) (hw : liftF P (F sWhole) = some (ir_sWhole F))
    {w0 w : World} {j n c k : Nat} {b out : List UInt8} {sv : Value} {σ : Sl} {a : Addr} {Q : Exit → Sl → World → Prop} (hm0 : Mod [] w0 w) (h100 : σ 100 = .slice (some a) n c) (h102 : σ 102 = .int .i64 (j : Nat)) (hj : j < n) (hn : n ≤ 32767) (h11 : σ 11 = .int .i64 (j : Nat)) (hk : k < 4294967296)
    (hcell : cellsAt w0 (a.add (j * 2)) 0 2 = some [.int .u32 (k : Nat), sv]) (hsv : SlC anyB w0 sv b.length (u8s b)) (h10 : DRaw w w0.heap.size (σ 10) out) (hlen : (out ++ (uvE k ++ (uvE (wholeP b).length ++ wholeP b))).length ≤ lim)
    (hQ : ∀ σ' w', (∀ s, s < 104 → s ≠ 10 → s ≠ 11 → s ≠ 19 → s ≠ 20 → σ' s = σ s) → σ' 11 = .int .i64 ((j + 1 : Nat) : Int) → DRaw w' w0.heap.size (σ' 10) (out ++ (uvE k ++ (uvE (wholeP b).length ++ wholeP b))) → Mod [] w0 w' → Q .normal σ' w') : wpC P (ir_sPart_5 F) Q σ w := by
  unfold ir_sPart_5
  have hcell1 := cellsAt_below hm0.below _ _ _ hcell
  rw [wpC_seq, wpC_blk]
  refine go1 (v := .pointer (some (a.add (j * 2)))) rfl (by simp [h100, h102, hj]) ?_
  refine go1 (v := .agg #[.int .u32 (k : Nat), sv]) rfl (by simp [hcell1]) ?_
  refine goAlloc fun w1 hb1 hm1 => ?_
  refine goSt (b := w.heap.size) (v := .agg #[.int .u32 (k : Nat), sv]) (by simp) (by simp) hb1 rfl rfl (two_one hsv.one) fun w2 hb2 hm2 => ?_
  have hb2 : Blk w2 w.heap.size [.int .u32 (k : Nat), sv] := by simpa using hb2
  have hm12 : Mod [] w w2 := Mod.drop (b := w.heap.size) (S := []) (hm1.nil.trans hm2) (Nat.le_refl _)
  have hm02 := hm0.trans hm12
  have c2 := fun k => hb2.cell k
  have hsv2 : SlC (fun b => b < w0.heap.size) w2 sv b.length (u8s b) := hsv.lowN.mod hm02 (by simp) fun _ _ h => h
  refine wpR_done ?_
  rw [wpC_seq, wpC_blk]
  refine go1 (v := .pointer (some ⟨w.heap.size, 1, none⟩)) rfl (by simp) ?_
  refine go1 (v := sv) rfl (by simp [c2]) ?_
  refine goCall rfl (vs := [sv]) (by simp) (whole_call hm hw hsv2) ?_
  rintro e w3 ⟨ew, v3, rfl, hv3⟩
  rw [ew]
  refine ⟨v3, rfl, go1 (v := v3) rfl (by simp) (wpR_done ?_)⟩
  obtain ⟨vb, vc, ev3⟩ := hv3.shape
  have hwl : (wholeP b).length ≤ 32767 := by simp [wholeP]; omega
  simp only [List.length_append] at hlen
  rw [wpC_seq, wpC_blk]
  refine go1 (v := σ 10) rfl (by simp) ?_
  refine go1 (v := .pointer (some ⟨w.heap.size, 0, none⟩)) rfl (by simp) ?_
  refine go1 (v := .int .u32 (k : Nat)) rfl (by simp [c2]) ?_
  refine go1 (v := .int .u64 (k : Nat)) rfl (by simp [u64_natS (n := k) (by omega)]) ?_
  refine goCall rfl (vs := [.int .u64 (k : Nat)]) (by simp) (uvarint_call hm hu (by omega)) ?_
  rintro e w4 ⟨v4, rfl, hd4, hm4⟩
  refine ⟨v4, rfl, ?_⟩
  have hm04 := hm02.trans hm4
  have r0 : DRaw w4 w0.heap.size (σ 10) out := h10.keep (hm12.trans hm4)
  refine goC rfl ?_
  refine append_run (n0 := w0.heap.size) (v := σ 10) (by simp) r0 hm04.size (k := uvE k) (by simpa using hd4.src) (by omega) fun v5 w5 ha5 => ?_
  have hm05 := ha5.mod0 r0 hm04
  have hv35 : SlC (fun b => b < w0.heap.size) w5 v3 (wholeP b).length (u8s (wholeP b)) := (hv3.mod hm4 (by simp) fun _ _ h => h).app ha5 r0
  refine go1 (v := v3) rfl (by simp) ?_
  refine go1 (v := .int .i64 ((wholeP b).length : Nat)) rfl (by simp [ev3]) ?_
  refine go1 (v := .int .u64 ((wholeP b).length : Nat)) rfl (by simp [u64_natS (n := (wholeP b).length) (by omega)]) ?_
  refine goCall rfl (vs := [.int .u64 ((wholeP b).length : Nat)]) (by simp) (uvarint_call hm hu (by omega)) ?_
  rintro e w6 ⟨v6, rfl, hd6, hm6⟩
  refine ⟨v6, rfl, ?_⟩
  have r1 := ha5.raw.keep hm6
  refine goC rfl ?_
  refine append_run (n0 := w0.heap.size) (v := v5) (by simp) r1 (hm05.trans hm6).size (k := uvE (wholeP b).length) (by simpa using hd6.src) (by simp only [List.length_append]; omega) fun v7 w7 ha7 => ?_
  have hm07 := ha7.mod0 r1 (hm05.trans hm6)
  have hv37 : SlC (fun b => b < w0.heap.size) w7 v3 (wholeP b).length (u8s (wholeP b)) := (hv35.mod hm6 (by simp) fun _ _ h => h).app ha7 r1
  refine go1 (v := v3) rfl (by simp) ?_
  refine goC rfl ?_
  refine append_run (n0 := w0.heap.size) (v := v7) (by simp) ha7.raw hm07.size (k := wholeP b) (by simpa using hv37.src) (by simp only [List.length_append]; omega) fun v8 w8 ha8 => ?_
  have hm08 := ha8.mod0 ha7.raw hm07
  refine go1 (v := v8) rfl (by simp) (wpR_done ?_)
  rw [wpC_blk]
  refine go1 (v := .int .i64 (j : Nat)) rfl (by simp [h11]) ?_
  refine go1 (v := .int .i64 ((j + 1 : Nat) : Int)) rfl (by
    simp only [RK.val?, ev, updo, upd, if_true, isShift, decide_true, Bool.or_true, intBin]
    rw [show (j : Int) + 1 = ((j + 1 : Nat) : Int) by omega, i64_nat (by omega)]) ?_
  refine go1 (v := .int .i64 ((j + 1 : Nat) : Int)) rfl (by simp) (goEnd ?_)
  refine hQ _ w8 (fun s s1 s2 s3 s4 s5 => ?_) (by simp) (by simpa [List.append_assoc] using ha8.raw) hm08
  simp only [updo, upd]
  repeat rw [if_neg (by omega)]
theorem tagsP_snoc {u : List (Nat × List UInt8)} {j : Nat} {p : Nat × List UInt8} (h : u[j]? = some p) : tagsP (u.take (j + 1)) = tagsP (u.take j) ++ (uvE p.1 ++ (uvE (wholeP p.2).length ++ wholeP p.2)) := flatMap_snoc h
theorem part_call (hm : P.follows .mixedOrders = true) (h : liftF P (F sPart) = some (ir_sPart F)) (hh : liftF P (F sHas) = some (ir_sHas F)) (ha : liftF P (F sAt) = some (ir_sAt F)) (hu : liftF P (F sUvarint) = some (ir_sUvarint F)) (hw : liftF P (F sWhole) = some (ir_sWhole F))
    (hkn : liftF P (F sKnown) = some (ir_sKnown F)) (hun : liftF P (F sUnknown) = some (ir_sUnknown F)) {ver : Int} {flex : Bool} {fs : List FD} (hF : ∀ f ∈ fs, FieldC P F ver flex f) (htag : ∀ f ∈ fs, f.tag < 0) (hfl : fs.length < 2147483648) : PartC P F ver flex fs := by
  intro w v css t ts hv hr ht hk hlen
  have hk5 := ht.five
  unfold ir_sPart at h
  refine call_of h hm (by simp) ?_
  clear h
  rw [wpC_seq, wpC_blk]
  refine goBox (v := .agg ts.toArray) (by simp) fun w1 hb1 hm1 => ?_
  have hb1 : Blk w1 w.heap.size ts := by simpa using hb1
  refine go1 rfl rfl (wpR_done ?_)
  rw [wpC_seq, wpC_blk]
  refine go1 rfl rfl (go1 rfl rfl (wpR_done ?_))
  rw [wpC_seq, wpC_blk]
  refine go1 rfl rfl (wpR_done ?_)
  obtain ⟨vb, vc, ev'⟩ := hv.shape
  rw [wpC_seq, wpC_seq, wpC_blk]
  refine go1 (v := v) rfl (by simp) ?_
  refine go1 (v := .int .i64 fs.length) rfl (by simp [ev']) ?_
  refine go1 rfl rfl (wpR_done ?_)
  have hv1 := hv.keep hm1
  have hr1 := hr.keep hm1
  have ht1 := ht.keep hm1
  have hbody : (bodyP ver flex fs 0 t).length ≤ lim := by unfold partP joinP at hlen; simp only [List.length_append] at hlen; omega
  refine rangeLoop (n := fs.length) (fun j σ w' => σ 21 = v ∧ σ 23 = .int .i64 (j : Nat) ∧ σ 22 = .int .i64 (fs.length : Nat) ∧ σ 0 = v ∧ σ 1 = .int .i64 ver ∧ σ 2 = .bool flex ∧ σ 7 = .pointer (some ⟨w.heap.size, 0, none⟩) ∧ σ 10 = .slice none 0 0 ∧ σ 11 = .int .i64 0 ∧
      DRaw w' w1.heap.size (σ 9) (bodyP ver flex (fs.take j) 0 t) ∧ Mod [] w1 w') (by omega) (by omega) (fun j σ w h => ⟨h.2.1, h.2.2.1⟩) ?_ ?_ ?_
  · exact ⟨by simp, by simp, by simp, by simp, by simp, by simp, by simp, by simp, by simp, by simpa [bodyP] using DRaw.nil w1 _, Mod.refl _ _⟩
  · rintro j σ w2 hj ⟨h21, h23, h22, h0, h1, h2, h7, h10, h11, hd, hm2⟩
    obtain ⟨f, hf⟩ : ∃ f, fs[j]? = some f := ⟨_, List.getElem?_eq_getElem hj⟩
    obtain ⟨fcs, hcs, hrep⟩ := hr1.nth hf
    obtain ⟨a, c, ea, hjn, hcell⟩ := hv1.flat hr1.length hr1.eight hcs
    have hfm := List.mem_of_getElem? hf
    have hsn := bodyP_snoc (ver := ver) (flex := flex) (t := t) hf
    refine part_field (w0 := w1) (n := fs.length) (c := c) (a := a) (f := f) (t := t) hm hh ha hm2 hb1 hrep ht1 hk (hF f hfm) (htag f hfm) (by simp [h1]) (by simp [h2]) (by simp [h7]) (by simp [h21, ea]) (by simp [h23]) hj hcell (by simpa using hd) (by
      rw [← hsn]; exact Nat.le_trans (bodyP_take_le ver flex fs t _) hbody) fun σ' w' hfr hd' hm' => ?_
    rw [← hsn] at hd'
    simp only [rngP]
    have g : ∀ s, s < 24 → s ≠ 9 → s ≠ 12 → s ≠ 13 → σ' s = σ s := fun s s1 s2 s3 s4 => by rw [hfr s s1 s2 s3 s4, upd_ne _ _ (by omega)]
    refine ⟨by rw [g 23 (by omega) (by omega) (by omega) (by omega)]; exact h23, ?_, by simp, ?_, ?_, ?_, ?_, ?_, ?_, ?_, ?_, hm'⟩
    · simp only [upd]; rw [if_neg (by omega), if_neg (by omega), g 21 (by omega) (by omega) (by omega) (by omega)]; exact h21
    · simp only [upd]; rw [if_neg (by omega), if_neg (by omega), g 22 (by omega) (by omega) (by omega) (by omega)]; exact h22
    · simp only [upd]; rw [if_neg (by omega), if_neg (by omega), g 0 (by omega) (by omega) (by omega) (by omega)]; exact h0
    · simp only [upd]; rw [if_neg (by omega), if_neg (by omega), g 1 (by omega) (by omega) (by omega) (by omega)]; exact h1
    · simp only [upd]; rw [if_neg (by omega), if_neg (by omega), g 2 (by omega) (by omega) (by omega) (by omega)]; exact h2
    · simp only [upd]; rw [if_neg (by omega), if_neg (by omega), g 7 (by omega) (by omega) (by omega) (by omega)]; exact h7
    · simp only [upd]; rw [if_neg (by omega), if_neg (by omega), g 10 (by omega) (by omega) (by omega) (by omega)]; exact h10
    · simp only [upd]; rw [if_neg (by omega), if_neg (by omega), g 11 (by omega) (by omega) (by omega) (by omega)]; exact h11
    · simpa [upd] using hd'
  · rintro σ w2 ⟨h21, h23, h22, h0, h1, h2, h7, h10, h11, hd, hm2⟩
    rw [List.take_of_length_le (Nat.le_refl _)] at hd
    have hm02 := hm1.trans hm2
    simp only [thenC]
    rw [wpC_seq, wpC_seq, wpC_blk]
    refine go1 (v := .bool flex) rfl (by simp [h2]) ?_
    refine go1 (v := .bool (!flex)) rfl (by simp) (wpR_done ?_)
    cases flex with
    | false =>
      rw [wpC_cond_t (by simp), wpC_seq, wpC_blk]
      refine go1 (v := σ 9) rfl (by simp) ?_
      refine go1 (v := σ 9) rfl (by simp) (wpR_done ?_)
      repeat first | refine retThen ?_ | refine retBlk ?_
      refine ret1 (v := σ 9) (by simp) ⟨_, rfl, ?_, hm02⟩
      have := hd.low hm1.size
      simpa [partP, joinP] using this
    | true =>
      rw [wpC_cond_f (by simp), wpC_skip]
      simp only [thenC]
      rw [wpC_seq, wpC_seq, wpC_blk]
      refine go1 (v := v) rfl (by simp [h0]) ?_
      refine goCall rfl (vs := [v]) (by simp) (known_call hm hkn (hv.keep hm02) (hr.keep hm02) hfl (fun f hf => by have := htag f hf; omega)) ?_
      rintro e w3 ⟨rfl, hm3⟩
      refine ⟨_, rfl, ?_⟩
      rw [knownP_none htag]
      have hm03 := hm02.trans hm3
      refine go1 (v := .int .i64 0) rfl (by simp [wrap_zero]) ?_
      refine go1 rfl rfl (wpR_done ?_)
      rw [wpC_block, wpC_loop]
      refine ⟨fun σ' w' => w' = w3 ∧ σ' 52 = .int .i64 0 ∧ σ' 51 = .int .i64 0 ∧ σ' 0 = v ∧ σ' 7 = .pointer (some ⟨w.heap.size, 0, none⟩) ∧ σ' 10 = .slice none 0 0 ∧ σ' 11 = .int .i64 0 ∧ σ' 9 = σ 9, fun _ _ => 0, ⟨rfl, by simp, by simp, by simp [h0], by simp [h7], by simp [h10], by simp [h11], by simp⟩, ?_⟩
      rintro σ3 w3' ⟨ew, k52, k51, k0, k7, k10, k11, k9⟩
      rw [ew]
      rw [wpC_seq, wpC_blk]
      refine go1 (v := .bool false) rfl (by simp [k52, k51]) (wpR_done ?_)
      rw [wpC_seq, wpC_cond_f (by simp)]
      refine wpC_exit_out3 ?_
      simp only [thenC]
      rw [wpC_seq, wpC_seq, wpC_blk]
      have hb3 : Blk w3 w.heap.size ts := hb1.mod (hm2.trans hm3) (by simp)
      have c3 := fun k => hb3.cell k
      have ht3 := ht.keep hm03
      cases ht with
      | @mk n s tn l u tsv lv uv tss uss g1 g2 g3 g4 g5 =>
      have hku : ∀ p ∈ u, p.1 < 4294967296 := by simp only [TR.kok] at hk; exact hk.1
      refine go1 (v := v) rfl (by simp [k0]) ?_
      refine go1 (v := .pointer (some ⟨w.heap.size, 4, none⟩)) rfl (by simp [k7]) ?_
      refine go1 (v := uv) rfl (by simp [c3]) ?_
      refine goCall rfl (vs := [v, uv]) (by simp) (unknown_call hm hun hkn (hv.keep hm03) (hr.keep hm03) hfl (fun f hf => by have := htag f hf; omega) (g4.keep hm03) (g5.keep hm03)) ?_
      rintro e w4 ⟨lv4, ucs, rfl, hl4, hu4, hm4⟩
      refine ⟨_, rfl, ?_⟩
      have hm04 := hm03.trans hm4
      have hpl : partP ver true fs (.mk n s tn l u) = bodyP ver true fs 0 (.mk n s tn l u) ++ (uvE (unknownP fs u).length ++ tagsP (unknownP fs u)) := by simp [partP, joinP, TR.u]
      rw [hpl] at hlen ⊢
      have hku' := unknownP_kok (fs := fs) hku
      have hul := unknownP_length fs u
      generalize unknownP fs u = U at hl4 hu4 hlen hku' hul ⊢
      obtain ⟨ub, uc, eu⟩ := hl4.shape
      have hdr : DRaw w4 w1.heap.size (σ 9) (bodyP ver true fs 0 (.mk n s tn l u)) := hd.keep (hm3.trans hm4)
      refine go1 (v := .int .i64 (U.length : Nat)) rfl (by simp [eu]) ?_
      refine go1 rfl rfl (wpR_done ?_)
      refine rangeLoop (n := U.length)
        (fun j σ' w' => σ' 100 = lv4 ∧ σ' 102 = .int .i64 (j : Nat) ∧ σ' 101 = .int .i64 (U.length : Nat) ∧ σ' 11 = .int .i64 (j : Nat) ∧ σ' 9 = σ 9 ∧ DRaw w' w4.heap.size (σ' 10) (tagsP (U.take j)) ∧ Mod [] w4 w')
        (by omega) (by omega) (fun j σ w h => ⟨h.2.1, h.2.2.1⟩) ?_ ?_ ?_
      · exact ⟨by simp, by simp, by simp, by simp [k11], by simp [k9], by simpa [tagsP, k10] using DRaw.nil w4 _, Mod.refl _ _⟩
      · rintro j σ5 w5 hj ⟨q100, q102, q101, q11, q9, qd, qm⟩
        obtain ⟨p, hp⟩ : ∃ p, U[j]? = some p := ⟨_, List.getElem?_eq_getElem hj⟩
        obtain ⟨psv, hps, hpsv⟩ := hu4.nth hp
        obtain ⟨a, c, ea, hjn, hcell⟩ := hl4.flat hu4.length hu4.two hps
        have hpm := List.mem_of_getElem? hp
        have hsn := tagsP_snoc hp
        refine part_tag (w0 := w4) (n := U.length) (c := c) (a := a) (k := p.1) (b := p.2) hm hu hw qm (by simp [q100, ea]) (by simp [q102]) hj hul (by simp [q11]) (hku' p hpm) hcell hpsv (by simpa using qd) (by
          rw [← hsn]
          have := flatMap_take_le (fun p : Nat × List UInt8 => uvE p.1 ++ (uvE (wholeP p.2).length ++ wholeP p.2)) U (j + 1)
          simp only [List.length_append] at hlen
          unfold tagsP at hlen ⊢; omega) fun σ' w' hfr h11' hd' hm' => ?_
        rw [← hsn] at hd'
        simp only [rngP]
        have g : ∀ s, s < 104 → s ≠ 10 → s ≠ 11 → s ≠ 19 → s ≠ 20 → s ≠ 103 → σ' s = σ5 s := fun s s1 s2 s3 s4 s5 s6 => by rw [hfr s s1 s2 s3 s4 s5, upd_ne _ _ s6]
        refine ⟨by rw [g 102 (by omega) (by omega) (by omega) (by omega) (by omega) (by omega)]; exact q102, ?_, by simp, ?_, ?_, ?_, ?_, hm'⟩
        · simp only [upd]; rw [if_neg (by omega), if_neg (by omega), g 100 (by omega) (by omega) (by omega) (by omega) (by omega) (by omega)]; exact q100
        · simp only [upd]; rw [if_neg (by omega), if_neg (by omega), g 101 (by omega) (by omega) (by omega) (by omega) (by omega) (by omega)]; exact q101
        · simp only [upd]; rw [if_neg (by omega), if_neg (by omega)]; exact h11'
        · simp only [upd]; rw [if_neg (by omega), if_neg (by omega), g 9 (by omega) (by omega) (by omega) (by omega) (by omega) (by omega)]; exact q9
        · simpa [upd] using hd'
      · rintro σ5 w5 ⟨q100, q102, q101, q11, q9, qd, qm⟩
        rw [List.take_of_length_le (Nat.le_refl _)] at qd
        have hm05 := hm04.trans qm
        simp only [List.length_append] at hlen
        simp only [thenC]
        rw [wpC_seq, wpC_blk]
        refine go1 (v := σ 9) rfl (by simp [q9]) ?_
        refine go1 (v := .int .i64 (U.length : Nat)) rfl (by simp [q11]) ?_
        refine go1 (v := .int .u64 (U.length : Nat)) rfl (by simp [u64_natS (n := U.length) (by omega)]) ?_
        refine goCall rfl (vs := [.int .u64 (U.length : Nat)]) (by simp) (uvarint_call hm hu (by omega)) ?_
        rintro e w6 ⟨v6, rfl, hd6, hm6⟩
        refine ⟨v6, rfl, ?_⟩
        have r0 := hdr.keep (qm.trans hm6)
        have hm16 : Mod [] w1 w6 := (hm2.trans hm3).trans ((hm4.trans qm).trans hm6)
        refine goC rfl ?_
        refine append_run (n0 := w1.heap.size) (v := σ 9) (by simp) r0 hm16.size (k := uvE U.length) (by simpa using hd6.src) (by omega) fun v7 w7 ha7 => ?_
        have hm17 := ha7.mod0 r0 hm16
        have qd7 : DRaw w7 w4.heap.size (σ5 10) (tagsP U) := (qd.keep hm6).mod ha7.mod fun b hb hc => by
          have h1 := (qd.own hb).1
          have h2 := (hdr.own (b := b) (by simpa using hc)).2
          omega
        refine go1 (v := σ5 10) rfl (by simp) ?_
        refine goC rfl ?_
        refine append_run (n0 := w1.heap.size) (v := v7) (by simp) ha7.raw hm17.size (k := tagsP U) (by simpa using qd7.src) (by simp only [List.length_append]; omega) fun v8 w8 ha8 => ?_
        have hm18 := ha8.mod0 ha7.raw hm17
        refine go1 (v := v8) rfl (by simp) (wpR_done ?_)
        refine ret1 (v := v8) (by simp) ⟨v8, rfl, ?_, hm1.trans hm18⟩
        have := ha8.raw.low hm1.size
        simpa [List.append_assoc] using this
end
end Go.Msk

namespace Go.Msk
open Go.RowKit
set_option maxRecDepth 100000
mutual
/-- No field, of the parts within too, has a tag; the lists of fields are short. -/
def FD.plain : FD → Bool
  | .mk _ _ _ _ tag _ _ sub => decide (tag < 0) && (decide (sub.length < 1000) && FD.plainL sub)
def FD.plainL : List FD → Bool
  | [] => true
  | f :: l => f.plain && FD.plainL l
end
structure SLib (P : Program) (F : Nat → Nat) : Prop where
  mixed : P.follows .mixedOrders = true
  has : liftF P (F sHas) = some (ir_sHas F)
  null : liftF P (F sNull) = some (ir_sNull F)
  whole : liftF P (F sWhole) = some (ir_sWhole F)
  things : liftF P (F sThings) = some (ir_sThings F)
  at_ : liftF P (F sAt) = some (ir_sAt F)
  uvarint : liftF P (F sUvarint) = some (ir_sUvarint F)
  fixed : liftF P (F sFixed) = some (ir_sFixed F)
  width : liftF P (F sWidth) = some (ir_sWidth F)
  counted : liftF P (F sCounted) = some (ir_sCounted F)
  value : liftF P (F sValue) = some (ir_sValue F)
  field : liftF P (F sField) = some (ir_sField F)
  known : liftF P (F sKnown) = some (ir_sKnown F)
  unknown : liftF P (F sUnknown) = some (ir_sUnknown F)
  part : liftF P (F sPart) = some (ir_sPart F)
  write : liftF P (F sWrite) = some (ir_sWrite F)
theorem FD.plainL_mem : ∀ {l : List FD}, FD.plainL l = true → ∀ f ∈ l, f.plain = true
  | [], _, f, h => by simp at h
  | a :: l, hl, f, h => by
    simp only [FD.plainL, Bool.and_eq_true] at hl
    rcases List.mem_cons.1 h with rfl | h
    · exact hl.1
    · exact FD.plainL_mem hl.2 f h
theorem FD.plain.tag {f : FD} (h : f.plain = true) : f.tag < 0 := by
  cases f
  simp only [FD.plain, Bool.and_eq_true, decide_eq_true_eq] at h
  exact h.1
section
variable {P : Program} {F : Nat → Nat}
mutual
theorem FD.fieldC (L : SLib P F) (ver : Int) (flex : Bool) : ∀ f : FD, f.plain = true → FieldC P F ver flex f
  | .mk kind frm to null tag dfl of sub, h => by
    simp only [FD.plain, Bool.and_eq_true, decide_eq_true_eq] at h
    have hp : PartC P F ver flex sub := part_call L.mixed L.part L.has L.at_ L.uvarint L.whole L.known L.unknown (FD.fieldsC L ver flex sub h.2.2) (fun f hf => FD.plain.tag (FD.plainL_mem h.2.2 f hf)) (by omega)
    exact field_call L.mixed L.field L.null L.things L.counted L.uvarint L.fixed (fun k => value_call L.mixed L.value L.whole L.counted L.uvarint L.fixed L.width fun _ => hp) hp
theorem FD.fieldsC (L : SLib P F) (ver : Int) (flex : Bool) : ∀ l : List FD, FD.plainL l = true → ∀ f ∈ l, FieldC P F ver flex f
  | [], _, f, hf => by simp at hf
  | a :: l, h, f, hf => by
    simp only [FD.plainL, Bool.and_eq_true] at h
    rcases List.mem_cons.1 hf with e | hf
    · rw [e]; exact FD.fieldC L ver flex a h.1
    · exact FD.fieldsC L ver flex l h.2 f hf
end
theorem partC_plain (L : SLib P F) (ver : Int) (flex : Bool) {fs : List FD} (h : FD.plainL fs = true) (hl : fs.length < 1000) : PartC P F ver flex fs :=
  part_call L.mixed L.part L.has L.at_ L.uvarint L.whole L.known L.unknown (FD.fieldsC L ver flex fs h) (fun f hf => FD.plain.tag (FD.plainL_mem h f hf)) (by omega)
structure MD where
  fs : List FD
  flex : Int
  deriving Inhabited
def MD.isFlex (m : MD) (ver : Int) : Bool := decide (m.flex ≥ 0) && decide (ver ≥ m.flex)
def writeP (m : MD) (ver : Int) (t : TR) : List UInt8 := partP ver (m.isFlex ver) m.fs t
inductive RepM (ok : Nat → Prop) (w : World) : MD → List Value → Prop
  | mk {fs : List FD} {flex : Int} {v : Value} {css : List (List Value)} : SlC ok w v fs.length css.flatten → RepFL ok w fs css → RepM ok w ⟨fs, flex⟩ [v, .int .i64 flex]
theorem RepM.keep {w w' : World} {m : MD} {cs : List Value} (h : RepM anyB w m cs) (hm : Mod [] w w') : RepM anyB w' m cs := by
  cases h with | mk h1 h2 => exact .mk (h1.keep hm) (h2.keep hm)
attribute [local simp] gOk updo upd ev RK.val? isShift intBin Addr.add_mk args0 Value.cells undef
end
end Go.Msk

namespace Go.Msk
open Go.RowKit
set_option maxRecDepth 100000
def zz3Code : IC × List RV × Nat :=
  (.seq (.blk [⟨some 1, .box (.tmp 0), none⟩, ⟨some 2, .mv (.const (.bool false)), none⟩])
  (.seq (.seq (.blk [⟨some 3, .fad (.tmp 1) 1, none⟩, ⟨some 4, .ld (.tmp 3), none⟩, ⟨some 5, .len (.tmp 4), none⟩, ⟨some 6, .bin .gtr (.tmp 5) (.const (.int .i64 2147483647)), none⟩])
    (.cond (.tmp 6) (.seq (.blk [⟨some 2, .mv (.const (.bool false)), none⟩]) .ret) .skip))
  (.seq (.blk [⟨some 2, .mv (.const (.bool true)), none⟩]) .ret)), [.tmp 2], 7)
def zz2Code (z3 : FuncId) : IC × List RV × Nat :=
  (.seq (.blk [⟨some 2, .mv (.const (.bool false)), none⟩])
  (.seq (.seq (.blk [⟨some 5, .mv (.tmp 0), none⟩, ⟨some 6, .len (.tmp 5), none⟩, ⟨some 7, .bin .gtr (.tmp 6) (.const (.int .i64 2147483647)), none⟩])
    (.cond (.tmp 7) (.seq (.blk [⟨some 2, .mv (.const (.bool false)), none⟩]) .ret) .skip))
  (.seq (.seq (.blk [⟨some 8, .mv (.tmp 0), none⟩, ⟨some 9, .len (.tmp 8), none⟩, ⟨some 10, .mv (.const (.int .i64 0)), none⟩])
    (.block 0 (.loop (.seq (.blk [⟨some 11, .bin .lss (.tmp 10) (.tmp 9), none⟩])
        (.seq (.cond (.tmp 11) .skip (.exit 0))
        (.seq (.block 1 (.seq (.blk [⟨some 12, .iad (.tmp 8) (.tmp 10) 2, none⟩, ⟨some 13, .ldn (.tmp 12) 2, none⟩, ⟨some 4, .alloc [.int .u32 0, .slice none 0 0], none⟩, ⟨none, .st (.tmp 4) 2 (.tmp 13), none⟩])
            (.seq (.blk [⟨some 14, .ldn (.tmp 4) 2, none⟩, ⟨some 15, .call z3 [.tmp 14], none⟩, ⟨some 16, .lnot (.tmp 15), none⟩])
            (.cond (.tmp 16) (.seq (.blk [⟨some 2, .mv (.const (.bool false)), none⟩]) .ret) .skip))))
        (.blk [⟨some 17, .bin .add (.tmp 10) (.const (.int .i64 1)), none⟩, ⟨some 10, .mv (.tmp 17), none⟩])))))))
  (.seq (.blk [⟨some 2, .mv (.const (.bool true)), none⟩]) .ret))), [.tmp 2], 18)
def zz1Code (z2 : FuncId) : IC × List RV × Nat :=
  (.seq (.blk [⟨some 1, .box (.tmp 0), none⟩, ⟨some 2, .mv (.const (.bool false)), none⟩])
  (.seq (.seq (.blk [⟨some 3, .fad (.tmp 1) 1, none⟩, ⟨some 4, .ld (.tmp 3), none⟩, ⟨some 5, .len (.tmp 4), none⟩, ⟨some 6, .bin .gtr (.tmp 5) (.const (.int .i64 2147483647)), none⟩])
    (.cond (.tmp 6) (.seq (.blk [⟨some 2, .mv (.const (.bool false)), none⟩]) .ret) .skip))
  (.seq (.seq (.blk [⟨some 7, .fad (.tmp 1) 3, none⟩, ⟨some 8, .ld (.tmp 7), none⟩, ⟨some 9, .len (.tmp 8), none⟩, ⟨some 10, .bin .gtr (.tmp 9) (.const (.int .i64 2147483647)), none⟩])
    (.cond (.tmp 10) (.seq (.blk [⟨some 2, .mv (.const (.bool false)), none⟩]) .ret) .skip))
  (.seq (.seq (.blk [⟨some 11, .fad (.tmp 1) 4, none⟩, ⟨some 12, .ld (.tmp 11), none⟩, ⟨some 13, .call z2 [.tmp 12], none⟩, ⟨some 14, .lnot (.tmp 13), none⟩])
    (.cond (.tmp 14) (.seq (.blk [⟨some 2, .mv (.const (.bool false)), none⟩]) .ret) .skip))
  (.seq (.blk [⟨some 2, .mv (.const (.bool true)), none⟩]) .ret)))), [.tmp 2], 15)
def BoolR (w : World) : Ending → World → Prop := fun e w' => ∃ b, e = .returned (.bool b) ∧ Mod [] w w'
section
variable {P : Program}
attribute [local simp] gOk updo upd ev RK.val? isShift intBin Addr.add_mk args0 Value.cells undef
theorem zz3_call (hm : P.follows .mixedOrders = true) {f : FuncId} (h : liftF P f = some zz3Code) {w : World} {k : Value} {n : Nat} {b : Option Addr} {c : Nat} : Calls P f [.agg #[k, .slice b n c]].toArray w (BoolR w) := by
  unfold zz3Code at h
  refine call_of h hm (by simp) ?_
  clear h
  rw [wpC_seq, wpC_blk]
  refine goBox (v := .agg #[k, .slice b n c]) (by simp) fun w1 hb1 hm1 => ?_
  have hb1 : Blk w1 w.heap.size [k, .slice b n c] := by simpa using hb1
  have c1 := fun j => hb1.cell j
  refine go1 (v := .bool false) rfl (by simp) (goEnd ?_)
  simp only [thenC]
  rw [wpC_seq, wpC_seq, wpC_blk]
  refine go1 (v := .pointer (some ⟨w.heap.size, 1, none⟩)) rfl (by simp) ?_
  refine go1 (v := .slice b n c) rfl (by simp [c1]) ?_
  refine go1 (v := .int .i64 (n : Nat)) rfl (by simp) ?_
  refine go1 (v := .bool (decide ((n : Int) > 2147483647))) rfl (by simp) (goEnd ?_)
  simp only [thenC]
  by_cases hc : (n : Int) > 2147483647
  · rw [wpC_cond_t (by simp [hc]), wpC_seq, wpC_blk]
    refine go1 (v := .bool false) rfl (by simp) (goEnd ?_)
    simp only [thenC]
    repeat first | refine retThen ?_ | refine retBlk ?_
    exact ret1 (v := .bool false) (by simp) ⟨_, rfl, hm1⟩
  · rw [wpC_cond_f (by simp [hc]), wpC_skip]
    simp only [thenC]
    rw [wpC_seq, wpC_blk]
    refine go1 (v := .bool true) rfl (by simp) (goEnd ?_)
    simp only [thenC]
    exact ret1 (v := .bool true) (by simp) ⟨_, rfl, hm1⟩
theorem zz2_call (hm : P.follows .mixedOrders = true) {f z3 : FuncId} (h : liftF P f = some (zz2Code z3)) (h3 : liftF P z3 = some zz3Code) {w : World} {v : Value} {u : List (Nat × List UInt8)} {uss : List (List Value)} (hv : SlC anyB w v u.length uss.flatten) (hu : RepU anyB w u uss) :
    Calls P f [v].toArray w (BoolR w) := by
  unfold zz2Code at h
  refine call_of h hm (by simp) ?_
  clear h
  obtain ⟨vb, vc, ev'⟩ := hv.shape
  have ul : u.length = uss.length := by
    clear hv ev'
    induction hu with
    | nil => rfl
    | cons _ _ ih => simp [ih]
  rw [wpC_seq, wpC_blk]
  refine go1 (v := .bool false) rfl (by simp) (goEnd ?_)
  simp only [thenC]
  rw [wpC_seq, wpC_seq, wpC_blk]
  refine go1 (v := v) rfl (by simp) ?_
  refine go1 (v := .int .i64 (u.length : Nat)) rfl (by simp [ev']) ?_
  refine go1 (v := .bool (decide ((u.length : Int) > 2147483647))) rfl (by simp) (goEnd ?_)
  simp only [thenC]
  by_cases hc : (u.length : Int) > 2147483647
  · rw [wpC_cond_t (by simp [hc]), wpC_seq, wpC_blk]
    refine go1 (v := .bool false) rfl (by simp) (goEnd ?_)
    simp only [thenC]
    repeat first | refine retThen ?_ | refine retBlk ?_
    exact ret1 (v := .bool false) (by simp) ⟨_, rfl, Mod.refl _ _⟩
  · rw [wpC_cond_f (by simp [hc]), wpC_skip]
    simp only [thenC]
    rw [wpC_seq, wpC_seq, wpC_blk]
    refine go1 (v := v) rfl (by simp) ?_
    refine go1 (v := .int .i64 (u.length : Nat)) rfl (by simp [ev']) ?_
    refine go1 (v := .int .i64 (0 : Nat)) rfl (by simp) (goEnd ?_)
    simp only [thenC]
    refine rangeLoop (n := u.length) (fun j σ w' => σ 8 = v ∧ σ 10 = .int .i64 (j : Nat) ∧ σ 9 = .int .i64 (u.length : Nat) ∧ Mod [] w w') (by omega) (by omega) (fun j σ w h => ⟨h.2.1, h.2.2.1⟩) ?_ ?_ ?_
    · exact ⟨by simp, by simp, by simp, Mod.refl _ _⟩
    · rintro j σ w1 hj ⟨k8, k10, k9, hm1⟩
      have hsh : ∀ {u : List (Nat × List UInt8)} {uss : List (List Value)}, RepU anyB w u uss → ∀ c ∈ uss, ∃ a b n d, c = [a, .slice b n d] := by
        intro u uss h
        induction h with
        | nil => simp
        | cons h _ ih =>
          intro c hc
          rcases List.mem_cons.1 hc with rfl | hc
          · obtain ⟨b, d, e⟩ := h.shape
            exact ⟨_, b, _, d, by rw [e]⟩
          · exact ih c hc
      have hc1 : uss[j]? = some uss[j] := List.getElem?_eq_getElem (by omega)
      obtain ⟨ka, kb, kn, kd, ek⟩ := hsh hu _ (List.mem_of_getElem? hc1)
      have hsz : ∀ c ∈ uss, c.length = 2 := fun c hc => by obtain ⟨a, b, n, d, rfl⟩ := hsh hu c hc; rfl
      obtain ⟨base, cap, e1, e2, e3, e4⟩ := hv
      cases base with
      | none => have := e3 rfl; omega
      | some a =>
        obtain ⟨-, q2, q3⟩ := e4 a rfl (by omega)
        obtain ⟨ab, ao, as⟩ := a
        have eb : as = none := q3.1
        subst eb
        have hce := q3.each hsz hc1
        rw [ek] at hce
        have hld := cellsAt_of' (hce.mod hm1 (.inr (by simp))) (show [ka, Value.slice kb kn kd].length = 2 from rfl)
        subst e1
        rw [wpC_seq, wpC_blk]
        refine go1 (v := .pointer (some ⟨ab, ao + j * 2, none⟩)) rfl (by simp [k8, k10, hj]) ?_
        refine go1 (v := .agg #[ka, .slice kb kn kd]) rfl (by simp [hld]) ?_
        refine goAlloc fun w2 hb2 hm2 => ?_
        have hone : ∀ y ∈ (Value.agg #[ka, .slice kb kn kd]).cells.toList, y.oneCell' = true := by
          have hku : ∀ {u : List (Nat × List UInt8)} {uss : List (List Value)}, RepU anyB w u uss → ∀ c ∈ uss, ∀ y ∈ c, y.oneCell' = true := by
            intro u uss h
            induction h with
            | nil => simp
            | cons h _ ih =>
              intro c hc y hy
              rcases List.mem_cons.1 hc with rfl | hc
              · simp only [List.mem_cons, List.not_mem_nil, or_false] at hy
                rcases hy with rfl | rfl
                · rfl
                · exact h.one
              · exact ih c hc y hy
          have := hku hu _ (List.mem_of_getElem? hc1)
          rw [ek] at this
          simpa using this
        refine goSt (b := w1.heap.size) (v := .agg #[ka, .slice kb kn kd]) (by simp) (by simp) hb2 (by simp) (by simp) hone fun w3 hb3 hm3 => goEnd ?_
        simp only [thenC]
        have hb3 : Blk w3 w1.heap.size [ka, .slice kb kn kd] := by simpa using hb3
        have hm13 : Mod [] w1 w3 := Mod.drop (b := w1.heap.size) (S := []) (hm2.nil.trans hm3) (Nat.le_refl _)
        have hld3 := cellsAt_of' hb3.cells (show [ka, Value.slice kb kn kd].length = 2 from rfl)
        rw [wpC_seq, wpC_blk]
        refine go1 (v := .agg #[ka, .slice kb kn kd]) rfl (by simp [hld3]) ?_
        refine goCall rfl (vs := [.agg #[ka, .slice kb kn kd]]) (by simp) (zz3_call hm h3) ?_
        rintro e w4 ⟨b, rfl, hm4⟩
        refine ⟨_, rfl, go1 (v := .bool !b) rfl (by simp) (goEnd ?_)⟩
        simp only [thenC]
        have hm04 := (hm1.trans hm13).trans hm4
        cases b with
        | false =>
          rw [wpC_cond_t (by simp), wpC_seq, wpC_blk]
          refine go1 (v := .bool false) rfl (by simp) (goEnd ?_)
          simp only [thenC]
          repeat first | refine retThen ?_ | refine retBlk ?_ | refine retRng ?_
          exact ret1 (v := .bool false) (by simp) ⟨_, rfl, hm04⟩
        | true =>
          rw [wpC_cond_f (by simp), wpC_skip]
          refine ⟨by simp [k10], by simp [k8], by simp, by simp [k9], hm04⟩
    · rintro σ w1 ⟨-, -, -, hm1⟩
      simp only [thenC]
      rw [wpC_seq, wpC_blk]
      refine go1 (v := .bool true) rfl (by simp) (goEnd ?_)
      simp only [thenC]
      exact ret1 (v := .bool true) (by simp) ⟨_, rfl, hm1⟩
theorem zz1_call (hm : P.follows .mixedOrders = true) {f z2 z3 : FuncId} (h : liftF P f = some (zz1Code z2)) (h2 : liftF P z2 = some (zz2Code z3)) (h3 : liftF P z3 = some zz3Code) {w : World} {t : TR} {ts : List Value} (ht : RepT anyB w t ts) :
    Calls P f [.agg ts.toArray].toArray w (BoolR w) := by
  unfold zz1Code at h
  refine call_of h hm (by simp) ?_
  clear h
  cases ht with
  | @mk n s null l u sv lv uv css uss q1 q2 q3 q4 q5 =>
  obtain ⟨b1, c1, e1⟩ := q1.shape
  obtain ⟨b2, c2, e2⟩ := q2.shape
  rw [wpC_seq, wpC_blk]
  refine goBox (v := .agg #[.int .i64 n, sv, .bool null, lv, uv]) (by simp) fun w1 hb1 hm1 => ?_
  have hb1 : Blk w1 w.heap.size [.int .i64 n, sv, .bool null, lv, uv] := by simpa using hb1
  have cc := fun j => hb1.cell j
  refine go1 (v := .bool false) rfl (by simp) (goEnd ?_)
  simp only [thenC]
  rw [wpC_seq, wpC_seq, wpC_blk]
  refine go1 (v := .pointer (some ⟨w.heap.size, 1, none⟩)) rfl (by simp) ?_
  refine go1 (v := sv) rfl (by simp [cc]) ?_
  refine go1 (v := .int .i64 (s.length : Nat)) rfl (by simp [e1]) ?_
  refine go1 (v := .bool (decide ((s.length : Int) > 2147483647))) rfl (by simp) (goEnd ?_)
  simp only [thenC]
  by_cases hc : (s.length : Int) > 2147483647
  · rw [wpC_cond_t (by simp [hc]), wpC_seq, wpC_blk]
    refine go1 (v := .bool false) rfl (by simp) (goEnd ?_)
    simp only [thenC]
    repeat first | refine retThen ?_ | refine retBlk ?_
    exact ret1 (v := .bool false) (by simp) ⟨_, rfl, hm1⟩
  rw [wpC_cond_f (by simp [hc]), wpC_skip]
  simp only [thenC]
  rw [wpC_seq, wpC_seq, wpC_blk]
  refine go1 (v := .pointer (some ⟨w.heap.size, 3, none⟩)) rfl (by simp) ?_
  refine go1 (v := lv) rfl (by simp [cc]) ?_
  refine go1 (v := .int .i64 (l.length : Nat)) rfl (by simp [e2]) ?_
  refine go1 (v := .bool (decide ((l.length : Int) > 2147483647))) rfl (by simp) (goEnd ?_)
  simp only [thenC]
  by_cases hc2 : (l.length : Int) > 2147483647
  · rw [wpC_cond_t (by simp [hc2]), wpC_seq, wpC_blk]
    refine go1 (v := .bool false) rfl (by simp) (goEnd ?_)
    simp only [thenC]
    repeat first | refine retThen ?_ | refine retBlk ?_
    exact ret1 (v := .bool false) (by simp) ⟨_, rfl, hm1⟩
  rw [wpC_cond_f (by simp [hc2]), wpC_skip]
  simp only [thenC]
  rw [wpC_seq, wpC_seq, wpC_blk]
  refine go1 (v := .pointer (some ⟨w.heap.size, 4, none⟩)) rfl (by simp) ?_
  refine go1 (v := uv) rfl (by simp [cc]) ?_
  refine goCall rfl (vs := [uv]) (by simp) (zz2_call hm h2 h3 (q4.keep hm1) (q5.mod hm1 (by simp) fun _ _ _ => trivial)) ?_
  rintro e w2 ⟨b, rfl, hm2⟩
  refine ⟨_, rfl, go1 (v := .bool !b) rfl (by simp) (goEnd ?_)⟩
  simp only [thenC]
  have hm02 := hm1.trans hm2
  cases b with
  | false =>
    rw [wpC_cond_t (by simp), wpC_seq, wpC_blk]
    refine go1 (v := .bool false) rfl (by simp) (goEnd ?_)
    simp only [thenC]
    repeat first | refine retThen ?_ | refine retBlk ?_
    exact ret1 (v := .bool false) (by simp) ⟨_, rfl, hm02⟩
  | true =>
    rw [wpC_cond_f (by simp), wpC_skip]
    simp only [thenC]
    rw [wpC_seq, wpC_blk]
    refine go1 (v := .bool true) rfl (by simp) (goEnd ?_)
    simp only [thenC]
    exact ret1 (v := .bool true) (by simp) ⟨_, rfl, hm02⟩
end
end Go.Msk

namespace Go.Msk
open Go.RowKit
set_option maxRecDepth 100000
abbrev at_ (l : List UInt8) : RS := ⟨l, false, false⟩
theorem wrap_mod_i16 (n : Int) : IntKind.i16.wrap n % 65536 = n % 65536 := by
  simp only [IntKind.wrap, IntKind.bits, IntKind.signed]; simp; split <;> omega
theorem wrap_mod_i32 (n : Int) : IntKind.i32.wrap n % 4294967296 = n % 4294967296 := by
  simp only [IntKind.wrap, IntKind.bits, IntKind.signed]; simp; split <;> omega
theorem wrap_mod_i8 (n : Int) : IntKind.i8.wrap n % 256 = n % 256 := by
  simp only [IntKind.wrap, IntKind.bits, IntKind.signed]; simp; split <;> omega
def kindOk (kind : Int) (nul : Bool) (p : PK) : Bool :=
  match p with
  | .bool => decide (kind = 0)
  | .i8 => decide (kind = 1)
  | .i16 => decide (kind = 2)
  | .u16 => decide (kind = 5)
  | .i32 => decide (kind = 3)
  | .i64 => decide (kind = 4)
  | .uuid => decide (kind = 7)
  | .str => decide (kind = 8) && !nul
  | .nstr => decide (kind = 8)
  | .byt => decide (kind = 9) && !nul
  | _ => false
theorem wc16 (j : Int) : IntKind.i16.wrap (j % 65536) = IntKind.i16.wrap j := by
  simp only [IntKind.wrap, IntKind.bits, IntKind.signed]; simp
theorem wc8 (j : Int) : IntKind.i8.wrap (j % 256) = IntKind.i8.wrap j := by
  simp only [IntKind.wrap, IntKind.bits, IntKind.signed]; simp
theorem wholeP_le (l : List UInt8) : (wholeP l).length ≤ 32767 := by simp [wholeP]; omega
end Go.Msk

namespace Go.Msk
open Go.RowKit
set_option maxRecDepth 100000
def unk (u : List (Nat × List UInt8)) : List (Nat × List UInt8) := (u.take 32767).foldl (unkStep 0) []
def tailP (x : Bool) (u : List (Nat × List UInt8)) : List UInt8 := if x then uvE (unk u).length ++ tagsP (unk u) else []
theorem knownP_plain : ∀ (fs : List FD), FD.plainL fs = true → knownP fs = 0 := by
  intro fs h
  unfold knownP
  induction fs with
  | nil => rfl
  | cons f fs ih =>
    simp only [FD.plainL, Bool.and_eq_true] at h
    have ht : f.tag < 0 := by
      have := h.1
      obtain ⟨k, a, b, c, tag, d, e, sub⟩ := f
      simp only [FD.plain, Bool.and_eq_true, decide_eq_true_eq] at this
      exact this.1
    simp only [List.foldl_cons]
    rw [if_neg (by omega)]
    exact ih h.2
theorem unknownP_plain {fs : List FD} (h : FD.plainL fs = true) (u : List (Nat × List UInt8)) : unknownP fs u = unk u := by
  unfold unknownP unk; rw [knownP_plain fs h]
def Ris (l : List (Nat × List UInt8)) : Prop := l.Pairwise (fun a b => a.1 < b.1) ∧ ∀ p ∈ l, p.1 < 4294967296
theorem insU_mem {k : Nat} {b : List UInt8} : ∀ {l : List (Nat × List UInt8)} {p}, p ∈ insU k b l → p = (k, b) ∨ p ∈ l
  | [], p, h => by simp [insU] at h; exact .inl h
  | (k', b') :: r, p, h => by
    simp only [insU] at h
    split at h
    · rcases List.mem_cons.1 h with h | h
      · exact .inr (by simp [h])
      · rcases insU_mem h with h | h
        · exact .inl h
        · exact .inr (by simp [h])
    · split at h
      · exact .inr h
      · rcases List.mem_cons.1 h with h | h
        · exact .inl h
        · exact .inr h
theorem insU_ris {k : Nat} {b : List UInt8} (hk : k < 4294967296) : ∀ {l : List (Nat × List UInt8)}, Ris l → Ris (insU k b l)
  | [], _ => ⟨by simp [insU], by simp [insU]; exact hk⟩
  | (k', b') :: r, h => by
    have hr : Ris r := ⟨(List.pairwise_cons.1 h.1).2, fun p hp => h.2 p (by simp [hp])⟩
    simp only [insU]
    split
    · rename_i hlt
      have ih := insU_ris (b := b) hk hr
      refine ⟨List.pairwise_cons.2 ⟨fun p hp => ?_, ih.1⟩, fun p hp => ?_⟩
      · rcases insU_mem hp with rfl | hp
        · exact hlt
        · exact (List.pairwise_cons.1 h.1).1 p hp
      · rcases List.mem_cons.1 hp with rfl | hp
        · exact h.2 (k', b') (by simp)
        · exact ih.2 p hp
    · split
      · exact h
      · rename_i h1 h2
        refine ⟨List.pairwise_cons.2 ⟨fun p hp => ?_, h.1⟩, fun p hp => ?_⟩
        · rcases List.mem_cons.1 hp with rfl | hp
          · show k < k'; omega
          · have := (List.pairwise_cons.1 h.1).1 p hp
            show k < p.1
            have e : k' < p.1 := this
            omega
        · rcases List.mem_cons.1 hp with rfl | hp
          · exact hk
          · exact h.2 p hp
theorem insU_len {k : Nat} {b : List UInt8} : ∀ l : List (Nat × List UInt8), (insU k b l).length ≤ l.length + 1
  | [] => by simp [insU]
  | (k', b') :: r => by
    have := insU_len (k := k) (b := b) r
    simp only [insU]
    split
    · simp only [List.length_cons]; omega
    · split <;> simp
theorem unk_ok {u : List (Nat × List UInt8)} (h : ∀ p ∈ u, p.1 < 4294967296) : Ris (unk u) ∧ (unk u).length ≤ 32767 := by
  have gen : ∀ (v acc : List (Nat × List UInt8)), (∀ p ∈ v, p.1 < 4294967296) → Ris acc → Ris (v.foldl (unkStep 0) acc) ∧ (v.foldl (unkStep 0) acc).length ≤ acc.length + v.length := by
    intro v
    induction v with
    | nil => intro acc _ ha; exact ⟨ha, by simp⟩
    | cons p v ih =>
      intro acc hv ha
      have e : unkStep 0 acc p = insU p.1 p.2 acc := by unfold unkStep; rw [if_neg (by omega)]
      simp only [List.foldl_cons, e]
      obtain ⟨h1, h2⟩ := ih (insU p.1 p.2 acc) (fun q hq => hv q (by simp [hq])) (insU_ris (hv p (by simp)) ha)
      refine ⟨h1, Nat.le_trans h2 ?_⟩
      have := insU_len (k := p.1) (b := p.2) acc
      simp only [List.length_cons]; omega
  obtain ⟨h1, h2⟩ := gen (u.take 32767) [] (fun p hp => h p (List.mem_of_mem_take hp)) ⟨by simp, by simp⟩
  refine ⟨h1, Nat.le_trans h2 ?_⟩
  simp; omega
def wholeU (u : List (Nat × List UInt8)) : List (Nat × List UInt8) := u.map fun p => (p.1, wholeP p.2)
theorem putTag_new {k : Nat} {b : List UInt8} : ∀ {m : List (Nat × List UInt8)}, (∀ p ∈ m, p.1 < k) → putTag m k b = m ++ [(k, b)]
  | [], _ => rfl
  | (k', b') :: m, h => by
    have h1 : k' < k := h (k', b') (by simp)
    simp only [putTag, List.cons_append]
    rw [if_neg (by omega), putTag_new fun p hp => h p (by simp [hp])]
theorem sortT_ris : ∀ {m : List (Nat × List UInt8)}, m.Pairwise (fun a b => a.1 < b.1) → sortT m = m
  | [], _ => rfl
  | (k, b) :: m, h => by
    have ih := sortT_ris (List.pairwise_cons.1 h).2
    simp only [sortT, ih]
    cases m with
    | nil => rfl
    | cons p m =>
      have : k < p.1 := (List.pairwise_cons.1 h).1 p (by simp)
      simp only [insT]
      rw [if_pos this]
end Go.Msk

namespace Go.Msk
open Go.RowKit
set_option maxRecDepth 100000
def FD.nulB (f : FD) (ver : Int) : Bool := decide (f.null ≥ 0) && decide (ver ≥ f.null)
def neB (ver : Int) (x : Bool) (fds : List FD) : Bool := x || fds.any fun f => decide (f.tag < 0) && (f.hasV ver && !decide (f.kind = 10))
theorem FD.enc_eq' (ver : Int) (x : Bool) (f : FD) (t : TR) : f.enc ver x t = fieldP x f.kind f.of f.null (f.nullV ver t) (fun y => joinP x (bodyP ver x f.sub 0 y) (unknownP f.sub y.u)) t := by
  obtain ⟨k, a, b, c, tag, d, e, sub⟩ := f; rfl
def fE (ver : Int) (x : Bool) (f : FD) (t : TR) (i : Nat) : List UInt8 := if f.hasV ver = true then f.enc ver x (t.at i) else []
theorem body_cons {ver : Int} {x : Bool} {f : FD} {fs : List FD} {i : Nat} {t : TR} {z : List UInt8} (ht : f.tag < 0) : bodyP ver x (f :: fs) i t ++ z = fE ver x f t i ++ (bodyP ver x fs (i + 1) t ++ z) := by
  simp only [bodyP, fE, ht, true_and, List.append_assoc]
theorem kok_body {ver : Int} {x : Bool} {sub : List FD} {y : TR} (hp : FD.plainL sub = true) : joinP x (bodyP ver x sub 0 y) (unknownP sub y.u) = bodyP ver x sub 0 y ++ tailP x y.u := by
  rw [unknownP_plain hp]; rfl
theorem TR.kok_mem {t y : TR} (h : t.kok) (hy : y ∈ t.l) : y.kok := by
  cases t with
  | mk n s b l u => exact TR.kokL_mem h.2 y hy
theorem take_le (l : List TR) : (l.take 32767).length ≤ 32767 := by simp; omega
end Go.Msk

namespace Go.Msk
open Go.RowKit
set_option maxRecDepth 100000
def nulOk (nul : Bool) (lb : LB) (f : FD) (ver : Int) : Bool := if nul then (match lb.nul with
  | some V => decide (V ≤ ver)
  | none => false) else !f.nulB ver
def PK.eqB (p q : PK) : Bool := decide (p = q)
def Sc.rtB (ver : Int) (x : Bool) : Sc → List FD → Ap → Bool
  | .nil, fds, ap => match fds, ap with
    | [], .nil => !x
    | _, _ => false
  | .tags _, fds, ap => match fds, ap with
    | [], .tags _ _ _ => true
    | _, _ => false
  | .prm vc _ _ p d rest, fds, ap => match fds, ap with
    | f :: fs, .prm vc' _ p' _ rest' => decide (f.tag < 0) && (vc.holds ver == f.hasV ver) && (vc'.holds ver == f.hasV ver) && decide (d.size = 1) && (!f.hasV ver || (kindOk f.kind (f.nulB ver) p && p.eqB p' && !p.eqB .uuid)) && rest.rtB ver x fs rest'
    | _, _ => false
  | .enm vc _ _ p d rest, fds, ap => match fds, ap with
    | f :: fs, .prm vc' _ p' _ rest' => decide (f.tag < 0) && (vc.holds ver == f.hasV ver) && (vc'.holds ver == f.hasV ver) && decide (d.size = 1) && (!f.hasV ver || (kindOk f.kind (f.nulB ver) p && p.eqB p' && !p.eqB .uuid)) && rest.rtB ver x fs rest'
    | _, _ => false
  | .vst vc V _ _ rest, fds, ap => match fds, ap with
    | f :: fs, .vst vc' V' _ _ rest' => decide (f.tag < 0) && (vc.holds ver == f.hasV ver) && (vc'.holds ver == f.hasV ver) && (!f.hasV ver || (decide (f.kind = 8) && decide (V = V') && (!decide (ver < V) || !f.nulB ver))) && rest.rtB ver x fs rest'
    | _, _ => false
  | .uid vc _ rest, fds, ap => match fds, ap with
    | f :: fs, .uid vc' _ rest' => decide (f.tag < 0) && (vc.holds ver == f.hasV ver) && (vc'.holds ver == f.hasV ver) && (!f.hasV ver || decide (f.kind = 7)) && rest.rtB ver x fs rest'
    | _, _ => false
  | .lsp vc _ lb d _ _ p rest, fds, ap => match fds, ap with
    | f :: fs, .lsp vc' nul _ p' _ rest' => decide (f.tag < 0) && (vc.holds ver == f.hasV ver) && (vc'.holds ver == f.hasV ver) && (!f.hasV ver || (decide (f.kind = 11) && kindOk f.of false p && p.eqB p' && !p.eqB .uuid && decide (d.size = 1) && nulOk nul lb f ver)) && rest.rtB ver x fs rest'
    | _, _ => false
  | .lss vc _ lb _ _ body rest, fds, ap => match fds, ap with
    | f :: fs, .lss vc' nul _ sz body' rest' => decide (f.tag < 0) && (vc.holds ver == f.hasV ver) && (vc'.holds ver == f.hasV ver) && (!f.hasV ver || (decide (f.kind = 11) && decide (f.of = 10) && decide (body.size = sz) && nulOk nul lb f ver && neB ver x f.sub && FD.plainL f.sub && body.rtB ver x f.sub body')) && rest.rtB ver x fs rest'
    | _, _ => false
  | .sub vc _ body rest, fds, ap => match fds, ap with
    | f :: fs, .sub vc' sz body' rest' => decide (f.tag < 0) && (vc.holds ver == f.hasV ver) && (vc'.holds ver == f.hasV ver) && decide (body.size = sz) && (!f.hasV ver || (decide (f.kind = 10) && decide (f.null < 0) && FD.plainL f.sub && body.rtB ver x f.sub body')) && rest.rtB ver x fs rest'
    | _, _ => false
theorem eqB_of {p q : PK} (h : p.eqB q = true) : p = q := by simpa [PK.eqB] using h
theorem neB_of {p q : PK} (h : (!p.eqB q) = true) : p ≠ q := by simpa [PK.eqB] using h
end Go.Msk

namespace Go.Msk
open Go.RowKit
set_option maxRecDepth 100000
def rtV (T : Top) (A : ATop) (m : MD) (ver : Int) : Bool :=
  T.rv.isNone && (T.x ver == m.isFlex ver) && (A.x ver == m.isFlex ver) && neB ver (m.isFlex ver) m.fs && T.sc.rtB ver (m.isFlex ver) m.fs A.ap
def rtOk (T : Top) (A : ATop) (m : MD) (most : Nat) : Bool := FD.plainL m.fs && (List.range (most + 1)).all fun v => rtV T A m (v : Nat)
def valM (k : Int) (part : Nat) : Nat := if k = 10 then part else if k = 8 ∨ k = 9 then 32772 else 16
def tagM (x : Bool) : Nat := if x then 5 + 32767 * 32777 else 0
mutual
def FD.maxB (x : Bool) : FD → Nat
  | .mk kind _ _ _ _ _ of sub => if kind = 11 then 5 + 32767 * valM of (FD.maxL x sub + tagM x) else 1 + valM kind (FD.maxL x sub + tagM x)
def FD.maxL (x : Bool) : List FD → Nat
  | [] => 0
  | f :: l => f.maxB x + FD.maxL x l
end
theorem lenU_le (n : Nat) : lenU n ≤ 5 := by unfold lenU; repeat' split
                                             all_goals omega
theorem uvE_le {n : Nat} (h : n < 4294967296) : (uvE n).length ≤ 5 := by rw [uvE_length h]; exact lenU_le n
theorem countedP_le {x nl : Bool} {n k : Nat} (hn : n ≤ 32767) (hk : k ≤ 4) : (countedP x nl n k).length ≤ 5 := by
  have := uvE_le (n := n + 1) (by omega)
  unfold countedP
  cases x <;> cases nl <;> simp [beI_length] <;> omega
theorem valP_le {x nl : Bool} {k : Int} {part : TR → List UInt8} {t : TR} {M : Nat} (hp : (part t).length ≤ M) : (valP x k part nl t).length ≤ valM k M := by
  have hw := wholeP_le t.s
  have hw2 : (if nl = true then [] else wholeP t.s).length ≤ 32767 := by cases nl <;> simp <;> omega
  unfold valP valM
  by_cases h0 : k = 0
  · subst h0; simp
  rw [if_neg h0]
  by_cases h7 : k = 7
  · subst h7; simp [uuidP]; omega
  rw [if_neg h7]
  by_cases h8 : k = 8
  · subst h8
    have := countedP_le (x := x) (nl := nl) (k := 2) hw2 (by omega)
    simp only [if_true, List.length_append]
    rw [if_neg (show ¬ ((8 : Int) = 10) by decide), if_pos (Or.inl trivial)]; omega
  rw [if_neg h8]
  by_cases h9 : k = 9
  · subst h9
    have := countedP_le (x := x) (nl := nl) (k := 4) hw2 (by omega)
    simp only [if_true, List.length_append]
    rw [if_neg (show ¬ ((9 : Int) = 10) by decide), if_pos (Or.inr trivial)]; omega
  rw [if_neg h9]
  by_cases h10 : k = 10
  · subst h10; simp only [if_true]; exact hp
  · rw [if_neg h10, if_neg h10, if_neg (by omega), beI_length]
    have := widthP_le k; omega
theorem flat_le {α : Type} {f : α → List UInt8} {M : Nat} : ∀ {l : List α}, (∀ y ∈ l, (f y).length ≤ M) → (l.flatMap f).length ≤ l.length * M
  | [], _ => by simp
  | y :: l, h => by
    have h1 := h y (by simp)
    have h2 := flat_le (l := l) fun z hz => h z (by simp [hz])
    simp only [List.flatMap_cons, List.length_append, List.length_cons, Nat.add_mul, Nat.one_mul]
    omega
theorem tail_le {x : Bool} {u : List (Nat × List UInt8)} (h : ∀ p ∈ u, p.1 < 4294967296) : (tailP x u).length ≤ tagM x := by
  obtain ⟨h1, h2⟩ := unk_ok h
  cases x with
  | false => simp [tailP, tagM]
  | true =>
    have e1 := uvE_le (n := (unk u).length) (by omega)
    have e2 : (tagsP (unk u)).length ≤ (unk u).length * 32777 := flat_le fun p hp => by
      have a := uvE_le (h1.2 p hp)
      have b := wholeP_le p.2
      have c := uvE_le (n := (wholeP p.2).length) (by omega)
      simp only [List.length_append]; omega
    simp only [tailP, tagM, if_true, List.length_append]
    have : (unk u).length * 32777 ≤ 32767 * 32777 := Nat.mul_le_mul_right _ h2
    omega
theorem TR.kok_u {t : TR} (h : t.kok) : ∀ p ∈ t.u, p.1 < 4294967296 := by cases t; exact h.1
mutual
theorem FD.enc_le (ver : Int) (x : Bool) : ∀ (f : FD) (t : TR), f.plain = true → t.kok → (f.enc ver x t).length ≤ f.maxB x
  | .mk kind frm to null tag dfl of sub, t, hp, hk => by
    simp only [FD.plain, Bool.and_eq_true, decide_eq_true_eq] at hp
    have hpl := hp.2.2
    have part : ∀ y : TR, y.kok → (joinP x (bodyP ver x sub 0 y) (unknownP sub y.u)).length ≤ FD.maxL x sub + tagM x := fun y hy => by
      rw [kok_body hpl, List.length_append]
      have a := FD.bodyP_le ver x sub 0 y hpl hy
      have b := tail_le (x := x) (TR.kok_u hy)
      omega
    rw [FD.enc_eq']
    simp only [FD.kind, FD.of, FD.null, FD.sub, FD.maxB]
    unfold fieldP
    by_cases h11 : kind = 11
    · rw [if_pos h11, if_pos h11, List.length_append]
      have hl : (if FD.nullV (.mk kind frm to null tag dfl of sub) ver t = true then [] else t.l.take 32767).length ≤ 32767 := by
        split
        · simp
        · exact take_le _
      have c := countedP_le (x := x) (nl := FD.nullV (.mk kind frm to null tag dfl of sub) ver t) (k := 4) hl (by omega)
      have f1 : ((if FD.nullV (.mk kind frm to null tag dfl of sub) ver t = true then [] else t.l.take 32767).flatMap (valP x of (fun y => joinP x (bodyP ver x sub 0 y) (unknownP sub y.u)) false)).length ≤ (if FD.nullV (.mk kind frm to null tag dfl of sub) ver t = true then [] else t.l.take 32767).length * valM of (FD.maxL x sub + tagM x) :=
        flat_le fun y hy => valP_le (part y (by
          split at hy
          · simp at hy
          · exact TR.kok_mem hk (List.mem_of_mem_take hy)))
      have := Nat.mul_le_mul_right (valM of (FD.maxL x sub + tagM x)) hl
      omega
    · rw [if_neg h11, if_neg h11]
      split
      · rename_i h10
        have : valM kind (FD.maxL x sub + tagM x) = FD.maxL x sub + tagM x := by unfold valM; rw [if_pos h10.1]
        rw [this]
        split
        · rw [beI_length]; omega
        · rw [List.length_append, beI_length]
          have : ((fun y => joinP x (bodyP ver x sub 0 y) (unknownP sub y.u)) t).length ≤ FD.maxL x sub + tagM x := part t hk
          omega
      · have := valP_le (x := x) (nl := FD.nullV (.mk kind frm to null tag dfl of sub) ver t) (k := kind) (part := fun y => joinP x (bodyP ver x sub 0 y) (unknownP sub y.u)) (part t hk)
        omega
theorem FD.bodyP_le (ver : Int) (x : Bool) : ∀ (l : List FD) (i : Nat) (t : TR), FD.plainL l = true → t.kok → (bodyP ver x l i t).length ≤ FD.maxL x l
  | [], _, _, _, _ => by simp [bodyP]
  | f :: l, i, t, hp, hk => by
    simp only [FD.plainL, Bool.and_eq_true] at hp
    have a := FD.enc_le ver x f (t.at i) hp.1 (hk.at i)
    have b := FD.bodyP_le ver x l (i + 1) t hp.2 hk
    simp only [bodyP, FD.maxL, List.length_append]
    split
    · omega
    · simp; omega
end
theorem writeP_le {m : MD} {ver : Int} {t : TR} {N : Nat} (hp : FD.plainL m.fs = true) (hk : t.kok) (hN : FD.maxL (m.isFlex ver) m.fs + tagM (m.isFlex ver) ≤ N) : (writeP m ver t).length ≤ N := by
  have e : writeP m ver t = bodyP ver (m.isFlex ver) m.fs 0 t ++ tailP (m.isFlex ver) t.u := by
    unfold writeP partP
    rw [unknownP_plain hp]; rfl
  rw [e, List.length_append]
  have a := FD.bodyP_le ver (m.isFlex ver) m.fs 0 t hp hk
  have b := tail_le (x := m.isFlex ver) (TR.kok_u hk)
  omega
end Go.Msk

namespace Go.Msk
set_option maxRecDepth 100000
def wtU : List (Nat × List UInt8) → Nat
  | [] => 0
  | p :: u => 1 + p.2.length + wtU u
mutual
/-- How much a tree holds. -/
def TR.wt : TR → Nat
  | .mk _ s _ l u => 1 + s.length + TR.wtL l + wtU u
def TR.wtL : List TR → Nat
  | [] => 0
  | t :: l => t.wt + TR.wtL l
end
mutual
/-- All numbers have 64 bits. -/
def TR.nok : TR → Prop
  | .mk n _ _ l _ => IntKind.i64.wrap n = n ∧ TR.nokL l
def TR.nokL : List TR → Prop
  | [] => True
  | t :: l => t.nok ∧ TR.nokL l
end
theorem TR.nokL_mem : ∀ {l : List TR}, TR.nokL l → ∀ t ∈ l, t.nok
  | [], _, t, h => by simp at h
  | a :: l, hs, t, h => by
    simp only [TR.nokL] at hs
    rcases List.mem_cons.1 h with rfl | h
    · exact hs.1
    · exact TR.nokL_mem hs.2 t h
theorem TR.nok.at {t : TR} (h : t.nok) (i : Nat) : (t.at i).nok := by
  unfold TR.at
  cases hg : t.l[i]? with
  | none => exact ⟨by decide, trivial⟩
  | some y =>
    cases t with
    | mk n s b l u => exact TR.nokL_mem h.2 y (List.mem_of_getElem? hg)
end Go.Msk

namespace Go.Msk
open Go.RowKit Go.ChangeShapes Go.WideShapes Go.ChangeAt
set_option maxRecDepth 100000
structure TreeTy (P : Program) (tT ti tS u8 tB tL tU tG tk : TypeId) : Prop where
  hT : ∃ fs : Array Field, P.underlying tT = some (.struct fs) ∧ fs.toList.map (fun f => (f.type, f.offset)) = [(ti, 0), (tS, 1), (tB, 2), (tL, 3), (tU, 4)]
  cT : P.cellsOf tT = 5
  hi : P.underlying ti = some (.int .i64)
  ci : P.cellsOf ti = 1
  hS : P.underlying tS = some (.slice u8)
  cS : P.cellsOf tS = 1
  h8 : P.underlying u8 = some (.int .u8)
  c8 : P.cellsOf u8 = 1
  hB : P.underlying tB = some .bool
  cB : P.cellsOf tB = 1
  hL : P.underlying tL = some (.slice tT)
  cL : P.cellsOf tL = 1
  hU : P.underlying tU = some (.slice tG)
  cU : P.cellsOf tU = 1
  hG : ∃ fs : Array Field, P.underlying tG = some (.struct fs) ∧ fs.toList.map (fun f => (f.type, f.offset)) = [(tk, 0), (tS, 1)]
  cG : P.cellsOf tG = 2
  hk : P.underlying tk = some (.int .u32)
  ck : P.cellsOf tk = 1
structure Bulk {H : Type} (f : DataW H → Nat) (fa : List (DataW H) → Nat) : Prop where
  int : ∀ k n, 1 ≤ f (.lit (.int k n))
  bool : ∀ b, 1 ≤ f (.lit (.bool b))
  none : 1 ≤ f .nil
  slice : ∀ a b, f (.slice a b) = fa a + fa b + 1
  agg : ∀ a, f (.agg a) = fa a + 1
  nil : fa [] = 0
  cons : ∀ d r, fa (d :: r) = f d + fa r
theorem Cells.join {w : World} {B o : Nat} {a b : List Value} (h : Cells w ⟨B, o, none⟩ a) (k : Cells w ⟨B, o + a.length, none⟩ b) : Cells w ⟨B, o, none⟩ (a ++ b) := by
  refine ⟨rfl, fun i v hv => ?_⟩
  by_cases hi : i < a.length
  · rw [List.getElem?_append_left hi] at hv; exact h.2 i v hv
  · rw [List.getElem?_append_right (by omega)] at hv
    have := k.2 _ v hv
    rwa [show o + a.length + (i - a.length) = o + i by omega] at this
theorem Cells.joinAll {w : World} {B sz : Nat} : ∀ {css : List (List Value)} {o : Nat}, (∀ c ∈ css, c.length = sz) → (∀ (i : Nat) (c : List Value), css[i]? = some c → Cells w ⟨B, o + i * sz, none⟩ c) → Cells w ⟨B, o, none⟩ css.flatten
  | [], o, _, _ => ⟨rfl, fun i v hv => by simp at hv⟩
  | c :: css, o, hs, h => by
    rw [List.flatten_cons]
    have h0 := h 0 c rfl
    refine Cells.join (by simpa using h0) ?_
    rw [hs c (by simp)]
    refine Cells.joinAll (fun x hx => hs x (by simp [hx])) fun i x hx => ?_
    have := h (i + 1) x (by simpa using hx)
    rwa [show o + sz + i * sz = o + (i + 1) * sz by rw [Nat.add_mul, Nat.one_mul]; omega]
section
variable {H : Type} {enc : TypeId × Value → H} {P : Program} {w : World}
theorem cells?_spec {a : Addr} {n : Nat} {cs : List Value} (h : w.cells? 0 a n = some cs) : cs.length = n ∧ (0 < n → a.spot = none ∧ a.block < w.heap.size ∧ Cells w a cs) := by
  unfold World.cells? at h
  rw [if_pos (Nat.zero_le _)] at h
  have hl : cs.length = n := by simpa using mapM_some_length h
  refine ⟨hl, fun hn => ?_⟩
  have hg : ∀ i, i < n → w.cell? (a.add i) = cs[i]? := fun i hi => mapM_some_get h i i (by simp [hi])
  have h0 := hg 0 hn
  obtain ⟨v, hv⟩ : ∃ v, cs[0]? = some v := ⟨cs[0], List.getElem?_eq_getElem (by omega)⟩
  rw [hv] at h0
  have hspot : a.spot = none := by simpa [Addr.add] using World.cell?_spot h0
  have hlt : a.block < w.heap.size := by have := World.block_lt_of_cell? w _ h0; simpa [Addr.add] using this
  refine ⟨hspot, hlt, hspot, fun i v hi => ?_⟩
  have hi' : i < n := by rw [← hl]; exact (List.getElem?_eq_some_iff.1 hi).1
  have := hg i hi'
  rw [hi, Addr.add_of hspot] at this
  exact this
theorem slice_things {base : Addr} {len cap sz n : Nat} {e : TypeId} {elems rest : List (DataW H × List MemPlace)} (hsz : P.cellsOf e = sz) (hpos : 0 < sz) (hlen : len ≤ cap) (hel : elems.length = len)
    (he : ∀ i, i < len → (w.cells? 0 (base.add (i * P.cellsOf e)) (P.cellsOf e)).bind (DataW.trod enc P w 0 (fun _ => true) true n e) = elems[i]?)
    (hr : rest.length = cap - len ∧ ∀ j, j < cap - len → (w.cells? 0 (base.add ((len + j) * P.cellsOf e)) (P.cellsOf e)).bind (DataW.trod enc P w 0 (fun _ => true) true n e) = rest[j]?) :
    ∃ css : List (List Value), css.length = len ∧ SlC anyB w (.slice (some base) len cap) len css.flatten ∧ (∀ c ∈ css, c.length = sz) ∧ ∀ (i : Nat) (c : List Value), css[i]? = some c → ∃ y, elems[i]? = some y ∧ DataW.trod enc P w 0 (fun _ => true) true n e c = some y := by
  subst hsz
  have hone : ∀ i, i < len → ∃ cs y, w.cells? 0 (base.add (i * P.cellsOf e)) (P.cellsOf e) = some cs ∧ DataW.trod enc P w 0 (fun _ => true) true n e cs = some y ∧ elems[i]? = some y := by
    intro i hi
    have h := he i hi
    have hg := List.getElem?_eq_getElem (l := elems) (i := i) (by omega)
    rw [hg] at h
    obtain ⟨cs, h1, h2⟩ := Option.bind_eq_some_iff.1 h
    exact ⟨cs, _, h1, h2, hg⟩
  have hb : 0 < cap → base.spot = none ∧ base.block < w.heap.size := by
    intro hc
    by_cases h0 : 0 < len
    · obtain ⟨cs, y, h1, -⟩ := hone 0 h0
      obtain ⟨-, h2⟩ := cells?_spec h1
      obtain ⟨q1, q2, -⟩ := h2 hpos
      exact ⟨by simpa [Addr.add] using q1, by simpa [Addr.add] using q2⟩
    · have h := hr.2 0 (by omega)
      rw [List.getElem?_eq_getElem (by omega)] at h
      obtain ⟨cs, h1, -⟩ := Option.bind_eq_some_iff.1 h
      have e0 : len = 0 := by omega
      subst e0
      obtain ⟨-, h2⟩ := cells?_spec h1
      obtain ⟨q1, q2, -⟩ := h2 hpos
      exact ⟨by simpa [Addr.add] using q1, by simpa [Addr.add] using q2⟩
  let css := (List.range len).map fun i => (w.cells? 0 (base.add (i * P.cellsOf e)) (P.cellsOf e)).getD []
  have hget : ∀ (i : Nat) (c : List Value), css[i]? = some c → i < len ∧ w.cells? 0 (base.add (i * P.cellsOf e)) (P.cellsOf e) = some c := by
    intro i c hc
    have hi : i < len := by have := (List.getElem?_eq_some_iff.1 hc).1; simpa [css] using this
    refine ⟨hi, ?_⟩
    obtain ⟨cs, y, h1, -⟩ := hone i hi
    simp only [css, List.getElem?_map, List.getElem?_range hi, Option.map_some, h1, Option.getD_some, Option.some.injEq] at hc
    rw [h1, hc]
  have hszs : ∀ c ∈ css, c.length = P.cellsOf e := by
    intro c hc
    obtain ⟨i, hi⟩ := List.getElem?_of_mem hc
    exact (cells?_spec (hget i c hi).2).1
  refine ⟨css, by simp [css], ⟨some base, cap, rfl, hlen, by simp, fun a ha hc => ?_⟩, hszs, fun i c hi => ?_⟩
  · simp only [Option.some.injEq] at ha; subst ha
    obtain ⟨h1, h2⟩ := hb hc
    refine ⟨trivial, h2, ?_⟩
    obtain ⟨B, o, s⟩ := base
    simp only at h1
    subst h1
    refine Cells.joinAll hszs fun i c hi => ?_
    obtain ⟨hil, hcs⟩ := hget i c hi
    obtain ⟨-, h3⟩ := cells?_spec hcs
    obtain ⟨-, -, q⟩ := h3 hpos
    rwa [Addr.add_mk] at q
  · obtain ⟨hil, hcs⟩ := hget i c hi
    obtain ⟨cs, y, h1, h2, h3⟩ := hone i hil
    rw [h1] at hcs
    simp only [Option.some.injEq] at hcs
    exact ⟨y, h3, by rw [← hcs]; exact h2⟩
theorem octets_of {t u : TypeId} {n : Nat} {cs : List Value} {x : DataW H × List MemPlace} (ht : P.underlying t = some (.slice u)) (hu : P.underlying u = some (.int .u8)) (hc : P.cellsOf u = 1) (h : DataW.trod enc P w 0 (fun _ => true) true n t cs = some x) :
    ∃ v l, cs = [v] ∧ SlC anyB w v l.length (u8s l) ∧ ∀ f fa, Bulk (H := H) f fa → l.length + 1 ≤ f x.1 := by
  rcases DataW.trod_slice ht h with ⟨rfl, rfl⟩ | ⟨a, len, cap, elems, rest, m, -, rfl, ex, -, hl, -, hel, he, hr, -⟩
  · exact ⟨_, [], rfl, SlC.nil, fun f fa B => B.none⟩
  · obtain ⟨css, k1, k2, k3, k4⟩ := slice_things (sz := 1) hc (by omega) hl hel he (hr rfl)
    have key : ∀ (css : List (List Value)) (es : List (DataW H × List MemPlace)), (∀ (i : Nat) (c : List Value), css[i]? = some c → ∃ y, es[i]? = some y ∧ DataW.trod enc P w 0 (fun _ => true) true m u c = some y) → ∃ l : List UInt8, l.length = css.length ∧ css.flatten = u8s l ∧ ∀ f fa, Bulk (H := H) f fa → l.length ≤ fa (es.map (·.1)) := by
      intro css
      induction css with
      | nil => intro es _; exact ⟨[], rfl, rfl, fun f fa _ => Nat.zero_le _⟩
      | cons c css ih =>
        intro es hh
        obtain ⟨y, h0, hy⟩ := hh 0 c rfl
        obtain ⟨es, rfl⟩ : ∃ r, es = y :: r := by
          cases es with
          | nil => simp at h0
          | cons a r => simp only [List.getElem?_cons_zero, Option.some.injEq] at h0; exact ⟨r, by rw [h0]⟩
        obtain ⟨z, rfl, ey, hw⟩ := DataW.trod_int hu hy
        obtain ⟨l, h1, h2, h3⟩ := ih es fun i x hx => by have := hh (i + 1) x (by simpa using hx); simpa using this
        obtain ⟨z0, z1⟩ := u8_of hw
        refine ⟨UInt8.ofNat z.toNat :: l, by simp [h1], ?_, fun f fa B => by
          have q := h3 f fa B
          have q0 := B.int .u8 z
          rw [List.map_cons, B.cons, ey, List.length_cons]
          show _ ≤ f (.lit (.int .u8 z)) + _
          omega⟩
        have e : ((UInt8.ofNat z.toNat).toNat : Int) = z := by simp; omega
        simp only [List.flatten_cons, h2, u8s, List.map_cons, List.cons_append, List.nil_append]
        rw [e]
    obtain ⟨l, h1, h2, h3⟩ := key css elems k4
    refine ⟨_, l, rfl, ?_, fun f fa B => ?_⟩
    · rw [h1, k1, ← h2]; exact k2
    · have q := h3 f fa B
      rw [ex]
      show _ ≤ f (.slice _ _)
      rw [B.slice]
      omega
theorem u32_of {n : Int} (h : (Lit.int .u32 n).wf = true) : 0 ≤ n ∧ n < 4294967296 := by
  simp only [Lit.wf, Bool.and_eq_true, decide_eq_true_eq] at h
  have h1 : IntKind.u32.min = 0 := by rfl
  have h2 : IntKind.u32.max = 4294967295 := by rfl
  omega
theorem i64_of {n : Int} (h : (Lit.int .i64 n).wf = true) : IntKind.i64.wrap n = n := by
  simp only [Lit.wf, Bool.and_eq_true, decide_eq_true_eq] at h
  have h1 : IntKind.i64.min = -9223372036854775808 := by rfl
  have h2 : IntKind.i64.max = 9223372036854775807 := by rfl
  simp only [IntKind.wrap, IntKind.bits, IntKind.signed]; simp; omega
variable {tT ti tS u8 tB tL tU tG tk : TypeId}
theorem field_at {fs : Array Field} {l : List (TypeId × Nat)} (h : fs.toList.map (fun f => (f.type, f.offset)) = l) {i : Nat} {t : TypeId} {o : Nat} (hi : l[i]? = some (t, o)) : ∃ f, fs[i]? = some f ∧ f.type = t ∧ f.offset = o := by
  rw [← h, List.getElem?_map] at hi
  obtain ⟨f, hf, e⟩ := Option.map_eq_some_iff.1 hi
  simp only [Prod.mk.injEq] at e
  exact ⟨f, by simpa using hf, e.1, e.2⟩
theorem tag_of (T : TreeTy P tT ti tS u8 tB tL tU tG tk) {n : Nat} {cs : List Value} {x : DataW H × List MemPlace} (h : DataW.trod enc P w 0 (fun _ => true) true n tG cs = some x) :
    ∃ (k : Nat) (v : Value) (l : List UInt8), cs = [.int .u32 k, v] ∧ k < 4294967296 ∧ SlC anyB w v l.length (u8s l) ∧ ∀ f fa, Bulk (H := H) f fa → 1 + l.length ≤ f x.1 := by
  obtain ⟨fs, hfs, hl⟩ := T.hG
  obtain ⟨xs, m, -, ex, hlen, hxl, hx⟩ := DataW.trod_struct hfs h
  rw [T.cG] at hlen
  obtain ⟨a, b, rfl⟩ : ∃ a b, cs = [a, b] := by match cs, hlen with | [a, b], _ => exact ⟨a, b, rfl⟩
  have hn : xs.length = 2 := by rw [hxl, ← Array.length_toList, ← List.length_map (f := fun f : Field => (f.type, f.offset)), hl]; rfl
  obtain ⟨f0, g0, g1, g2⟩ := field_at hl (i := 0) rfl
  obtain ⟨f1, k0, k1, k2⟩ := field_at hl (i := 1) rfl
  have q0 := hx 0 f0 g0
  have q1 := hx 1 f1 k0
  rw [g1, g2, T.ck, List.getElem?_eq_getElem (by omega)] at q0
  rw [k1, k2, T.cS, List.getElem?_eq_getElem (by omega)] at q1
  simp only [List.drop_zero, List.take_succ_cons, List.take_zero, List.drop_succ_cons] at q0 q1
  obtain ⟨z, e0, -, hw⟩ := DataW.trod_int T.hk q0
  obtain ⟨v, l, e1, hs, hb⟩ := octets_of T.hS T.h8 T.c8 q1
  simp only [List.cons.injEq, and_true] at e0 e1
  obtain ⟨z0, z1⟩ := u32_of hw
  refine ⟨z.toNat, v, l, ?_, by omega, hs, fun f fa B => ?_⟩
  · rw [e0, e1, Int.toNat_of_nonneg z0]
  · have q := hb f fa B
    obtain ⟨a, b, rfl⟩ : ∃ a b, xs = [a, b] := by match xs, hn with | [a, b], _ => exact ⟨a, b, rfl⟩
    simp only [List.getElem_cons_succ, List.getElem_cons_zero] at q
    rw [ex]
    show _ ≤ f (.agg _)
    rw [B.agg]
    simp only [List.map_cons, B.cons]
    omega
theorem tree_of (T : TreeTy P tT ti tS u8 tB tL tU tG tk) : ∀ (n : Nat) (cs : List Value) (x : DataW H × List MemPlace), DataW.trod enc P w 0 (fun _ => true) true n tT cs = some x → ∃ t : TR, RepT anyB w t cs ∧ t.kok ∧ t.nok ∧ ∀ f fa, Bulk (H := H) f fa → t.wt ≤ f x.1 := by
  intro n
  induction n using Nat.strongRecOn with
  | ind n ih =>
  intro cs x h
  obtain ⟨fs, hfs, hl⟩ := T.hT
  obtain ⟨xs, m, hm, ex, hlen, hxl, hx⟩ := DataW.trod_struct hfs h
  rw [T.cT] at hlen
  obtain ⟨a, b, c, d, e, rfl⟩ : ∃ a b c d e, cs = [a, b, c, d, e] := by match cs, hlen with | [a, b, c, d, e], _ => exact ⟨a, b, c, d, e, rfl⟩
  have hn : xs.length = 5 := by rw [hxl, ← Array.length_toList, ← List.length_map (f := fun f : Field => (f.type, f.offset)), hl]; rfl
  obtain ⟨f0, g0, g1, g2⟩ := field_at hl (i := 0) rfl
  obtain ⟨f1, k0, k1, k2⟩ := field_at hl (i := 1) rfl
  obtain ⟨f2, m0, m1, m2⟩ := field_at hl (i := 2) rfl
  obtain ⟨f3, p0, p1, p2⟩ := field_at hl (i := 3) rfl
  obtain ⟨f4, r0, r1, r2⟩ := field_at hl (i := 4) rfl
  have q0 := hx 0 f0 g0
  have q1 := hx 1 f1 k0
  have q2 := hx 2 f2 m0
  have q3 := hx 3 f3 p0
  have q4 := hx 4 f4 r0
  rw [g1, g2, T.ci, List.getElem?_eq_getElem (by omega)] at q0
  rw [k1, k2, T.cS, List.getElem?_eq_getElem (by omega)] at q1
  rw [m1, m2, T.cB, List.getElem?_eq_getElem (by omega)] at q2
  rw [p1, p2, T.cL, List.getElem?_eq_getElem (by omega)] at q3
  rw [r1, r2, T.cU, List.getElem?_eq_getElem (by omega)] at q4
  simp only [List.drop_zero, List.take_succ_cons, List.take_zero, List.drop_succ_cons] at q0 q1 q2 q3 q4
  obtain ⟨z, e0, -, hwz⟩ := DataW.trod_int T.hi q0
  obtain ⟨sv, s, e1, hs, hsb⟩ := octets_of T.hS T.h8 T.c8 q1
  obtain ⟨nb, e2, -⟩ := DataW.trod_bool T.hB q2
  simp only [List.cons.injEq, and_true] at e0 e1 e2
  -- the tree's own
  have hlist : ∃ (ls : List TR) (css : List (List Value)), SlC anyB w d ls.length css.flatten ∧ RepTL anyB w ls css ∧ TR.kokL ls ∧ TR.nokL ls ∧ ∀ f fa, Bulk (H := H) f fa → TR.wtL ls + 1 ≤ f (xs[3]'(by omega)).1 := by
    rcases DataW.trod_slice T.hL q3 with ⟨e3, e4⟩ | ⟨ad, len, cap, elems, rest, mm, hmm, e3, e4, -, hle, -, hel, he, hr, -⟩
    · simp only [List.cons.injEq, and_true] at e3
      subst e3
      exact ⟨[], [], SlC.nil, .nil, trivial, trivial, fun f fa B => by rw [e4]; exact B.none⟩
    · simp only [List.cons.injEq, and_true] at e3
      subst e3
      obtain ⟨css, u1, u2, -, u4⟩ := slice_things (sz := 5) T.cT (by omega) hle hel he (hr rfl)
      have key : ∀ (css : List (List Value)) (es : List (DataW H × List MemPlace)), (∀ (i : Nat) (c : List Value), css[i]? = some c → ∃ y, es[i]? = some y ∧ DataW.trod enc P w 0 (fun _ => true) true mm tT c = some y) → ∃ ls : List TR, ls.length = css.length ∧ RepTL anyB w ls css ∧ TR.kokL ls ∧ TR.nokL ls ∧ ∀ f fa, Bulk (H := H) f fa → TR.wtL ls ≤ fa (es.map (·.1)) := by
        intro css
        induction css with
        | nil => intro es _; exact ⟨[], rfl, .nil, trivial, trivial, fun f fa _ => Nat.zero_le _⟩
        | cons c css ihc =>
          intro es hh
          obtain ⟨y, h0, hy⟩ := hh 0 c rfl
          obtain ⟨es, rfl⟩ : ∃ r, es = y :: r := by
            cases es with
            | nil => simp at h0
            | cons a r => simp only [List.getElem?_cons_zero, Option.some.injEq] at h0; exact ⟨r, by rw [h0]⟩
          obtain ⟨t, ht, hk, hno, hb⟩ := ih mm (by omega) c y hy
          obtain ⟨ls, v1, v2, v3, v5, v4⟩ := ihc es fun i x hx => by have := hh (i + 1) x (by simpa using hx); simpa using this
          exact ⟨t :: ls, by simp [v1], .cons ht v2, ⟨hk, v3⟩, ⟨hno, v5⟩, fun f fa B => by
            have q1 := hb f fa B
            have q2 := v4 f fa B
            rw [List.map_cons, B.cons]
            simp only [TR.wtL]
            omega⟩
      obtain ⟨ls, v1, v2, v3, v5, v4⟩ := key css elems u4
      exact ⟨ls, css, by rw [v1, u1]; exact u2, v2, v3, v5, fun f fa B => by
        have q := v4 f fa B
        rw [e4]
        show _ ≤ f (.slice _ _)
        rw [B.slice]
        omega⟩
  have htags : ∃ (u : List (Nat × List UInt8)) (uss : List (List Value)), SlC anyB w e u.length uss.flatten ∧ RepU anyB w u uss ∧ (∀ p ∈ u, p.1 < 4294967296) ∧ ∀ f fa, Bulk (H := H) f fa → wtU u + 1 ≤ f (xs[4]'(by omega)).1 := by
    rcases DataW.trod_slice T.hU q4 with ⟨e3, e4⟩ | ⟨ad, len, cap, elems, rest, mm, hmm, e3, e4, -, hle, -, hel, he, hr, -⟩
    · simp only [List.cons.injEq, and_true] at e3
      subst e3
      exact ⟨[], [], SlC.nil, .nil, by simp, fun f fa B => by rw [e4]; exact B.none⟩
    · simp only [List.cons.injEq, and_true] at e3
      subst e3
      obtain ⟨css, u1, u2, -, u4⟩ := slice_things (sz := 2) T.cG (by omega) hle hel he (hr rfl)
      have key : ∀ (css : List (List Value)) (es : List (DataW H × List MemPlace)), (∀ (i : Nat) (c : List Value), css[i]? = some c → ∃ y, es[i]? = some y ∧ DataW.trod enc P w 0 (fun _ => true) true mm tG c = some y) → ∃ u : List (Nat × List UInt8), u.length = css.length ∧ RepU anyB w u css ∧ (∀ p ∈ u, p.1 < 4294967296) ∧ ∀ f fa, Bulk (H := H) f fa → wtU u ≤ fa (es.map (·.1)) := by
        intro css
        induction css with
        | nil => intro es _; exact ⟨[], rfl, .nil, by simp, fun f fa _ => Nat.zero_le _⟩
        | cons c css ihc =>
          intro es hh
          obtain ⟨y, h0, hy⟩ := hh 0 c rfl
          obtain ⟨es, rfl⟩ : ∃ r, es = y :: r := by
            cases es with
            | nil => simp at h0
            | cons a r => simp only [List.getElem?_cons_zero, Option.some.injEq] at h0; exact ⟨r, by rw [h0]⟩
          obtain ⟨k, v, l, rfl, hk, hv, hb⟩ := tag_of T hy
          obtain ⟨u, v1, v2, v3, v4⟩ := ihc es fun i x hx => by have := hh (i + 1) x (by simpa using hx); simpa using this
          refine ⟨(k, l) :: u, by simp [v1], .cons hv v2, fun p hp => ?_, fun f fa B => ?_⟩
          · rcases List.mem_cons.1 hp with rfl | hp
            · exact hk
            · exact v3 p hp
          · have q1 := hb f fa B
            have q2 := v4 f fa B
            rw [List.map_cons, B.cons]
            simp only [wtU]
            omega
      obtain ⟨u, v1, v2, v3, v4⟩ := key css elems u4
      exact ⟨u, css, by rw [v1, u1]; exact u2, v2, v3, fun f fa B => by
        have q := v4 f fa B
        rw [e4]
        show _ ≤ f (.slice _ _)
        rw [B.slice]
        omega⟩
  obtain ⟨ls, css, l1, l2, l3, l5, l4⟩ := hlist
  obtain ⟨u, uss, w1, w2, w3, w4⟩ := htags
  subst e0; subst e1; subst e2
  refine ⟨.mk z s nb ls u, .mk hs l1 l2 w1 w2, ⟨w3, l3⟩, ⟨i64_of hwz, l5⟩, fun f fa B => ?_⟩
  have a1 := hsb f fa B
  have a2 := l4 f fa B
  have a3 := w4 f fa B
  obtain ⟨x0, x1, x2, x3, x4, rfl⟩ : ∃ a b c d e, xs = [a, b, c, d, e] := by match xs, hn with | [a, b, c, d, e], _ => exact ⟨a, b, c, d, e, rfl⟩
  simp only [List.getElem_cons_succ, List.getElem_cons_zero] at a1 a2 a3
  rw [ex]
  show _ ≤ f (.agg _)
  rw [B.agg]
  simp only [List.map_cons, B.cons, TR.wt]
  omega
theorem open_tree (T : TreeTy P tT ti tS u8 tB tL tU tG tk) (hl : laidOutB P = true) (hrd : P.readableRec tT = true) (hrow : tT < P.types.size) {v : Value} {d : DataW H} {p : List MemPlace} {base : Nat} (hv : Value.okWide P w .any base tT v)
    (h : DataW.Trod enc P w 0 (fun _ => true) true tT v d p) :
    ∃ (t : TR) (ts : List Value), v = .agg ts.toArray ∧ RepT anyB w t ts ∧ t.kok ∧ t.nok ∧ (∀ f fa, Bulk (H := H) f fa → t.wt ≤ f d) ∧ ∀ W', Mod [] w W' → DataW.Trod enc P W' 0 (fun b => decide (b < w.heap.size)) true tT v d p := by
  obtain ⟨fs, hfs, -⟩ := T.hT
  simp only [Value.okWide, hfs] at hv
  obtain ⟨cs, rfl, -, -⟩ := hv
  obtain ⟨n, hn⟩ := id h
  obtain ⟨t, ht, hk, hno, hb⟩ := tree_of T n _ _ hn
  have ec : (Value.agg cs).cells.toList = cs.toList := rfl
  rw [ec] at ht
  have hlt : ∀ q ∈ p, q.block < w.heap.size := fun q hq => DataW.trod_lt n tT _ _ hn q hq
  refine ⟨t, cs.toList, by simp, ht, hk, hno, hb, fun W' hm => ?_⟩
  refine Go.WideElems.Trod_stays hl hrd hrow h (fun q hq => ?_) fun q hq => by simpa using hlt q hq
  have hq := hlt q hq
  cases q with
  | cell b off => exact World.cell?_of_block (hm.block b hq (by simp))
  | map b => exact hm.block b hq (by simp)
end
end Go.Msk
