/- A small language of resolved operations, and what the generic and the generated functions do in it (part 16). -/
import Derived.Test.YtfoljfjkifiboaaFo

namespace Go.Msk
open Go.RowKit
set_option maxRecDepth 100000
def tagOne (ver : Int) (flex : Bool) (tag : Nat) : List FD → Nat → TR → List (Nat × List UInt8)
  | [], _, _ => []
  | f :: r, i, t => (if f.tag = tag ∧ f.isUs (t.at i) = false then [(tag, f.enc ver flex (t.at i))] else []) ++ tagOne ver flex tag r (i + 1) t
def tagsQ (l : List (Nat × List UInt8)) : List UInt8 := l.flatMap fun p => uvE p.1 ++ (uvE p.2.length ++ p.2)
def ktagsP (ver : Int) (flex : Bool) (fs : List FD) (t : TR) (k : Nat) : List (Nat × List UInt8) := (List.range k).flatMap fun tag => tagOne ver flex tag fs 0 t
def partK (ver : Int) (flex : Bool) (fs : List FD) (t : TR) : List UInt8 :=
  bodyP ver flex fs 0 t ++ if flex then uvE ((ktagsP ver flex fs t (knownP fs)).length + (unknownP fs t.u).length) ++ (tagsQ (ktagsP ver flex fs t (knownP fs)) ++ tagsP (unknownP fs t.u)) else []
theorem tagOne_append (ver : Int) (flex : Bool) (tag : Nat) : ∀ (a b : List FD) (i : Nat) (t : TR), tagOne ver flex tag (a ++ b) i t = tagOne ver flex tag a i t ++ tagOne ver flex tag b (i + a.length) t
  | [], b, i, t => by simp [tagOne]
  | f :: a, b, i, t => by
    rw [List.cons_append, tagOne, tagOne, tagOne_append ver flex tag a b (i + 1) t, List.append_assoc]
    congr 3
    simp; omega
theorem tagOne_snoc {ver : Int} {flex : Bool} {tag : Nat} {fs : List FD} {t : TR} {j : Nat} {f : FD} (h : fs[j]? = some f) :
    tagOne ver flex tag (fs.take (j + 1)) 0 t = tagOne ver flex tag (fs.take j) 0 t ++ (if f.tag = tag ∧ f.isUs (t.at j) = false then [(tag, f.enc ver flex (t.at j))] else []) := by
  have hl : j < fs.length := (List.getElem?_eq_some_iff.1 h).1
  rw [take_succ_of h, tagOne_append]
  have e : 0 + (fs.take j).length = j := by simp; omega
  rw [e]; simp [tagOne]
theorem tagsQ_append (a b : List (Nat × List UInt8)) : tagsQ (a ++ b) = tagsQ a ++ tagsQ b := by simp [tagsQ, List.flatMap_append]
theorem ktagsP_succ (ver : Int) (flex : Bool) (fs : List FD) (t : TR) (k : Nat) : ktagsP ver flex fs t (k + 1) = ktagsP ver flex fs t k ++ tagOne ver flex k fs 0 t := by
  simp [ktagsP, List.range_succ, List.flatMap_append]
theorem tagOne_take_le (ver : Int) (flex : Bool) (tag : Nat) (fs : List FD) (t : TR) (j : Nat) : ∃ r, tagOne ver flex tag fs 0 t = tagOne ver flex tag (fs.take j) 0 t ++ r := by
  refine ⟨tagOne ver flex tag (fs.drop j) (0 + (fs.take j).length) t, ?_⟩
  rw [← tagOne_append, List.take_append_drop]
theorem ktagsP_le (ver : Int) (flex : Bool) (fs : List FD) (t : TR) {k K : Nat} (h : k ≤ K) : ∃ r, ktagsP ver flex fs t K = ktagsP ver flex fs t k ++ r := by
  obtain ⟨d, rfl⟩ : ∃ d, K = k + d := ⟨K - k, by omega⟩
  induction d with
  | zero => exact ⟨[], by simp⟩
  | succ d ih =>
    obtain ⟨r, hr⟩ := ih (by omega)
    exact ⟨r ++ tagOne ver flex (k + d) fs 0 t, by rw [← Nat.add_assoc, ktagsP_succ, hr, List.append_assoc]⟩
theorem tagOne_len (ver : Int) (flex : Bool) (tag : Nat) : ∀ (fs : List FD) (i : Nat) (t : TR), (tagOne ver flex tag fs i t).length ≤ fs.length
  | [], _, _ => by simp [tagOne]
  | f :: r, i, t => by
    have := tagOne_len ver flex tag r (i + 1) t
    simp only [tagOne, List.length_append, List.length_cons]
    split <;> simp <;> omega
theorem ktagsP_len (ver : Int) (flex : Bool) (fs : List FD) (t : TR) : ∀ k, (ktagsP ver flex fs t k).length ≤ k * fs.length
  | 0 => by simp [ktagsP]
  | k + 1 => by
    have h1 := ktagsP_len ver flex fs t k
    have h2 := tagOne_len ver flex k fs 0 t
    rw [ktagsP_succ, List.length_append, Nat.add_mul]
    omega
section
variable {P : Program} {F : Nat → Nat}
attribute [local simp] gOk updo upd ev RK.val? isShift intBin Addr.add_mk args0 Value.cells undef
theorem eql_int (a b : Int) : (a == b) = decide (a = b) := rfl
theorem part_ktag (hm : P.follows .mixedOrders = true) (ha : liftF P (F sAt) = some (ir_sAt F)) (hu : liftF P (F sUvarint) = some (ir_sUvarint F))
    {w0 w : World} {tb j n c k cnt : Nat} {ver : Int} {flex : Bool} {f : FD} {fcs tcs : List Value} {t : TR} {σ : Sl} {a : Addr} {out : List UInt8} {Q : Exit → Sl → World → Prop}
    (hm0 : Mod [] w0 w) (hbt : Blk w0 tb tcs) (hrf : RepF anyB w0 f fcs) (hrt : RepT anyB w0 t tcs) (hkk : t.kok) (hF : FieldC P F ver flex f) (hUs : f.tag = (k : Nat) → UsC P F f) (hk : k < 4294967296)
    (h1 : σ 1 = .int .i64 ver) (h2 : σ 2 = .bool flex) (h7 : σ 7 = .pointer (some ⟨tb, 0, none⟩)) (h55 : σ 55 = .slice (some a) n c) (h57 : σ 57 = .int .i64 (j : Nat)) (hj : j < n) (hcell : cellsAt w0 (a.add (j * 8)) 0 8 = some fcs)
    (h14 : σ 14 = .int .i64 (k : Nat)) (h11 : σ 11 = .int .i64 (cnt : Nat)) (hcnt : cnt < 4611686018427387904)
    (h10 : DRaw w w0.heap.size (σ 10) out) (hlen : (out ++ tagsQ (if f.tag = k ∧ f.isUs (t.at j) = false then [(k, f.enc ver flex (t.at j))] else [])).length ≤ lim)
    (hQ : ∀ σ' w', (∀ s, s < 58 → s ≠ 10 → s ≠ 11 → s ≠ 15 → s ≠ 16 → s ≠ 17 → σ' s = σ s) → DRaw w' w0.heap.size (σ' 10) (out ++ tagsQ (if f.tag = k ∧ f.isUs (t.at j) = false then [(k, f.enc ver flex (t.at j))] else [])) →
      σ' 11 = .int .i64 ((cnt + (if f.tag = k ∧ f.isUs (t.at j) = false then [(k, f.enc ver flex (t.at j))] else []).length : Nat) : Int) → Mod [] w0 w' → Q .normal σ' w') :
    wpC P (.seq (.blk [⟨(some (59)), .mv (.tmp 57), none⟩,
                        ⟨(some (60)), .iad (.tmp 55) (.tmp 57) 8, none⟩,
                        ⟨(some (61)), .ldn (.tmp 60) 8, none⟩,
                        ⟨(some (16)), .alloc [.int .i64 0, .int .i64 0, .int .i64 0, .int .i64 0, .int .i64 0, .int .i64 0, .int .i64 0, .slice none 0 0], none⟩,
                        ⟨(some (15)), .mv (.tmp 59), none⟩,
                        ⟨none, .st (.tmp 16) 8 (.tmp 61), none⟩])
                    (.seq (ir_sPart_2 F)
                    (.cond (.tmp 73)
                      (ir_sPart_3 F)
                      (.skip)))) Q σ w := by
  have hcell1 := cellsAt_below hm0.below _ _ _ hcell
  rw [wpC_seq, wpC_blk]
  refine go1 (v := .int .i64 (j : Nat)) rfl (by simp [h57]) ?_
  refine go1 (v := .pointer (some (a.add (j * 8)))) rfl (by simp [h55, h57, hj]) ?_
  refine go1 (v := .agg fcs.toArray) rfl (by simp [hcell1]) ?_
  refine goAlloc fun w2 hb2 hm2 => ?_
  refine go1 (v := .int .i64 (j : Nat)) rfl (by simp) ?_
  refine goSt (b := w.heap.size) (v := .agg fcs.toArray) (by simp) (by simp) hb2 (by simp [hrf.eight]) rfl (by simpa using hrf.oneCell) fun w3 hb3 hm3 => goEnd ?_
  simp only [thenC]
  have hb3 : Blk w3 w.heap.size fcs := by simpa using hb3
  have hm13 : Mod [] w w3 := Mod.drop (b := w.heap.size) (S := []) (hm2.nil.trans hm3) (Nat.le_refl _)
  have hm03 := hm0.trans hm13
  have ht4 : fcs[4]? = some (.int .i64 f.tag) := by cases hrf; rfl
  rw [wpC_seq]
  unfold ir_sPart_2
  show wpD P _ [] _ w3.drew _
  have hmd : Mod [] w3 w3.drew := Mod.drew _ _
  have hm0d := hm03.trans hmd
  have hb3d := hb3.mod hmd (by simp)
  have c3 := fun k => hb3d.cell k
  have hl3 := cellsAt_of' hb3d.cells hrf.eight
  have hlt := cellsAt_of' (hbt.mod hm0d (by simp)).cells hrt.five
  refine wpD_of_B (fun i v w' => match i with | 8 => ∃ cs, v = .agg cs.toArray ∧ RepT anyB w' (t.at j) cs | 9 => v = .bool (f.isUs (t.at j)) | _ => True) (by
    intro i v w w' h hm
    split at h
    · obtain ⟨cs, e1, e2⟩ := h; exact ⟨cs, e1, e2.keep hm⟩
    · exact h
    · trivial) ?_
  refine bo1 (v := .pointer (some ⟨w.heap.size, 4, none⟩)) rfl (by simp) ?_
  refine bo1 (v := .int .i64 f.tag) rfl (by simp [c3, ht4]) ?_
  refine bo1 (v := .int .i64 (k : Nat)) rfl (by simp [h14]) ?_
  refine bo1 (v := .bool (decide (f.tag = (k : Nat)))) rfl (by simp [eql_int]) ?_
  refine bo1 (v := .bool (decide (f.tag = (k : Nat)))) rfl (by simp) ?_
  -- what follows the question
  have fin : ∀ (σ4 : Sl) (w4 : World), Mod [] w0 w4 → Mod [] w3 w4 → (∀ s, s < 58 → s ≠ 15 → s ≠ 16 → σ4 s = σ s) → σ4 15 = .int .i64 (j : Nat) → σ4 16 = .pointer (some ⟨w.heap.size, 0, none⟩) → σ4 73 = .bool (decide (f.tag = (k : Nat) ∧ f.isUs (t.at j) = false)) →
      wpC P (.cond (.tmp 73) (ir_sPart_3 F) .skip) Q σ4 w4 := by
    intro σ4 w4 hm04 hm34 hfr h15 h16 h73
    by_cases hc : f.tag = (k : Nat) ∧ f.isUs (t.at j) = false
    rotate_left
    · rw [wpC_cond_f (by simp [h73, hc]), wpC_skip]
      rw [if_neg hc] at hQ
      refine hQ σ4 w4 (fun s s1 s2 s3 s4 s5 s6 => hfr s s1 s4 s5) ?_ ?_ hm04
      · rw [hfr 10 (by omega) (by omega) (by omega)]
        simpa [tagsQ] using h10.keep (hm13.trans hm34)
      · rw [hfr 11 (by omega) (by omega) (by omega), h11]; simp
    rw [if_pos hc] at hQ hlen
    rw [wpC_cond_t (by simp [h73, hc])]
    have eq1 : tagsQ [(k, f.enc ver flex (t.at j))] = uvE k ++ (uvE (f.enc ver flex (t.at j)).length ++ f.enc ver flex (t.at j)) := by simp [tagsQ]
    rw [eq1] at hQ hlen
    have hlen' : out.length + ((uvE k).length + ((uvE (f.enc ver flex (t.at j)).length).length + (f.enc ver flex (t.at j)).length)) ≤ lim := by
      simp only [List.length_append] at hlen; omega
    clear hlen
    unfold ir_sPart_3
    have hb4 := hb3.mod hm34 (by simp)
    rw [wpC_seq]
    show wpD P _ [] _ w4.drew _
    have hmd4 : Mod [] w4 w4.drew := Mod.drew _ _
    have hm0d4 := hm04.trans hmd4
    have hl4 := cellsAt_of' (hb4.mod hmd4 (by simp)).cells hrf.eight
    have hlt4 := cellsAt_of' (hbt.mod hm0d4 (by simp)).cells hrt.five
    refine wpD_of_B (fun i v w' => match i with | 5 => ∃ cs, v = .agg cs.toArray ∧ RepT anyB w' (t.at j) cs | 6 => DRaw w' w4.heap.size v (f.enc ver flex (t.at j)) | _ => True) (by
      intro i v w w' h hm
      split at h
      · obtain ⟨cs, e1, e2⟩ := h; exact ⟨cs, e1, e2.keep hm⟩
      · exact h.keep hm
      · trivial) ?_
    refine bo1 (v := .agg fcs.toArray) rfl (by simp [h16, hl4]) ?_
    refine bo1 (v := .int .i64 ver) rfl (by simp [hfr 1 (by omega) (by omega) (by omega), h1]) ?_
    refine bo1 (v := .bool flex) rfl (by simp [hfr 2 (by omega) (by omega) (by omega), h2]) ?_
    refine bo1 (v := .agg tcs.toArray) rfl (by simp [hfr 7 (by omega) (by omega) (by omega), h7, hlt4]) ?_
    refine bo1 (v := .int .i64 (j : Nat)) rfl (by simp [h15]) ?_
    refine boCall (vs := [.agg tcs.toArray, .int .i64 (j : Nat)]) rfl (by simp) (fun w' hm' _ => (at_call hm ha (hrt.keep (hm0d4.trans hm'))).mono ?_) ?_
    · rintro e w'' ⟨cs, rfl, hr, hm2⟩; exact ⟨_, rfl, hm2, cs, rfl, hr⟩
    rintro v5 ⟨_, cs5, rfl, -⟩
    refine boCall (vs := [.agg fcs.toArray, .int .i64 ver, .bool flex, .agg cs5.toArray]) rfl (by simp) (fun w' hm' hkn => ?_) ?_
    · have hk6 := known_get (j := 5) (t := 79) hkn (by simp) rfl rfl rfl rfl
      obtain ⟨cs, e1, e2⟩ : ∃ cs, Value.agg cs5.toArray = .agg cs.toArray ∧ RepT anyB w' (t.at j) cs := by simpa using hk6
      rw [e1]
      refine (hF w' fcs (t.at j) cs (hrf.keep (hm0d4.trans hm')) e2 (hkk.at j) (by omega)).mono ?_
      rintro e w'' ⟨v, rfl, hd, hm2⟩; exact ⟨v, rfl, hm2, hd.low hm'.size⟩
    rintro v6 -
    refine bo1 (v := v6) rfl (by simp) ?_
    intro w5 hm5 hkn
    refine goEnd ?_
    simp only [thenC]
    have hk7 := known_get (j := 6) (t := 80) hkn (by simp) rfl rfl rfl rfl
    have d6 : DRaw w5 w4.heap.size v6 (f.enc ver flex (t.at j)) := by simpa using hk7
    have hm05 := hm0d4.trans hm5
    have r04 : DRaw w4 w0.heap.size (σ 10) out := h10.keep (hm13.trans hm34)
    have r0 : DRaw w5 w0.heap.size (σ 10) out := r04.keep (hmd4.trans hm5)
    generalize hσ : updo _ (some 17) _ = σ5
    have g5 : ∀ s, s < 58 → s ≠ 15 → s ≠ 16 → s ≠ 17 → σ5 s = σ s := fun s s1 s2 s3 s4 => by
      rw [← hσ]; simp only [updo, upd]
      repeat rw [if_neg (by omega)]
      exact hfr s s1 s2 s3
    have q17 : σ5 17 = v6 := by rw [← hσ]; simp
    clear hσ
    obtain ⟨b6, c6, e6⟩ := d6.slc.shape
    rw [wpC_seq, wpC_blk]
    refine go1 (v := σ 10) rfl (by simp [g5 10 (by omega) (by omega) (by omega) (by omega)]) ?_
    refine go1 (v := .int .i64 (k : Nat)) rfl (by simp [g5 14 (by omega) (by omega) (by omega) (by omega), h14]) ?_
    refine go1 (v := .int .u64 (k : Nat)) rfl (by simp [u64_natS (n := k) (by omega)]) ?_
    refine goCall rfl (vs := [.int .u64 (k : Nat)]) (by simp) (uvarint_call hm hu (by omega)) ?_
    rintro e w6 ⟨v7, rfl, hd7, hm6⟩
    refine ⟨v7, rfl, ?_⟩
    have r1 := r0.keep hm6
    have hm06 := hm05.trans hm6
    refine goC rfl (append_run (n0 := w0.heap.size) (v := σ 10) (by simp) r1 hm06.size (k := uvE k) (by simpa using hd7.src) (by omega) fun v8 w8 ha8 => ?_)
    have hm08 := ha8.mod0 r1 hm06
    have s6 := d6.keep hm6
    have s8 : DRaw w8 w4.heap.size v6 (f.enc ver flex (t.at j)) := s6.mod ha8.mod fun b hb hc => by
      have h1 := (d6.own hb).1
      have h2 := (r04.own (b := b) (by simpa using hc)).2
      omega
    refine go1 (v := v6) rfl (by simp [q17]) ?_
    refine go1 (v := .int .i64 ((f.enc ver flex (t.at j)).length : Nat)) rfl (by simp [e6]) ?_
    refine go1 (v := .int .u64 ((f.enc ver flex (t.at j)).length : Nat)) rfl (by simp [u64_natS (n := (f.enc ver flex (t.at j)).length) (by unfold lim at hlen'; omega)]) ?_
    refine goCall rfl (vs := [.int .u64 ((f.enc ver flex (t.at j)).length : Nat)]) (by simp) (uvarint_call hm hu (by unfold lim at hlen'; omega)) ?_
    rintro e w9 ⟨v9, rfl, hd9, hm9⟩
    refine ⟨v9, rfl, ?_⟩
    have r2 := ha8.raw.keep hm9
    have hm09 := hm08.trans hm9
    refine goC rfl (append_run (n0 := w0.heap.size) (v := v8) (by simp) r2 hm09.size (k := uvE (f.enc ver flex (t.at j)).length) (by simpa using hd9.src) (by simp only [List.length_append]; omega) fun v10 w10 ha10 => ?_)
    have hm010 := ha10.mod0 r2 hm09
    refine go1 (v := v6) rfl (by simp [q17]) ?_
    have hsrc : DRaw w10 w4.heap.size v6 (f.enc ver flex (t.at j)) := (s8.keep hm9).mod ha10.mod fun b hb hc => by
      have h1 := d6.own hb
      have h3 := hm6.size
      rcases ha8.own b (by simpa using hc) with h2 | h2
      · have := (r04.own h2).2; omega
      · omega
    refine goC rfl (append_run (n0 := w0.heap.size) (v := v10) (by simp) ha10.raw hm010.size (k := f.enc ver flex (t.at j)) (by simpa using hsrc.src) (by simp only [List.length_append]; omega) fun v11 w11 ha11 => ?_)
    have hm011 := ha11.mod0 ha10.raw hm010
    refine go1 (v := v11) rfl (by simp) (goEnd ?_)
    simp only [thenC]
    rw [wpC_blk]
    refine go1 (v := .int .i64 (cnt : Nat)) rfl (by simp [g5 11 (by omega) (by omega) (by omega) (by omega), h11]) ?_
    refine go1 (v := .int .i64 ((cnt + 1 : Nat) : Int)) rfl (by
      simp only [RK.val?, ev, updo, upd, if_true, isShift, decide_true, Bool.or_true, intBin]
      rw [show (cnt : Int) + 1 = ((cnt + 1 : Nat) : Int) by omega, i64_nat (by omega)]) ?_
    refine go1 (v := .int .i64 ((cnt + 1 : Nat) : Int)) rfl (by simp) (goEnd ?_)
    refine hQ _ w11 (fun s s1 s2 s3 s4 s5 s6 => ?_) (by simpa [List.append_assoc] using ha11.raw) (by simp) hm011
    simp only [updo, upd]
    repeat rw [if_neg (by omega)]
    exact g5 s s1 s4 s5 s6
  by_cases hc : f.tag = (k : Nat)
  · rw [show decide (f.tag = (k : Nat)) = true by simp [hc]]
    refine bo1 (v := .agg fcs.toArray) (by simp) (by simp [hl3]) ?_
    refine bo1 (v := .agg tcs.toArray) (by simp) (by simp [h7, hlt]) ?_
    refine bo1 (v := .int .i64 (j : Nat)) (by simp) (by simp) ?_
    refine boCall (vs := [.agg tcs.toArray, .int .i64 (j : Nat)]) (by simp) (by simp) (fun w' hm' _ => (at_call hm ha (hrt.keep (hm0d.trans hm'))).mono ?_) ?_
    · rintro e w'' ⟨cs, rfl, hr, hm2⟩; exact ⟨_, rfl, hm2, cs, rfl, hr⟩
    rintro v8 ⟨_, cs8, rfl, -⟩
    refine boCall (vs := [.agg fcs.toArray, .agg cs8.toArray]) (by simp) (by simp) (fun w' hm' hkn => ?_) ?_
    · have hk6 := known_get (j := 8) (t := 70) hkn (by simp) rfl rfl (by simp) rfl
      obtain ⟨cs, e1, e2⟩ : ∃ cs, Value.agg cs8.toArray = .agg cs.toArray ∧ RepT anyB w' (t.at j) cs := by simpa using hk6
      rw [e1]
      refine (hUs hc w' fcs _ cs (hrf.keep (hm0d.trans hm')) e2).mono ?_
      rintro e w'' ⟨rfl, hmm⟩; exact ⟨_, rfl, hmm, rfl⟩
    rintro v9 ⟨_, e9⟩
    have e9 : v9 = .bool (f.isUs (t.at j)) := e9
    subst e9
    refine bo1 (v := .bool (!f.isUs (t.at j))) (by simp) (by simp) ?_
    refine bo1 (v := .bool (!f.isUs (t.at j))) rfl (by simp) ?_
    intro w' hm' hkn
    refine goEnd ?_
    simp only [thenC]
    refine fin _ w' (hm0d.trans hm') (hmd.trans hm') (fun s s1 s2 s3 => ?_) (by simp) (by simp) (by simp [hc])
    simp only [updo, upd]
    repeat rw [if_neg (by omega)]
  · rw [show decide (f.tag = (k : Nat)) = false by simp [hc]]
    iterate 6 (refine bo0 (by simp) ?_)
    refine bo1 (v := .bool false) rfl (by simp) ?_
    intro w' hm' hkn
    refine goEnd ?_
    simp only [thenC]
    refine fin _ w' (hm0d.trans hm') (hmd.trans hm') (fun s s1 s2 s3 => ?_) (by simp) (by simp) (by simp [hc])
    simp only [updo, upd]
    repeat rw [if_neg (by omega)]
end
end Go.Msk

namespace Go.Msk
open Go.RowKit
set_option maxRecDepth 100000
def tkOne (sp off vb : Nat) (uv : FuncId) (t : KF) (j u : Nat) : IC :=
  .seq (.blk [⟨some u, .mv (.tmp sp), none⟩, ⟨some (u + 1), .nilc (.tmp u), none⟩, ⟨some (u + 2), .fad (.tmp (u + 1)) (off + j), none⟩, ⟨some (u + 3), .ld (.tmp (u + 2)), none⟩, ⟨some (vb + j), .mv (.tmp (u + 3)), none⟩])
  (.seq (.blk [⟨some (u + 4), .mv (.tmp 1), none⟩, ⟨some (u + 5), .call uv [.tmp (u + 4), .const (.int .u32 (j : Nat))], none⟩, ⟨some 1, .mv (.tmp (u + 5)), none⟩])
  (.seq (.blk [⟨some (u + 6), .mv (.tmp 1), none⟩, ⟨some (u + 7), .call uv [.tmp (u + 6), .const (.int .u32 (t.sz : Nat))], none⟩, ⟨some 1, .mv (.tmp (u + 7)), none⟩])
  (.blk [⟨some (u + 8), .mv (.tmp 1), none⟩, ⟨some (u + 9), .mv (.tmp (vb + j)), none⟩, ⟨some (u + 10), .call t.a [.tmp (u + 8), .tmp (u + 9)], none⟩, ⟨some 1, .mv (.tmp (u + 10)), none⟩])))
def tkCases (sp off vb kx : Nat) (uv : FuncId) : List KF → (j c : Nat) → IC
  | [], _, _ => .skip
  | t :: r, j, c => .seq (.blk [⟨some (c + 1), .bin .eql (.tmp kx) (.const (.int .u32 (j : Nat))), none⟩, ⟨some c, .mv (.tmp (c + 1)), none⟩])
      (.cond (.tmp c) (tkOne sp off vb uv t j (c + 2)) (tkCases sp off vb kx uv r (j + 1) (c + 13)))
def tkLoop (sp off nv nb : Nat) (uv : FuncId) (tks : List KF) (q : Nat) : IC :=
  .seq (.blk [⟨some q, .mv (.tmp nv), none⟩, ⟨some (q + 1), .len (.tmp q), none⟩, ⟨some (q + 2), .mv (.const (.int .i64 0)), none⟩])
  (.block nb (.loop (.seq (.blk [⟨some (q + 3), .bin .lss (.tmp (q + 2)) (.tmp (q + 1)), none⟩]) (.seq (.cond (.tmp (q + 3)) .skip (.exit nb))
    (.seq (.block (nb + 1) (.seq (.blk [⟨some (q + 4), .iad (.tmp q) (.tmp (q + 2)) 1, none⟩, ⟨some (q + 5), .ld (.tmp (q + 4)), none⟩, ⟨some (nv + 2), .mv (.tmp (q + 5)), none⟩])
      (.seq (.blk [⟨some (q + 6), .mv (.tmp (nv + 2)), none⟩]) (.block (nb + 2) (tkCases sp off (nv + 3) (q + 6) uv tks 0 (q + 7))))))
    (.blk [⟨some (q + 7 + 13 * tks.length), .bin .add (.tmp (q + 2)) (.const (.int .i64 1)), none⟩, ⟨some (q + 2), .mv (.tmp (q + 7 + 13 * tks.length)), none⟩]))))))
section
variable {P : Program}
attribute [local simp] gOk updo upd ev RK.val? isShift intBin Addr.add_mk args0 Value.cells undef
structure TkC (P : Program) (uv : FuncId) (tks : List KF) : Prop where
  uv : ∀ n : Nat, n < 4294967296 → AppC P uv (fun _ v => v = .int .u32 (n : Nat)) (uvE n)
  a : ∀ t ∈ tks, ∀ n : Int, AppC P t.a (fun _ v => v = .int t.k n) (beI t.sz n)
theorem one_wp {w0 w : World} {sp off vb j u B o kb : Nat} {uv : FuncId} {TS : List KF} (hT : TkC P uv TS) {t : KF} (ht : t ∈ TS) {n : Int} {σ : Sl} {l : List UInt8} {Q : Exit → Sl → World → Prop}
    (hs : σ sp = .pointer (some ⟨B, o, none⟩)) (hc : w0.cell? ⟨B, o + (off + j), none⟩ = some (.int t.k n)) (hm0 : Mod [] w0 w) (hd : DRaw w w0.heap.size (σ 1) l) (hkb : kb < w.heap.size) (hown : ownB (σ 1) ≠ some kb)
    (hj : j < 1000) (hz : t.sz < 1000) (hsu : sp < vb) (h1 : 1 < vb) (hvb : vb + j < u) (hl : l.length + (uvE j ++ (uvE t.sz ++ beI t.sz n)).length ≤ lim)
    (hQ : ∀ σ' w', (∀ i, i ≠ 1 → i ≠ vb + j → i < u → σ' i = σ i) → DRaw w' w0.heap.size (σ' 1) (l ++ (uvE j ++ (uvE t.sz ++ beI t.sz n))) → Mod [] w0 w' → ownB (σ' 1) ≠ some kb → (∀ vs, Blk w kb vs → Blk w' kb vs) → kb < w'.heap.size → Q .normal σ' w') :
    wpC P (tkOne sp off vb uv t j u) Q σ w := by
  simp only [List.length_append] at hl
  have hcell := cell_mod hc hm0 (by simp)
  have nb : ∀ {w1 w2 : World} {v : Value}, ownB v ≠ some kb → Mod (ownB v).toList w1 w2 → ∀ vs, Blk w1 kb vs → Blk w2 kb vs := fun {w1 w2 v} hv hm vs hb => hb.mod hm (by
    intro hc
    have : ownB v = some kb := by simpa using hc
    exact hv this)
  have nx : ∀ {w1 w2 : World} {v v' : Value} {l' : List UInt8}, AppD w0.heap.size w1 v w2 v' l' → ownB v ≠ some kb → kb < w1.heap.size → ownB v' ≠ some kb := fun {w1 w2 v v' l'} ha hv hk e => by
    rcases ha.own kb e with h | h
    · exact hv h
    · omega
  unfold tkOne
  rw [wpC_seq, wpC_blk]
  refine go1 (v := .pointer (some ⟨B, o, none⟩)) rfl (by simp [hs]) ?_
  refine go1 (v := .pointer (some ⟨B, o, none⟩)) rfl (by simp) ?_
  refine go1 (v := .pointer (some ⟨B, o + (off + j), none⟩)) rfl (by simp) ?_
  refine go1 (v := .int t.k n) rfl (by simp [hcell]) ?_
  refine go1 (v := .int t.k n) rfl (by simp) (goEnd ?_)
  simp only [thenC]
  generalize hσ : updo _ (some (vb + j)) _ = σ1
  have a1 : ∀ i, i < u → i ≠ vb + j → σ1 i = σ i := fun i hi hv => by rw [← hσ]; simp only [updo, upd, hv, show i ≠ u by omega, show i ≠ u + 1 by omega, show i ≠ u + 2 by omega, show i ≠ u + 3 by omega, if_false]
  have v1 : σ1 (vb + j) = .int t.k n := by rw [← hσ]; simp
  clear hσ
  have d1 : σ1 1 = σ 1 := a1 1 (by omega) (by omega)
  rw [wpC_seq, wpC_blk]
  refine go1 (v := σ 1) rfl (by simp [d1]) ?_
  refine goCall rfl (vs := [σ 1, .int .u32 (j : Nat)]) (by simp) (hT.uv j (by omega) w0.heap.size w (σ 1) _ l hd hm0.size (by omega) rfl) ?_
  rintro e w1 ⟨dv1, rfl, ha1⟩
  refine ⟨dv1, rfl, go1 (v := dv1) rfl (by simp) (goEnd ?_)⟩
  simp only [thenC]
  have hm1 := ha1.mod0 hd hm0
  have o1 := nx ha1 hown hkb
  have k1 : kb < w1.heap.size := Nat.lt_of_lt_of_le hkb ha1.mod.size
  generalize hσ : updo _ (some 1) _ = σ2
  have a2 : ∀ i, i < u → i ≠ vb + j → i ≠ 1 → σ2 i = σ i := fun i hi hv h1 => by rw [← hσ]; simp only [updo, upd, h1, show i ≠ u + 4 by omega, show i ≠ u + 5 by omega, if_false]; exact a1 i hi hv
  have v2 : σ2 (vb + j) = .int t.k n := by rw [← hσ]; simp only [updo, upd, show vb + j ≠ 1 by omega, show vb + j ≠ u + 4 by omega, show vb + j ≠ u + 5 by omega, if_false]; exact v1
  have d2 : σ2 1 = dv1 := by rw [← hσ]; simp
  clear hσ
  rw [wpC_seq, wpC_blk]
  refine go1 (v := dv1) rfl (by simp [d2]) ?_
  refine goCall rfl (vs := [dv1, .int .u32 (t.sz : Nat)]) (by simp) (hT.uv t.sz (by omega) w0.heap.size w1 dv1 _ _ ha1.raw hm1.size (by simp only [List.length_append]; omega) rfl) ?_
  rintro e w2 ⟨dv2, rfl, ha2⟩
  refine ⟨dv2, rfl, go1 (v := dv2) rfl (by simp) (goEnd ?_)⟩
  simp only [thenC]
  have hm2 := ha2.mod0 ha1.raw hm1
  have o2 := nx ha2 o1 k1
  have k2 : kb < w2.heap.size := Nat.lt_of_lt_of_le k1 ha2.mod.size
  generalize hσ : updo _ (some 1) _ = σ3
  have a3 : ∀ i, i < u → i ≠ vb + j → i ≠ 1 → σ3 i = σ i := fun i hi hv h1 => by rw [← hσ]; simp only [updo, upd, h1, show i ≠ u + 6 by omega, show i ≠ u + 7 by omega, if_false]; exact a2 i hi hv h1
  have v3 : σ3 (vb + j) = .int t.k n := by rw [← hσ]; simp only [updo, upd, show vb + j ≠ 1 by omega, show vb + j ≠ u + 6 by omega, show vb + j ≠ u + 7 by omega, if_false]; exact v2
  have d3 : σ3 1 = dv2 := by rw [← hσ]; simp
  clear hσ
  rw [wpC_blk]
  refine go1 (v := dv2) rfl (by simp [d3]) ?_
  refine go1 (v := .int t.k n) rfl (by simp [v3, show vb + j ≠ u + 8 by omega]) ?_
  refine goCall rfl (vs := [dv2, .int t.k n]) (by simp) (hT.a t ht n w0.heap.size w2 dv2 _ _ ha2.raw hm2.size (by simp only [List.length_append]; omega) rfl) ?_
  rintro e w3 ⟨dv3, rfl, ha3⟩
  refine ⟨dv3, rfl, go1 (v := dv3) rfl (by simp) (goEnd ?_)⟩
  have hm3 := ha3.mod0 ha2.raw hm2
  have o3 := nx ha3 o2 k2
  refine hQ _ w3 (fun i h1 hv hi => ?_) (by simpa [List.append_assoc] using ha3.raw) hm3 (by simpa using o3) (fun vs hb => nb o2 ha3.mod vs (nb o1 ha2.mod vs (nb hown ha1.mod vs hb))) (Nat.lt_of_lt_of_le k2 ha3.mod.size)
  simp only [updo, upd, h1, show i ≠ u + 8 by omega, show i ≠ u + 9 by omega, show i ≠ u + 10 by omega, if_false]
  exact a3 i hi hv h1
theorem cases_wp {w0 : World} {sp off vb kx B o kb : Nat} {uv : FuncId} {TS : List KF} {NS : List Int} (hT : TkC P uv TS) (hz : ∀ t ∈ TS, t.sz < 1000) (hC : TkCells w0 B (o + off) TS NS) (hsu : sp < vb) (h1 : 1 < vb) (hl0 : TS.length ≤ 1000) :
    ∀ (tks : List KF) (j c m : Nat) (t : KF) (n : Int) (w : World) (σ : Sl) (l : List UInt8) (Q : Exit → Sl → World → Prop), (∀ m, tks[m]? = TS[j + m]?) → tks[m]? = some t → NS[j + m]? = some n → vb + TS.length ≤ kx → kx < c → σ kx = .int .u32 ((j + m : Nat) : Int) →
      σ sp = .pointer (some ⟨B, o, none⟩) → Mod [] w0 w → DRaw w w0.heap.size (σ 1) l → kb < w.heap.size → ownB (σ 1) ≠ some kb → l.length + (uvE (j + m) ++ (uvE t.sz ++ beI t.sz n)).length ≤ lim →
      (∀ σ' w', (∀ i, i ≠ 1 → ¬ (vb ≤ i ∧ i < vb + TS.length) → i < c → σ' i = σ i) → DRaw w' w0.heap.size (σ' 1) (l ++ (uvE (j + m) ++ (uvE t.sz ++ beI t.sz n))) → Mod [] w0 w' → ownB (σ' 1) ≠ some kb → (∀ vs, Blk w kb vs → Blk w' kb vs) → kb < w'.heap.size → Q .normal σ' w') →
      wpC P (tkCases sp off vb kx uv tks j c) Q σ w
  | [], j, c, m, t, n, w, σ, l, Q, _, h, _, _, _, _, _, _, _, _, _, _, _ => by simp at h
  | t0 :: r, j, c, 0, t, n, w, σ, l, Q, hTS, h, hn, hkx, hxc, hk, hs, hm0, hd, hkb, hown, hl, hQ => by
    simp only [List.getElem?_cons_zero, Option.some.injEq] at h
    subst h
    have hg := (hTS 0).symm
    simp only [List.getElem?_cons_zero, Nat.add_zero] at hg
    rw [Nat.add_zero] at hn hk hl hQ
    have hjl := (List.getElem?_eq_some_iff.1 hg).1
    have hcell : w0.cell? ⟨B, o + (off + j), none⟩ = some (.int t0.k n) := by rw [← Nat.add_assoc]; exact hC j t0 n hg hn
    simp only [tkCases]
    rw [wpC_seq, wpC_blk]
    refine go1 (v := .bool true) rfl (by simp [hk]) ?_
    refine go1 (v := .bool true) rfl (by simp) (goEnd ?_)
    simp only [thenC]
    rw [wpC_cond_t (by simp)]
    have a0 : ∀ i, i < c → (updo (updo σ (some (c + 1)) (.bool true)) (some c) (.bool true)) i = σ i := fun i hi => by simp only [updo, upd, show i ≠ c by omega, show i ≠ c + 1 by omega, if_false]
    generalize updo (updo σ (some (c + 1)) (.bool true)) (some c) (.bool true) = σ1 at a0
    refine one_wp (kb := kb) hT (List.mem_of_getElem? hg) (by rw [a0 sp (by omega)]; exact hs) hcell hm0 (by rw [a0 1 (by omega)]; exact hd) hkb (by rw [a0 1 (by omega)]; exact hown) (by omega) (hz _ (List.mem_of_getElem? hg)) hsu h1 (by omega) hl fun σ' w' f1 f2 f3 f4 f5 f6 => hQ σ' w' (fun i i1 i2 i3 => (f1 i i1 (by omega) (by omega)).trans (a0 i i3)) f2 f3 f4 f5 f6
  | t0 :: r, j, c, m + 1, t, n, w, σ, l, Q, hTS, h, hn, hkx, hxc, hk, hs, hm0, hd, hkb, hown, hl, hQ => by
    simp only [List.getElem?_cons_succ] at h
    have e : j + (m + 1) = j + 1 + m := by omega
    rw [e] at hn hk hl hQ
    have hTS' : ∀ m, r[m]? = TS[j + 1 + m]? := fun m => by have := hTS (m + 1); rw [List.getElem?_cons_succ] at this; rw [this]; congr 1; omega
    simp only [tkCases]
    rw [wpC_seq, wpC_blk]
    refine go1 (v := .bool false) rfl (by simp [hk]; omega) ?_
    refine go1 (v := .bool false) rfl (by simp) (goEnd ?_)
    simp only [thenC]
    rw [wpC_cond_f (by simp)]
    have a0 : ∀ i, i < c → (updo (updo σ (some (c + 1)) (.bool false)) (some c) (.bool false)) i = σ i := fun i hi => by simp only [updo, upd, show i ≠ c by omega, show i ≠ c + 1 by omega, if_false]
    generalize updo (updo σ (some (c + 1)) (.bool false)) (some c) (.bool false) = σ1 at a0
    exact cases_wp hT hz hC hsu h1 hl0 r (j + 1) (c + 13) m t n w σ1 l Q hTS' h hn hkx (by omega) (by rw [a0 kx hxc]; exact hk) (by rw [a0 sp (by omega)]; exact hs) hm0 (by rw [a0 1 (by omega)]; exact hd) hkb (by rw [a0 1 (by omega)]; exact hown) hl fun σ' w' f1 f2 f3 f4 f5 f6 => hQ σ' w' (fun i i1 i2 i3 => (f1 i i1 i2 (by omega)).trans (a0 i i3)) f2 f3 f4 f5 f6
theorem tagsQ_snoc {E : List (Nat × List UInt8)} {i : Nat} {p : Nat × List UInt8} (h : E[i]? = some p) : tagsQ (E.take (i + 1)) = tagsQ (E.take i) ++ (uvE p.1 ++ (uvE p.2.length ++ p.2)) := flatMap_snoc h
theorem tagsQ_take_le (E : List (Nat × List UInt8)) (i : Nat) : (tagsQ (E.take i)).length ≤ (tagsQ E).length := flatMap_take_le _ E i
theorem tloop_wp {w0 : World} {sp off nv nb q B o : Nat} {uv : FuncId} {TS : List KF} {NS : List Int} (hT : TkC P uv TS) (hz : ∀ t ∈ TS, t.sz < 1000) (hC : TkCells w0 B (o + off) TS NS) (hsu : sp < nv) (h1 : 1 < nv) (hs1 : sp ≠ 1) (hl0 : TS.length ≤ 1000) (hq : nv + 3 + TS.length ≤ q)
    {w : World} {σ : Sl} {l : List UInt8} {n0 : Nat} {Q : Exit → Sl → World → Prop} (hs : σ sp = .pointer (some ⟨B, o, none⟩)) (hm0 : Mod [] w0 w) (hd : DRaw w w0.heap.size (σ 1) l) (hK : KRaw w n0 (σ nv) ((tkEnc TS NS 0).map (·.1))) (hn0 : ∀ b, ownB (σ 1) = some b → ownB (σ nv) ≠ some b)
    (hl : l.length + (tagsQ (tkEnc TS NS 0)).length ≤ lim)
    (hQ : ∀ σ' w', (∀ i, i ≠ 1 → i < nv → σ' i = σ i) → DRaw w' w0.heap.size (σ' 1) (l ++ tagsQ (tkEnc TS NS 0)) → Mod [] w0 w' → Q .normal σ' w') :
    wpC P (tkLoop sp off nv nb uv TS q) Q σ w := by
  have hEl := tkEnc_len TS NS 0
  have hEa := fun i k b => tkEnc_at TS NS 0 i k b
  generalize hE : tkEnc TS NS 0 = E at *
  obtain ⟨kb, kc, ek⟩ : ∃ kb kc, σ nv = .slice kb E.length kc := by
    rcases hK.sl with ⟨e1, e2⟩ | ⟨BA, cap, rest, e1, -⟩
    · have : E = [] := by simpa using e2
      subst this; exact ⟨none, 0, e1⟩
    · exact ⟨_, _, by simpa using e1⟩
  unfold tkLoop
  rw [wpC_seq, wpC_blk]
  refine go1 (v := σ nv) rfl (by simp) ?_
  refine go1 (v := .int .i64 (E.length : Nat)) rfl (by simp [ek]) ?_
  refine go1 (v := .int .i64 (0 : Nat)) rfl (by simp) (goEnd ?_)
  simp only [thenC]
  -- where the keys lie
  obtain ⟨kB, hkB⟩ : ∃ kB : Nat, (E.length ≠ 0 → kb = some ⟨kB, 0, none⟩ ∧ ∃ vs, Blk w kB (E.map (fun p => kcell p.1) ++ vs) ∧ n0 ≤ kB) := by
    rcases hK.sl with ⟨e1, e2⟩ | ⟨BA, cap, rest, e1, -, g3, g4, -⟩
    · have : E = [] := by simpa using e2
      exact ⟨0, fun h => absurd (by simp [this]) h⟩
    · refine ⟨BA, fun _ => ⟨?_, rest, ?_, g3⟩⟩
      · rw [e1] at ek; simp only [Value.slice.injEq] at ek; exact ek.1.symm
      · simpa [List.map_map, Function.comp_def] using g4
  refine rangeLoop (n := E.length) (fun i σ1 w1 => (∀ k, k ≠ 1 → k < nv → σ1 k = σ k) ∧ σ1 q = σ nv ∧ σ1 (q + 2) = .int .i64 (i : Nat) ∧ σ1 (q + 1) = .int .i64 (E.length : Nat) ∧ DRaw w1 w0.heap.size (σ1 1) (l ++ tagsQ (E.take i)) ∧ Mod [] w0 w1 ∧ (E.length ≠ 0 → (ownB (σ1 1) ≠ some kB ∧ kB < w1.heap.size ∧ ∀ vs, Blk w kB vs → Blk w1 kB vs))) (by omega) (by omega) (fun j σ w h => ⟨h.2.2.1, h.2.2.2.1⟩) ?_ ?_ ?_
  · refine ⟨fun k k1 k2 => ?_, ?_, ?_, ?_, ?_, hm0, fun h0 => ?_⟩
    · simp only [updo, upd, show k ≠ q by omega, show k ≠ q + 1 by omega, show k ≠ q + 2 by omega, if_false]
    · simp
    · simp
    · simp
    · simpa [tagsQ, show (1 : Nat) ≠ q by omega, show q ≠ 0 by omega, show (1 : Nat) ≠ q + 2 by omega] using hd
    · obtain ⟨hkb0, vs, hb, -⟩ := hkB h0
      refine ⟨?_, hb.lt, fun vs h => h⟩
      simp only [updo, upd, show (1 : Nat) ≠ q by omega, show (1 : Nat) ≠ q + 1 by omega, show (1 : Nat) ≠ q + 2 by omega, if_false]
      intro e
      exact hn0 _ e (by rw [ek, hkb0]; rfl)
  · rintro i σ1 w1 hi ⟨f1, f2, f3, f4, f5, f6, f7⟩
    obtain ⟨g1, vs0, g2, g3⟩ := hkB (by omega)
    obtain ⟨f7a, f7b, f7c⟩ := f7 (by omega)
    obtain ⟨⟨k, b⟩, hp⟩ : ∃ p, E[i]? = some p := ⟨E[i], by simp [hi]⟩
    obtain ⟨m, t, n, hk, ht, hn, hb⟩ := hEa i k b hp
    rw [Nat.zero_add] at hk
    subst hk
    have hb1 := f7c _ g2
    have hcell : w1.cell? ⟨kB, i, none⟩ = some (.int .u32 (k : Nat)) := by
      rw [hb1.cell i]
      rw [List.getElem?_append_left (by simpa using hi)]
      simp [hp, kcell]
    rw [wpC_seq, wpC_blk]
    refine go1 (v := .pointer (some ⟨kB, i, none⟩)) rfl (by simp [f2, f3, ek, g1, hi]) ?_
    refine go1 (v := .int .u32 (k : Nat)) rfl (by simp [hcell]) ?_
    refine go1 (v := .int .u32 (k : Nat)) rfl (by simp) (goEnd ?_)
    simp only [thenC]
    rw [wpC_seq, wpC_blk]
    refine go1 (v := .int .u32 (k : Nat)) rfl (by simp) (goEnd ?_)
    simp only [thenC]
    generalize hσ : updo _ (some (q + 6)) _ = σ2
    have a2 : ∀ k, k < q + 3 → k ≠ nv + 2 → σ2 k = σ1 k := fun k hk hk2 => by
      rw [← hσ]; simp only [updo, upd, hk2, show k ≠ q + 3 by omega, show k ≠ q + 4 by omega, show k ≠ q + 5 by omega, show k ≠ q + 6 by omega, if_false]
    have k2 : σ2 (q + 6) = .int .u32 ((0 + k : Nat) : Int) := by rw [← hσ]; simp
    clear hσ
    rw [wpC_block]
    have hbl : b.length = t.sz := by rw [hb, beI_length]
    have hlen2 := tagsQ_take_le E (i + 1)
    rw [tagsQ_snoc hp] at hlen2
    simp only at hlen2
    rw [hbl, hb] at hlen2
    refine cases_wp (kb := kB) hT hz hC (vb := nv + 3) (by omega) (by omega) hl0 TS 0 (q + 7) k t n w1 σ2 (l ++ tagsQ (E.take i)) _ (fun m => by rw [Nat.zero_add]) ht (by rw [Nat.zero_add]; exact hn) (by omega) (by omega) k2 (by rw [a2 sp (by omega) (by omega), f1 sp hs1 hsu]; exact hs) f6 (by rw [a2 1 (by omega) (by omega)]; exact f5) f7b (by rw [a2 1 (by omega) (by omega)]; exact f7a) (by
      rw [Nat.zero_add]
      simp only [List.length_append] at hlen2 ⊢
      omega) fun σ3 w3 h1' h2' h3' h4' h5' h6' => ?_
    rw [Nat.zero_add] at h2'
    have a3 : ∀ k, k ≠ 1 → k < nv → σ3 k = σ k := fun k k1 k2 => (h1' k k1 (by omega) (by omega)).trans ((a2 k (by omega) (by omega)).trans (f1 k k1 k2))
    have fin : ∀ σ4 : Sl, (∀ k, k ≠ q + 2 → k < q + 3 → σ4 k = σ3 k) → σ4 (q + 2) = .int .i64 ((i + 1 : Nat) : Int) → (∀ k, k ≠ 1 → k < nv → σ4 k = σ k) ∧ σ4 q = σ nv ∧ σ4 (q + 2) = .int .i64 ((i + 1 : Nat) : Int) ∧ σ4 (q + 1) = .int .i64 (E.length : Nat) ∧ DRaw w3 w0.heap.size (σ4 1) (l ++ tagsQ (E.take (i + 1))) ∧ Mod [] w0 w3 ∧ (E.length ≠ 0 → (ownB (σ4 1) ≠ some kB ∧ kB < w3.heap.size ∧ ∀ vs, Blk w kB vs → Blk w3 kB vs)) := by
      intro σ4 e1 e2
      refine ⟨fun k k1 k2 => (e1 k (by omega) (by omega)).trans (a3 k k1 k2), ?_, e2, ?_, ?_, h3', fun _ => ⟨?_, h6', fun vs hv => h5' vs (f7c vs hv)⟩⟩
      · rw [e1 q (by omega) (by omega), h1' q (by omega) (by omega) (by omega), a2 q (by omega) (by omega)]; exact f2
      · rw [e1 (q + 1) (by omega) (by omega), h1' (q + 1) (by omega) (by omega) (by omega), a2 (q + 1) (by omega) (by omega)]; exact f4
      · rw [e1 1 (by omega) (by omega), tagsQ_snoc hp]
        simp only
        rw [hbl, hb, ← List.append_assoc]; exact h2'
      · rw [e1 1 (by omega) (by omega)]; exact h4'
    have s3 : σ3 (q + 2) = .int .i64 (i : Nat) := by rw [h1' (q + 2) (by omega) (by omega) (by omega), a2 (q + 2) (by omega) (by omega)]; exact f3
    simp only [inBlockC, rngP]
    refine ⟨s3, fin _ (fun k k1 k2 => ?_) ?_⟩
    · simp only [upd, k1, show k ≠ q + 7 + 13 * TS.length by omega, if_false]
    · simp only [upd, if_true]
  · rintro σ1 w1 ⟨f1, f2, f3, f4, f5, f6, f7⟩
    rw [List.take_length] at f5
    refine hQ _ w1 (fun k k1 k2 => ?_) ?_ f6
    · simp only [upd, show k ≠ q + 3 by omega, if_false]; exact f1 k k1 k2
    · simp only [upd, show (1 : Nat) ≠ q + 3 by omega, if_false]; exact f5
end
end Go.Msk

namespace Go.Msk
open Go.RowKit
set_option maxRecDepth 100000
def tkBlk (sp off nv nb : Nat) (ln uv each : FuncId) (tks : List KF) (nt : Nat) : IC :=
  .seq (.blk [⟨some nt, .mv (.tmp 6), none⟩]) (.cond (.tmp nt)
    (seqs (.blk [⟨some nv, .mv (.const (.slice none 0 0)), none⟩] :: (tkTests sp off nv tks 0 (nt + 1) ++
      [.blk [⟨some (nt + 1 + 8 * tks.length), .mv (.tmp 1), none⟩, ⟨some (nt + 1 + 8 * tks.length + 1), .mv (.tmp nv), none⟩, ⟨some (nt + 1 + 8 * tks.length + 2), .len (.tmp (nt + 1 + 8 * tks.length + 1)), none⟩, ⟨some (nt + 1 + 8 * tks.length + 3), .mv (.tmp sp), none⟩,
        ⟨some (nt + 1 + 8 * tks.length + 4), .nilc (.tmp (nt + 1 + 8 * tks.length + 3)), none⟩, ⟨some (nt + 1 + 8 * tks.length + 5), .fad (.tmp (nt + 1 + 8 * tks.length + 4)) (off + tks.length), none⟩, ⟨some (nt + 1 + 8 * tks.length + 6), .call ln [.tmp (nt + 1 + 8 * tks.length + 5)], none⟩,
        ⟨some (nt + 1 + 8 * tks.length + 7), .bin .add (.tmp (nt + 1 + 8 * tks.length + 2)) (.tmp (nt + 1 + 8 * tks.length + 6)), none⟩, ⟨some (nt + 1 + 8 * tks.length + 8), .conv .u32 (.tmp (nt + 1 + 8 * tks.length + 7)), none⟩, ⟨some (nt + 1 + 8 * tks.length + 9), .call uv [.tmp (nt + 1 + 8 * tks.length), .tmp (nt + 1 + 8 * tks.length + 8)], none⟩,
        ⟨some 1, .mv (.tmp (nt + 1 + 8 * tks.length + 9)), none⟩],
      tkLoop sp off nv nb uv tks (nt + 1 + 8 * tks.length + 10),
      .blk [⟨some (nt + 1 + 8 * tks.length + 18 + 13 * tks.length), .mv (.tmp sp), none⟩, ⟨some (nt + 1 + 8 * tks.length + 18 + 13 * tks.length + 1), .nilc (.tmp (nt + 1 + 8 * tks.length + 18 + 13 * tks.length)), none⟩, ⟨some (nt + 1 + 8 * tks.length + 18 + 13 * tks.length + 2), .fad (.tmp (nt + 1 + 8 * tks.length + 18 + 13 * tks.length + 1)) (off + tks.length), none⟩,
        ⟨some (nt + 1 + 8 * tks.length + 18 + 13 * tks.length + 3), .mv (.tmp 1), none⟩, ⟨some (nt + 1 + 8 * tks.length + 18 + 13 * tks.length + 4), .call each [.tmp (nt + 1 + 8 * tks.length + 18 + 13 * tks.length + 2), .tmp (nt + 1 + 8 * tks.length + 18 + 13 * tks.length + 3)], none⟩, ⟨some 1, .mv (.tmp (nt + 1 + 8 * tks.length + 18 + 13 * tks.length + 4)), none⟩]]))) .skip)
def tkOut (x : Bool) (tks : List KF) (ns : List Int) (m : List (Nat × List UInt8)) : List UInt8 :=
  if x then uvE ((tkEnc tks ns 0).length + m.length) ++ (tagsQ (tkEnc tks ns 0) ++ tagsR (sortT m)) else []
theorem KRaw.own {w : World} {n0 : Nat} {v : Value} {l : List Nat} (h : KRaw w n0 v l) {b : Nat} (hb : ownB v = some b) : n0 ≤ b ∧ b < w.heap.size := by
  rcases h.sl with ⟨rfl, -⟩ | ⟨B, cap, rest, rfl, -, h3, h4, -⟩
  · simp [ownB] at hb
  · simp only [ownB, Option.some.injEq] at hb; subst hb; exact ⟨h3, h4.lt⟩
theorem KRaw.len {w : World} {n0 : Nat} {v : Value} {l : List Nat} (h : KRaw w n0 v l) : ∃ kb kc, v = .slice kb l.length kc := by
  rcases h.sl with ⟨rfl, rfl⟩ | ⟨B, cap, rest, rfl, -⟩
  · exact ⟨none, 0, rfl⟩
  · exact ⟨_, _, rfl⟩
section
variable {P : Program}
attribute [local simp] gOk updo upd ev RK.val? isShift intBin Addr.add_mk args0 Value.cells undef
theorem i64_addS (a b : Nat) (h : a + b < 4294967296) : IntKind.i64.wrap ((a : Int) + (b : Int)) = ((a + b : Nat) : Int) := by
  rw [show (a : Int) + (b : Int) = ((a + b : Nat) : Int) by omega]
  exact i64_nat (by omega)
theorem blk_wp {w0 w : World} {sp off nv nb nt B o : Nat} {ln uv each : FuncId} {tks : List KF} {ns : List Int} {m : List (Nat × List UInt8)} {tv : Value} {x : Bool} (hT : TkC P uv tks) (hg : TgC P ln uv each) (hz : ∀ t ∈ tks, t.sz < 1000) (hl0 : tks.length ≤ 1000) (hlen : tks.length = ns.length)
    (hC : TkCells w0 B (o + off) tks ns) (ht : w0.cell? ⟨B, o + (off + tks.length), none⟩ = some tv) (hM : TagM anyB w0 tv m) (hml : m.length ≤ 2147483647) (hmv : ∀ p ∈ m, p.2.length ≤ 2147483647)
    {σ : Sl} {l : List UInt8} {Q : Exit → Sl → World → Prop} (hsu : sp < nv) (h1 : 1 < nv) (hs1 : sp ≠ 1) (hnt : nv + 3 + tks.length ≤ nt) (hs : σ sp = .pointer (some ⟨B, o, none⟩)) (h6 : σ 6 = .bool x) (hm0 : Mod [] w0 w) (hd : DRaw w w0.heap.size (σ 1) l)
    (hl : l.length + (tkOut x tks ns m).length ≤ lim)
    (hQ : ∀ σ' w', DRaw w' w0.heap.size (σ' 1) (l ++ tkOut x tks ns m) → Mod [] w0 w' → Q .normal σ' w') : wpC P (tkBlk sp off nv nb ln uv each tks nt) Q σ w := by
  unfold tkBlk
  rw [wpC_seq, wpC_blk]
  refine go1 (v := .bool x) rfl (by simp [h6]) (goEnd ?_)
  simp only [thenC]
  cases x with
  | false =>
    rw [wpC_cond_f (by simp), wpC_skip]
    refine hQ _ w ?_ hm0
    simpa [tkOut, show nt ≠ 1 by omega, show (1 : Nat) ≠ nt by omega] using hd
  | true =>
  unfold tkOut at hl hQ
  rw [if_pos rfl] at hl hQ
  have hEl := tkEnc_len tks ns 0
  simp only [List.length_append] at hl
  rw [wpC_cond_t (by simp), wpC_seqs]
  simp only [wpL]
  rw [wpC_blk]
  refine go1 (v := .slice none 0 0) rfl (by simp) (goEnd ?_)
  simp only [thenC]
  rw [wpL_append]
  have a0 : ∀ i, i < nt → i ≠ nv → (updo (updo σ (some nt) (.bool true)) (some nv) (.slice none 0 0)) i = σ i := fun i hi hv => by simp only [updo, upd, hv, show i ≠ nt by omega, if_false]
  have n0 : (updo (updo σ (some nt) (.bool true)) (some nv) (.slice none 0 0)) nv = .slice none 0 0 := by simp
  generalize updo (updo σ (some nt) (.bool true)) (some nv) (.slice none 0 0) = σ0 at a0 n0
  refine tests_wp (ws := w) hm0 hC hl0 tks ns 0 (nt + 1) σ0 w [] _ (fun m => by rw [Nat.zero_add]) (fun m => by rw [Nat.zero_add]) hlen (by omega) (by omega) (by omega) (by rw [a0 sp (by omega) (by omega)]; exact hs) (by rw [n0]; exact ⟨.inl ⟨rfl, rfl⟩⟩) (Mod.refl _ _) (by simp) (by omega) fun σ1 w1 f1 f2 f3 => ?_
  rw [List.nil_append] at f2
  simp only [thenC, wpL]
  have hm1 := hm0.trans f3
  have e1 : ∀ i, i < nt → i ≠ nv → σ1 i = σ i := fun i hi hv => (f1 i (by omega) hv).trans (a0 i hi hv)
  have d1 : DRaw w1 w0.heap.size (σ1 1) l := by rw [e1 1 (by omega) (by omega)]; exact hd.keep f3
  have own1 : ∀ b, ownB (σ1 1) = some b → b < w.heap.size := fun b hb => (hd.own (by rw [← e1 1 (by omega) (by omega)]; exact hb)).2
  have s1 : σ1 sp = .pointer (some ⟨B, o, none⟩) := by rw [e1 sp (by omega) (by omega)]; exact hs
  obtain ⟨kb, kc, ek⟩ := f2.len
  simp only [List.length_map] at ek
  generalize hu : nt + 1 + 8 * tks.length = u
  have hm1' : TagM anyB w1 tv m := by
    rcases hM with h | ⟨r, e, h⟩
    · exact .inl h
    · exact .inr ⟨r, e, h.mod hm1 (by simp) (by simp) fun _ _ _ => trivial⟩
  have nsp : ∀ k, sp ≠ u + k := fun k => by omega
  have nnv : ∀ k, nv ≠ u + k := fun k => by omega
  have nu0 : nv ≠ u := by omega
  have nsu : sp ≠ u := by omega
  have n1 : (1 : Nat) ≠ u := by omega
  rw [wpC_blk]
  refine go1 (v := σ1 1) rfl (by simp) ?_
  refine go1 (v := σ1 nv) rfl (by simp [nu0]) ?_
  refine go1 (v := .int .i64 ((tkEnc tks ns 0).length : Nat)) rfl (by simp [ek]) ?_
  refine go1 (v := .pointer (some ⟨B, o, none⟩)) rfl (by simp [s1, nsu, nsp 1, nsp 2]) ?_
  refine go1 (v := .pointer (some ⟨B, o, none⟩)) rfl (by simp) ?_
  refine go1 (v := .pointer (some ⟨B, o + (off + tks.length), none⟩)) rfl (by simp) ?_
  refine goCall rfl (vs := [.pointer (some ⟨B, o + (off + tks.length), none⟩)]) (by simp) (hg.ln w1 B (o + (off + tks.length)) tv m (cell_mod ht hm1 (by simp)) hm1') ?_
  rintro e w2 ⟨rfl, e2⟩
  subst e2
  refine ⟨_, rfl, ?_⟩
  refine go1 (v := .int .i64 (((tkEnc tks ns 0).length + m.length : Nat) : Int)) rfl (by
    simp only [RK.val?, ev, updo, upd, if_true, isShift, decide_true, Bool.or_true, intBin, show u + 2 ≠ u + 6 by omega, show u + 2 ≠ u + 5 by omega, show u + 2 ≠ u + 4 by omega, show u + 2 ≠ u + 3 by omega, if_false]
    rw [i64_addS _ _ (by omega)]) ?_
  refine go1 (v := .int .u32 (((tkEnc tks ns 0).length + m.length : Nat) : Int)) rfl (by simp only [RK.val?, ev, updo, upd, if_true]; rw [u32_nat (by omega)]) ?_
  refine goCall rfl (vs := [σ1 1, .int .u32 (((tkEnc tks ns 0).length + m.length : Nat) : Int)]) (by simp) (hT.uv _ (by omega) w0.heap.size w2 (σ1 1) _ l d1 hm1.size (by omega) rfl) ?_
  rintro e w3 ⟨dv, rfl, ha⟩
  refine ⟨dv, rfl, go1 (v := dv) rfl (by simp) (goEnd ?_)⟩
  simp only [thenC]
  have hm3 := ha.mod0 d1 hm1
  generalize hσ : updo _ (some 1) _ = σ3
  have e3 : ∀ i, i ≠ 1 → i < u → σ3 i = σ1 i := fun i h1 hi => by
    rw [← hσ]
    simp only [updo, upd, h1, show i ≠ u by omega, show i ≠ u + 1 by omega, show i ≠ u + 2 by omega, show i ≠ u + 3 by omega, show i ≠ u + 4 by omega, show i ≠ u + 5 by omega, show i ≠ u + 6 by omega, show i ≠ u + 7 by omega, show i ≠ u + 8 by omega, show i ≠ u + 9 by omega, if_false]
  have v3 : σ3 1 = dv := by rw [← hσ]; simp
  clear hσ
  have hK3 : KRaw w3 w.heap.size (σ3 nv) ((tkEnc tks ns 0).map (·.1)) := by
    rw [e3 nv (by omega) (by omega)]
    refine f2.mod ha.mod fun b hb hc => ?_
    have h1 := (f2.own hb).1
    have h2 := own1 b (by simpa using hc)
    omega
  have hown3 : ∀ b, ownB (σ3 1) = some b → ownB (σ3 nv) ≠ some b := fun b hb hc => by
    rw [v3] at hb
    rw [e3 nv (by omega) (by omega)] at hc
    have hb2 := f2.own hc
    rcases ha.own b hb with h | h
    · have := own1 b h; omega
    · omega
  refine tloop_wp (q := u + 10) hT hz hC hsu h1 hs1 hl0 (by omega) (by rw [e3 sp hs1 (by omega)]; exact s1) hm3 (by rw [v3]; exact ha.raw) hK3 hown3 (by simp only [List.length_append]; omega) fun σ4 w4 g1 g2 g3 => ?_
  have s4 : σ4 sp = .pointer (some ⟨B, o, none⟩) := by rw [g1 sp hs1 hsu, e3 sp hs1 (by omega)]; exact s1
  generalize hv : u + 18 + 13 * tks.length = v
  simp only [thenC]
  rw [wpC_blk]
  refine go1 (v := .pointer (some ⟨B, o, none⟩)) rfl (by simp [s4]) ?_
  refine go1 (v := .pointer (some ⟨B, o, none⟩)) rfl (by simp) ?_
  refine go1 (v := .pointer (some ⟨B, o + (off + tks.length), none⟩)) rfl (by simp) ?_
  refine go1 (v := σ4 1) rfl (by simp [show (1 : Nat) ≠ v by omega, show v ≠ 0 by omega]) ?_
  refine goCall rfl (vs := [.pointer (some ⟨B, o + (off + tks.length), none⟩), σ4 1]) (by simp) (hg.ap w0 w4 B (o + (off + tks.length)) (σ4 1) tv _ m g3 g2 (by simp only [List.length_append]; omega) ht hM hml hmv) ?_
  rintro e w5 ⟨dv5, rfl, hd5, hm5⟩
  refine ⟨dv5, rfl, go1 (v := dv5) rfl (by simp) (goEnd ?_)⟩
  refine hQ _ w5 ?_ hm5
  simpa [List.append_assoc] using hd5
structure KTop where
  flex : Int
  ap : Ap
  off : Nat
  tks : List KF
  ln : FuncId
  uv : FuncId
  each : FuncId
  deriving Inhabited
def KTop.t0 (T : KTop) : Nat := 7 + T.ap.nv + 3 + T.tks.length
def KTop.e (T : KTop) : Nat := T.t0 + 8 + T.ap.nt + 24 + 21 * T.tks.length
def KTop.gen (T : KTop) : IC × List RV × Nat :=
  (seqs ([.blk [⟨some 4, .mv (.const (.slice none 0 0)), none⟩], ldF 0 5 T.t0 0, .blk [⟨some (T.t0 + 4), .mv (.tmp 5), none⟩],
      .blk [⟨some (T.t0 + 5), .mv (.tmp 5), none⟩, ⟨some (T.t0 + 6), .bin .geq (.tmp (T.t0 + 5)) (.const (.int .i16 T.flex)), none⟩, ⟨some 6, .mv (.tmp (T.t0 + 6)), none⟩], .blk [⟨some (T.t0 + 7), .mv (.tmp 6), none⟩]] ++
    (T.ap.gen 0 0 7 (T.t0 + 8) 0 ++ [tkBlk 0 T.off (7 + T.ap.nv) T.ap.nb T.ln T.uv T.each T.tks (T.t0 + 8 + T.ap.nt), .blk [⟨some T.e, .mv (.tmp 1), none⟩, ⟨some 4, .mv (.tmp T.e), none⟩], .ret])), [.tmp 4], T.e + 1)
def KTop.x (T : KTop) (ver : Int) : Bool := decide (ver ≥ T.flex)
def tkV (tks : List KF) (ns : List Int) : List Value := List.zipWith (fun t n => .int t.k n) tks ns
def tkG (tks : List KF) (ns : List Int) : List GV := List.zipWith (fun t n => .num (.int t.k n)) tks ns
theorem RepL.split {O : List Nat} {w : World} : ∀ {l l' : List GV} {css : List (List Value)}, RepL O w (l ++ l') css → ∃ c1 c2, css = c1 ++ c2 ∧ RepL O w l c1 ∧ RepL O w l' c2
  | [], l', css, h => ⟨[], css, rfl, .nil, h⟩
  | g :: l, l', css, h => by
    cases h with
    | cons h1 h2 =>
      obtain ⟨c1, c2, rfl, k1, k2⟩ := RepL.split h2
      exact ⟨_ :: c1, c2, rfl, .cons h1 k1, k2⟩
theorem tkG_cells {O : List Nat} {w : World} {m : List (Nat × List UInt8)} : ∀ {tks : List KF} {ns : List Int} {css : List (List Value)}, tks.length = ns.length → RepL O w (tkG tks ns ++ [.tag m]) css → ∃ tv, css.flatten = tkV tks ns ++ [tv] ∧ Rep O w (.tag m) [tv]
  | [], [], css, _, h => by
    cases h with
    | cons h1 h2 =>
      cases h2
      have h1' := h1
      cases h1 with
      | tag0 => exact ⟨_, rfl, h1'⟩
      | tag1 _ _ => exact ⟨_, rfl, h1'⟩
  | t :: tks, n :: ns, css, hl, h => by
    cases h with
    | cons h1 h2 =>
      obtain ⟨tv, k1, k2⟩ := tkG_cells (by simpa using hl) h2
      cases h1 with
      | num _ => exact ⟨tv, by rw [List.flatten_cons, k1]; rfl, k2⟩
  | [], _ :: _, _, hl, _ => by simp at hl
  | _ :: _, [], _, hl, _ => by simp at hl
theorem KTop.call {T : KTop} {f : FuncId} (hm : P.follows .mixedOrders = true) (h : liftF P f = some T.gen) {ver : Int} (hok : T.ap.Ok P true (T.x ver)) (hT : TkC P T.uv T.tks) (hg : TgC P T.ln T.uv T.each) (hz : ∀ t ∈ T.tks, t.sz < 1000) (hl0 : T.tks.length ≤ 1000)
    {w0 w : World} {B : Nat} {gs : List GV} {ns : List Int} {m : List (Nat × List UInt8)} {css : List (List Value)} {dv : Value} {l : List UInt8} (hlen : T.tks.length = ns.length) (hoff : GV.wids gs = T.off) (hml : m.length ≤ 2147483647) (hmv : ∀ p ∈ m, p.2.length ≤ 2147483647)
    (hv : w0.cell? ⟨B, 0, none⟩ = some (.int .i16 ver)) (hc : Cells w0 ⟨B, 0, none⟩ css.flatten) (hr : RepL [] w0 (gs ++ (tkG T.tks ns ++ [.tag m])) css) (hfit : T.ap.Fit ver gs) (hm0 : Mod [] w0 w) (hd : DRaw w w0.heap.size dv l)
    (hl : l.length + (T.ap.enc ver (T.x ver) gs ++ tkOut (T.x ver) T.tks ns m).length ≤ lim) :
    Calls P f [.pointer (some ⟨B, 0, none⟩), dv].toArray w fun e w' => ∃ dv', e = .returned dv' ∧ DRaw w' w0.heap.size dv' (l ++ (T.ap.enc ver (T.x ver) gs ++ tkOut (T.x ver) T.tks ns m)) ∧ Mod [] w0 w' := by
  obtain ⟨c1, c2, rfl, hr1, hr2⟩ := hr.split
  obtain ⟨tv, hfl, htag⟩ := tkG_cells hlen hr2
  rw [List.flatten_append] at hc
  obtain ⟨hc1, hc2⟩ := hc.app
  rw [hr1.wid, hoff, hfl, Nat.zero_add] at hc2
  have hC : TkCells w0 B (0 + T.off) T.tks ns := fun i t n h1 h2 => by
    rw [Nat.zero_add]
    have hi := (List.getElem?_eq_some_iff.1 h1).1
    refine hc2.2 i _ ?_
    rw [List.getElem?_append_left (by simp [tkV]; omega)]
    simp [tkV, List.getElem?_zipWith, h1, h2]
  have hct : w0.cell? ⟨B, 0 + (T.off + T.tks.length), none⟩ = some tv := by
    rw [Nat.zero_add]
    have hL : (tkV T.tks ns).length = T.tks.length := by simp [tkV]; omega
    have := hc2.2 (tkV T.tks ns).length tv (by simp)
    rwa [hL] at this
  have hTM : TagM anyB w0 tv m := by
    cases htag with
    | tag0 => exact .inl ⟨rfl, rfl⟩
    | tag1 _ h => exact .inr ⟨_, rfl, h.mod (Mod.refl [] _) (by simp) (by simp) fun _ _ _ => trivial⟩
  simp only [List.length_append] at hl
  unfold KTop.gen at h
  have ht0 : T.t0 = 7 + T.ap.nv + 3 + T.tks.length := rfl
  have hee : T.e = T.t0 + 8 + T.ap.nt + 24 + 21 * T.tks.length := rfl
  refine call_of h hm (by simp only [List.length_cons, List.length_nil]; omega) ?_
  rw [wpC_seqs]
  simp only [List.cons_append, List.nil_append, wpL]
  rw [wpC_blk]
  refine go1 (v := .slice none 0 0) rfl (by simp) (goEnd ?_)
  simp only [thenC]
  have s0 : ∀ k, k ≠ 4 → updo (args0 [.pointer (some ⟨B, 0, none⟩), dv]) (some 4) (.slice none 0 0) k = args0 [.pointer (some ⟨B, 0, none⟩), dv] k := fun k hk => by simp only [updo, upd, hk, if_false]
  have e0 : args0 [.pointer (some ⟨B, 0, none⟩), dv] 0 = .pointer (some ⟨B, 0, none⟩) := rfl
  have e1 : args0 [.pointer (some ⟨B, 0, none⟩), dv] 1 = dv := rfl
  generalize updo (args0 [.pointer (some ⟨B, 0, none⟩), dv]) (some 4) (.slice none 0 0) = σ0 at s0 ⊢
  have e0 : σ0 0 = .pointer (some ⟨B, 0, none⟩) := (s0 0 (by omega)).trans e0
  have e1 : σ0 1 = dv := (s0 1 (by omega)).trans e1
  refine ldA_wp (B := B) (o := 0) (v := .int .i16 ver) e0 (cell_mod hv hm0 (by simp)) (by omega) (by omega) fun σ1 a1 v1 => ?_
  simp only [thenC]
  refine mvF_wp fun σ2 a2 => ?_
  simp only [thenC]
  have h25 : σ2 5 = .int .i16 ver := by rw [a2 5 (by omega)]; exact v1
  rw [wpC_blk]
  refine go1 (v := .int .i16 ver) rfl (by simp [h25]) ?_
  refine go1 (v := .bool (decide (ver ≥ T.flex))) rfl (by simp) ?_
  refine go1 (v := .bool (decide (ver ≥ T.flex))) rfl (by simp) (goEnd ?_)
  simp only [thenC]
  rw [wpC_blk]
  refine go1 (v := .bool (decide (ver ≥ T.flex))) rfl (by simp) (goEnd ?_)
  simp only [thenC]
  generalize hσ : updo _ (some (T.t0 + 7)) _ = σ3
  have a3 : ∀ j, j < T.t0 → j ≠ 6 → σ3 j = σ2 j := fun j hj hj6 => by
    rw [← hσ]
    simp only [updo, upd, hj6, show j ≠ T.t0 + 5 by omega, show j ≠ T.t0 + 6 by omega, show j ≠ T.t0 + 7 by omega, if_false]
  have h6 : σ3 6 = .bool (T.x ver) := by
    rw [← hσ]
    simp only [updo, upd, show 6 ≠ T.t0 + 7 by omega, if_false, if_true, KTop.x]
  clear hσ
  have f0 : σ3 0 = .pointer (some ⟨B, 0, none⟩) := by rw [a3 0 (by omega) (by omega), a2 0 (by omega), a1 0 (by omega) (by omega)]; exact e0
  have f1 : σ3 1 = dv := by rw [a3 1 (by omega) (by omega), a2 1 (by omega), a1 1 (by omega) (by omega)]; exact e1
  have f5 : σ3 5 = .int .i16 ver := by rw [a3 5 (by omega) (by omega), a2 5 (by omega)]; exact v1
  rw [wpL_append]
  refine T.ap.sound (NV := T.t0) (hf := true) hm hok gs c1 0 0 7 (T.t0 + 8) 0 B 0 l σ3 w _ hfit hr1 hc1 f0 (by omega) (by omega) (by simp [bse]) (by omega) (by omega) ⟨by rw [f1]; exact hd, hm0, f5, fun _ => h6⟩ (by omega) fun σ4 w4 ha4 hk4 => ?_
  simp only [thenC, wpL]
  refine blk_wp (w0 := w0) (x := T.x ver) hT hg hz hl0 hlen hC hct hTM hml hmv (by omega) (by omega) (by omega) (by omega) (by rw [hk4 0 (by omega) (.inl (by omega))]; exact f0) (ha4.x rfl) ha4.m ha4.d (by simp only [List.length_append]; omega) fun σ5 w5 hd5 hm5 => ?_
  simp only [thenC]
  rw [wpC_blk]
  refine go1 (v := σ5 1) rfl (by simp) ?_
  refine go1 (v := σ5 1) rfl (by simp) (goEnd ?_)
  simp only [thenC]
  refine retThen ?_
  exact ret1 (v := σ5 1) (by simp) ⟨_, rfl, by simpa [List.append_assoc] using hd5, hm5⟩
end
end Go.Msk

namespace Go.Msk
open Go.RowKit
set_option maxRecDepth 100000
def PartKC (P : Program) (F : Nat → Nat) (ver : Int) (flex : Bool) (fs : List FD) : Prop :=
  ∀ (w : World) (v : Value) (css : List (List Value)) (t : TR) (ts : List Value), SlC anyB w v fs.length css.flatten → RepFL anyB w fs css → RepT anyB w t ts → t.kok → (partK ver flex fs t).length ≤ lim →
    Calls P (F sPart) [v, .int .i64 ver, .bool flex, .agg ts.toArray].toArray w (BytesR w (partK ver flex fs t))
section
variable {P : Program} {F : Nat → Nat}
attribute [local simp] gOk updo upd ev RK.val? isShift intBin Addr.add_mk args0 Value.cells undef
theorem part_fieldK (hm : P.follows .mixedOrders = true) (hh : liftF P (F sHas) = some (ir_sHas F)) (ha : liftF P (F sAt) = some (ir_sAt F))
    {w0 w : World} {tb j n c : Nat} {ver : Int} {flex : Bool} {f : FD} {fcs tcs : List Value} {t : TR} {σ : Sl} {a : Addr} {out : List UInt8} {Q : Exit → Sl → World → Prop}
    (hm0 : Mod [] w0 w) (hbt : Blk w0 tb tcs) (hrf : RepF anyB w0 f fcs) (hrt : RepT anyB w0 t tcs) (hk : t.kok) (hF : FieldC P F ver flex f)
    (h1 : σ 1 = .int .i64 ver) (h2 : σ 2 = .bool flex) (h7 : σ 7 = .pointer (some ⟨tb, 0, none⟩)) (h21 : σ 21 = .slice (some a) n c) (h23 : σ 23 = .int .i64 (j : Nat)) (hj : j < n) (hcell : cellsAt w0 (a.add (j * 8)) 0 8 = some fcs)
    (h9 : DRaw w w0.heap.size (σ 9) out) (hlen : (out ++ (if f.tag < 0 ∧ f.hasV ver = true then f.enc ver flex (t.at j) else [])).length ≤ lim)
    (hQ : ∀ σ' w', (∀ s, s < 24 → s ≠ 9 → s ≠ 12 → s ≠ 13 → σ' s = σ s) → DRaw w' w0.heap.size (σ' 9) (out ++ (if f.tag < 0 ∧ f.hasV ver = true then f.enc ver flex (t.at j) else [])) → Mod [] w0 w' → Q .normal σ' w') : wpC P (ir_sPart_1 F) Q σ w := by
  unfold ir_sPart_1
  have hcell1 := cellsAt_below hm0.below _ _ _ hcell
  rw [wpC_seq, wpC_blk]
  refine go1 (v := .int .i64 (j : Nat)) rfl (by simp [h23]) ?_
  refine go1 (v := .pointer (some (a.add (j * 8)))) rfl (by simp [h21, h23, hj]) ?_
  refine go1 (v := .agg fcs.toArray) rfl (by simp [hcell1]) ?_
  refine goAlloc fun w2 hb2 hm2 => ?_
  refine go1 (v := .int .i64 (j : Nat)) rfl (by simp) ?_
  refine goSt (b := w.heap.size) (v := .agg fcs.toArray) (by simp) (by simp) hb2 (by simp [hrf.eight]) rfl (by simpa using hrf.oneCell) fun w3 hb3 hm3 => ?_
  have hb3 : Blk w3 w.heap.size fcs := by simpa using hb3
  have hm13 : Mod [] w w3 := Mod.drop (b := w.heap.size) (S := []) (hm2.nil.trans hm3) (Nat.le_refl _)
  have hm03 := hm0.trans hm13
  refine wpR_done ?_
  have c3 := fun k => hb3.cell k
  have ht4 : fcs[4]? = some (.int .i64 f.tag) := by cases hrf; rfl
  rw [wpC_seq, wpC_blk]
  refine go1 (v := .pointer (some ⟨w.heap.size, 4, none⟩)) rfl (by simp) ?_
  refine go1 (v := .int .i64 f.tag) rfl (by simp [c3, ht4]) ?_
  by_cases htag : f.tag < 0
  rotate_left
  · refine go1 (v := .bool false) rfl (by simp [htag]) ?_
    refine go1 (v := .bool false) rfl (by simp) ?_
    iterate 3 (refine go0 (by simp) ?_)
    refine go1 (v := .bool false) rfl (by simp) (goEnd ?_)
    simp only [thenC]
    rw [wpC_cond_f (by simp), wpC_skip]
    have e0 : (if f.tag < 0 ∧ f.hasV ver = true then f.enc ver flex (t.at j) else []) = [] := by simp [htag]
    rw [e0, List.append_nil] at hQ
    refine hQ _ w3 (fun s s1 s2 s3 s4 => ?_) (by simpa using h9.keep hm13) hm03
    simp only [updo, upd]
    repeat rw [if_neg (by omega)]
  refine go1 (v := .bool true) rfl (by simp [htag]) ?_
  refine go1 (v := .bool true) rfl (by simp) ?_
  refine go1 (v := .agg fcs.toArray) (by simp) (by simp [cellsAt_of' hb3.cells hrf.eight]) ?_
  refine go1 (v := .int .i64 ver) (by simp) (by simp [h1]) ?_
  refine goCall (by simp) (vs := [.agg fcs.toArray, .int .i64 ver]) (by simp) (has_call hm hh (hrf.keep hm03)) ?_
  rintro e w4 ⟨rfl, hm4⟩
  have hm04 := hm03.trans hm4
  refine ⟨_, rfl, ?_⟩
  refine go1 (v := .bool (f.hasV ver)) rfl (by simp [FD.hasV]) (wpR_done ?_)
  cases hhas : f.hasV ver with
  | false =>
    rw [wpC_cond_f (by simp), wpC_skip]
    have e0 : (if f.tag < 0 ∧ f.hasV ver = true then f.enc ver flex (t.at j) else []) = [] := by simp [hhas]
    rw [e0, List.append_nil] at hQ
    refine hQ _ w4 (fun s s1 s2 s3 s4 => ?_) (by simpa using h9.keep (hm13.trans hm4)) hm04
    simp only [updo, upd]
    repeat rw [if_neg (by omega)]
  | true =>
    have e0 : (if f.tag < 0 ∧ f.hasV ver = true then f.enc ver flex (t.at j) else []) = f.enc ver flex (t.at j) := by simp [hhas, htag]
    rw [e0] at hQ hlen
    rw [wpC_cond_t (by simp)]
    simp only [wpC]
    have hmd : Mod [] w0 w4.drew := hm04.trans (Mod.drew _ _)
    have hb4 : Blk w4.drew w.heap.size fcs := (hb3.mod hm4 (by simp)).mod (Mod.drew [] _) (by simp)
    have hbt4 := hbt.mod hmd (by simp)
    refine wpD_of_B (fun i v w' => match i with | 6 => ∃ cs, v = .agg cs.toArray ∧ RepT anyB w' (t.at j) cs | 7 => DRaw w' w0.heap.size v (f.enc ver flex (t.at j)) | _ => True) (by
      intro i v w w' h hm
      split at h
      · obtain ⟨cs, e1, e2⟩ := h; exact ⟨cs, e1, e2.keep hm⟩
      · exact h.keep hm
      · trivial) ?_
    refine bo1 (v := σ 9) rfl (by simp) ?_
    refine bo1 (v := .agg fcs.toArray) rfl (by simp [cellsAt_of' hb4.cells hrf.eight]) ?_
    refine bo1 (v := .int .i64 ver) rfl (by simp [h1]) ?_
    refine bo1 (v := .bool flex) rfl (by simp [h2]) ?_
    refine bo1 (v := .agg tcs.toArray) rfl (by simp [h7, cellsAt_of' hbt4.cells hrt.five]) ?_
    refine bo1 (v := .int .i64 (j : Nat)) rfl (by simp) ?_
    refine boCall (vs := [.agg tcs.toArray, .int .i64 (j : Nat)]) rfl (by simp) (fun w' hm' _ => (at_call hm ha (hrt.keep (hmd.trans hm'))).mono ?_) ?_
    · rintro e w'' ⟨cs, rfl, hr, hm2⟩; exact ⟨_, rfl, hm2, cs, rfl, hr⟩
    rintro v6 ⟨_, cs6, rfl, -⟩
    refine boCall (vs := [.agg fcs.toArray, .int .i64 ver, .bool flex, .agg cs6.toArray]) rfl (by simp) (fun w' hm' hkn => ?_) ?_
    · have hk6 := known_get (j := 6) (t := 42) hkn (by simp) rfl rfl rfl rfl
      obtain ⟨cs, e1, e2⟩ := hk6
      simp only [updo, upd, if_true, Value.agg.injEq, Array.mk.injEq] at e1
      have e1 : cs6 = cs := by simpa using e1
      subst e1
      refine (hF w' fcs (t.at j) cs6 (hrf.keep (hmd.trans hm')) e2 (hk.at j) (by simp only [List.length_append] at hlen; omega)).mono ?_
      rintro e w'' ⟨v, rfl, hd, hm2⟩; exact ⟨v, rfl, hm2, hd.low (hmd.trans hm').size⟩
    rintro v7 -
    intro w' hm' hkn
    have hk7 := known_get (j := 7) (t := 43) hkn (by simp) rfl rfl rfl rfl
    have d7 : DRaw w' w0.heap.size v7 (f.enc ver flex (t.at j)) := by simpa using hk7
    have hdr : DRaw w' w0.heap.size (σ 9) out := h9.keep ((hm13.trans hm4).trans ((Mod.drew _ _).trans hm'))
    have hmw := hmd.trans hm'
    refine goC rfl ?_
    refine append_run (n0 := w0.heap.size) (v := σ 9) (by simp) hdr hmw.size (k := f.enc ver flex (t.at j)) (by simpa using d7.src) (by simpa using hlen) fun v' w5 ha => ?_
    refine go1 (v := v') rfl (by simp) (goEnd ?_)
    refine hQ _ w5 (fun s s1 s2 s3 s4 => ?_) (by simpa using ha.raw) (ha.mod0 hdr hmw)
    simp only [updo, upd]
    repeat rw [if_neg (by omega)]
theorem part_tagK (hm : P.follows .mixedOrders = true) (hu : liftF P (F sUvarint) = some (ir_sUvarint F)) (hw : liftF P (F sWhole) = some (ir_sWhole F))
    {w0 w : World} {j n c k cnt : Nat} {b out : List UInt8} {sv : Value} {σ : Sl} {a : Addr} {Q : Exit → Sl → World → Prop} (hm0 : Mod [] w0 w) (h100 : σ 100 = .slice (some a) n c) (h102 : σ 102 = .int .i64 (j : Nat)) (hj : j < n) (hn : n ≤ 32767) (h11 : σ 11 = .int .i64 (cnt : Nat)) (hcnt : cnt < 4611686018427387904) (hk : k < 4294967296)
    (hcell1 : cellsAt w (a.add (j * 2)) 0 2 = some [.int .u32 (k : Nat), sv]) (hsv : SlC (fun b => b < w0.heap.size) w sv b.length (u8s b)) (h10 : DRaw w w0.heap.size (σ 10) out) (hlen : (out ++ (uvE k ++ (uvE (wholeP b).length ++ wholeP b))).length ≤ lim)
    (hQ : ∀ σ' w', (∀ s, s < 104 → s ≠ 10 → s ≠ 11 → s ≠ 19 → s ≠ 20 → σ' s = σ s) → σ' 11 = .int .i64 ((cnt + 1 : Nat) : Int) → AppD w0.heap.size w (σ 10) w' (σ' 10) (out ++ (uvE k ++ (uvE (wholeP b).length ++ wholeP b))) → Mod [] w0 w' → Q .normal σ' w') : wpC P (ir_sPart_5 F) Q σ w := by
  unfold ir_sPart_5
  rw [wpC_seq, wpC_blk]
  refine go1 (v := .pointer (some (a.add (j * 2)))) rfl (by simp [h100, h102, hj]) ?_
  refine go1 (v := .agg #[.int .u32 (k : Nat), sv]) rfl (by simp [hcell1]) ?_
  refine goAlloc fun w1 hb1 hm1 => ?_
  refine goSt (b := w.heap.size) (v := .agg #[.int .u32 (k : Nat), sv]) (by simp) (by simp) hb1 rfl rfl (two_one hsv.one) fun w2 hb2 hm2 => ?_
  have hb2 : Blk w2 w.heap.size [.int .u32 (k : Nat), sv] := by simpa using hb2
  have hm12 : Mod [] w w2 := Mod.drop (b := w.heap.size) (S := []) (hm1.nil.trans hm2) (Nat.le_refl _)
  have hm02 := hm0.trans hm12
  have c2 := fun k => hb2.cell k
  have hsv2 : SlC (fun b => b < w0.heap.size) w2 sv b.length (u8s b) := hsv.mod hm12 (by simp) fun _ _ h => h
  refine wpR_done ?_
  rw [wpC_seq, wpC_blk]
  refine go1 (v := .pointer (some ⟨w.heap.size, 1, none⟩)) rfl (by simp) ?_
  refine go1 (v := sv) rfl (by simp [c2]) ?_
  refine goCall rfl (vs := [sv]) (by simp) (whole_call hm hw hsv2) ?_
  rintro e w3 ⟨ew, v3, rfl, hv3⟩
  rw [ew]
  refine ⟨v3, rfl, go1 (v := v3) rfl (by simp) (wpR_done ?_)⟩
  obtain ⟨vb, vc, ev3⟩ := hv3.shape
  have hwl : (wholeP b).length ≤ 32767 := by simp [wholeP]; omega
  simp only [List.length_append] at hlen
  rw [wpC_seq, wpC_blk]
  refine go1 (v := σ 10) rfl (by simp) ?_
  refine go1 (v := .pointer (some ⟨w.heap.size, 0, none⟩)) rfl (by simp) ?_
  refine go1 (v := .int .u32 (k : Nat)) rfl (by simp [c2]) ?_
  refine go1 (v := .int .u64 (k : Nat)) rfl (by simp [u64_natS (n := k) (by omega)]) ?_
  refine goCall rfl (vs := [.int .u64 (k : Nat)]) (by simp) (uvarint_call hm hu (by omega)) ?_
  rintro e w4 ⟨v4, rfl, hd4, hm4⟩
  refine ⟨v4, rfl, ?_⟩
  have hm04 := hm02.trans hm4
  have r0 : DRaw w4 w0.heap.size (σ 10) out := h10.keep (hm12.trans hm4)
  refine goC rfl ?_
  refine append_run (n0 := w0.heap.size) (v := σ 10) (by simp) r0 hm04.size (k := uvE k) (by simpa using hd4.src) (by omega) fun v5 w5 ha5 => ?_
  have hm05 := ha5.mod0 r0 hm04
  have hv35 : SlC (fun b => b < w0.heap.size) w5 v3 (wholeP b).length (u8s (wholeP b)) := (hv3.mod hm4 (by simp) fun _ _ h => h).app ha5 r0
  refine go1 (v := v3) rfl (by simp) ?_
  refine go1 (v := .int .i64 ((wholeP b).length : Nat)) rfl (by simp [ev3]) ?_
  refine go1 (v := .int .u64 ((wholeP b).length : Nat)) rfl (by simp [u64_natS (n := (wholeP b).length) (by omega)]) ?_
  refine goCall rfl (vs := [.int .u64 ((wholeP b).length : Nat)]) (by simp) (uvarint_call hm hu (by omega)) ?_
  rintro e w6 ⟨v6, rfl, hd6, hm6⟩
  refine ⟨v6, rfl, ?_⟩
  have r1 := ha5.raw.keep hm6
  refine goC rfl ?_
  refine append_run (n0 := w0.heap.size) (v := v5) (by simp) r1 (hm05.trans hm6).size (k := uvE (wholeP b).length) (by simpa using hd6.src) (by simp only [List.length_append]; omega) fun v7 w7 ha7 => ?_
  have hm07 := ha7.mod0 r1 (hm05.trans hm6)
  have hv37 : SlC (fun b => b < w0.heap.size) w7 v3 (wholeP b).length (u8s (wholeP b)) := (hv35.mod hm6 (by simp) fun _ _ h => h).app ha7 r1
  refine go1 (v := v3) rfl (by simp) ?_
  refine goC rfl ?_
  refine append_run (n0 := w0.heap.size) (v := v7) (by simp) ha7.raw hm07.size (k := wholeP b) (by simpa using hv37.src) (by simp only [List.length_append]; omega) fun v8 w8 ha8 => ?_
  have hm08 := ha8.mod0 ha7.raw hm07
  refine go1 (v := v8) rfl (by simp) (wpR_done ?_)
  rw [wpC_blk]
  refine go1 (v := .int .i64 (cnt : Nat)) rfl (by simp [h11]) ?_
  refine go1 (v := .int .i64 ((cnt + 1 : Nat) : Int)) rfl (by
    simp only [RK.val?, ev, updo, upd, if_true, isShift, decide_true, Bool.or_true, intBin]
    rw [show (cnt : Int) + 1 = ((cnt + 1 : Nat) : Int) by omega, i64_nat (by omega)]) ?_
  refine go1 (v := .int .i64 ((cnt + 1 : Nat) : Int)) rfl (by simp) (goEnd ?_)
  have hall : AppD w0.heap.size w (σ 10) w8 v8 (out ++ (uvE k ++ (uvE (wholeP b).length ++ wholeP b))) := by
    have h := ((AppD.pre (hm12.trans hm4) ha5).side hm6).trans (ha7.trans ha8)
    simpa [List.append_assoc] using h
  refine hQ _ w8 (fun s s1 s2 s3 s4 s5 => ?_) (by simp) (by simpa using hall) hm08
  simp only [updo, upd]
  repeat rw [if_neg (by omega)]
theorem partk_call (hm : P.follows .mixedOrders = true) (h : liftF P (F sPart) = some (ir_sPart F)) (hh : liftF P (F sHas) = some (ir_sHas F)) (ha : liftF P (F sAt) = some (ir_sAt F)) (hu : liftF P (F sUvarint) = some (ir_sUvarint F)) (hw : liftF P (F sWhole) = some (ir_sWhole F))
    (hkn : liftF P (F sKnown) = some (ir_sKnown F)) (hun : liftF P (F sUnknown) = some (ir_sUnknown F)) {ver : Int} {flex : Bool} {fs : List FD} (hF : ∀ f ∈ fs, FieldC P F ver flex f) (hUs : ∀ f ∈ fs, 0 ≤ f.tag → UsC P F f) (htag : ∀ f ∈ fs, f.tag < 2147483648) (hfl : fs.length < 1000) (hK : knownP fs ≤ 1000) : PartKC P F ver flex fs := by
  intro w v css t ts hv hr ht hk hlen
  have hk5 := ht.five
  unfold ir_sPart at h
  refine call_of h hm (by simp) ?_
  clear h
  rw [wpC_seq, wpC_blk]
  refine goBox (v := .agg ts.toArray) (by simp) fun w1 hb1 hm1 => ?_
  have hb1 : Blk w1 w.heap.size ts := by simpa using hb1
  refine go1 rfl rfl (wpR_done ?_)
  rw [wpC_seq, wpC_blk]
  refine go1 rfl rfl (go1 rfl rfl (wpR_done ?_))
  rw [wpC_seq, wpC_blk]
  refine go1 rfl rfl (wpR_done ?_)
  obtain ⟨vb, vc, ev'⟩ := hv.shape
  rw [wpC_seq, wpC_seq, wpC_blk]
  refine go1 (v := v) rfl (by simp) ?_
  refine go1 (v := .int .i64 fs.length) rfl (by simp [ev']) ?_
  refine go1 rfl rfl (wpR_done ?_)
  have hv1 := hv.keep hm1
  have hr1 := hr.keep hm1
  have ht1 := ht.keep hm1
  have hbody : (bodyP ver flex fs 0 t).length ≤ lim := by unfold partK at hlen; simp only [List.length_append] at hlen; omega
  refine rangeLoop (n := fs.length) (fun j σ w' => σ 21 = v ∧ σ 23 = .int .i64 (j : Nat) ∧ σ 22 = .int .i64 (fs.length : Nat) ∧ σ 0 = v ∧ σ 1 = .int .i64 ver ∧ σ 2 = .bool flex ∧ σ 7 = .pointer (some ⟨w.heap.size, 0, none⟩) ∧ σ 10 = .slice none 0 0 ∧ σ 11 = .int .i64 0 ∧
      DRaw w' w1.heap.size (σ 9) (bodyP ver flex (fs.take j) 0 t) ∧ Mod [] w1 w') (by omega) (by omega) (fun j σ w h => ⟨h.2.1, h.2.2.1⟩) ?_ ?_ ?_
  · exact ⟨by simp, by simp, by simp, by simp, by simp, by simp, by simp, by simp, by simp, by simpa [bodyP] using DRaw.nil w1 _, Mod.refl _ _⟩
  · rintro j σ w2 hj ⟨h21, h23, h22, h0, h1, h2, h7, h10, h11, hd, hm2⟩
    obtain ⟨f, hf⟩ : ∃ f, fs[j]? = some f := ⟨_, List.getElem?_eq_getElem hj⟩
    obtain ⟨fcs, hcs, hrep⟩ := hr1.nth hf
    obtain ⟨a, c, ea, hjn, hcell⟩ := hv1.flat hr1.length hr1.eight hcs
    have hfm := List.mem_of_getElem? hf
    have hsn := bodyP_snoc (ver := ver) (flex := flex) (t := t) hf
    refine part_fieldK (w0 := w1) (n := fs.length) (c := c) (a := a) (f := f) (t := t) hm hh ha hm2 hb1 hrep ht1 hk (hF f hfm) (by simp [h1]) (by simp [h2]) (by simp [h7]) (by simp [h21, ea]) (by simp [h23]) hj hcell (by simpa using hd) (by
      rw [← hsn]; exact Nat.le_trans (bodyP_take_le ver flex fs t _) hbody) fun σ' w' hfr hd' hm' => ?_
    rw [← hsn] at hd'
    simp only [rngP]
    have g : ∀ s, s < 24 → s ≠ 9 → s ≠ 12 → s ≠ 13 → σ' s = σ s := fun s s1 s2 s3 s4 => by rw [hfr s s1 s2 s3 s4, upd_ne _ _ (by omega)]
    refine ⟨by rw [g 23 (by omega) (by omega) (by omega) (by omega)]; exact h23, ?_, by simp, ?_, ?_, ?_, ?_, ?_, ?_, ?_, ?_, hm'⟩
    · simp only [upd]; rw [if_neg (by omega), if_neg (by omega), g 21 (by omega) (by omega) (by omega) (by omega)]; exact h21
    · simp only [upd]; rw [if_neg (by omega), if_neg (by omega), g 22 (by omega) (by omega) (by omega) (by omega)]; exact h22
    · simp only [upd]; rw [if_neg (by omega), if_neg (by omega), g 0 (by omega) (by omega) (by omega) (by omega)]; exact h0
    · simp only [upd]; rw [if_neg (by omega), if_neg (by omega), g 1 (by omega) (by omega) (by omega) (by omega)]; exact h1
    · simp only [upd]; rw [if_neg (by omega), if_neg (by omega), g 2 (by omega) (by omega) (by omega) (by omega)]; exact h2
    · simp only [upd]; rw [if_neg (by omega), if_neg (by omega), g 7 (by omega) (by omega) (by omega) (by omega)]; exact h7
    · simp only [upd]; rw [if_neg (by omega), if_neg (by omega), g 10 (by omega) (by omega) (by omega) (by omega)]; exact h10
    · simp only [upd]; rw [if_neg (by omega), if_neg (by omega), g 11 (by omega) (by omega) (by omega) (by omega)]; exact h11
    · simpa [upd] using hd'
  · rintro σ w2 ⟨h21, h23, h22, h0, h1, h2, h7, h10, h11, hd, hm2⟩
    rw [List.take_of_length_le (Nat.le_refl _)] at hd
    have hm02 := hm1.trans hm2
    simp only [thenC]
    rw [wpC_seq, wpC_seq, wpC_blk]
    refine go1 (v := .bool flex) rfl (by simp [h2]) ?_
    refine go1 (v := .bool (!flex)) rfl (by simp) (wpR_done ?_)
    cases flex with
    | false =>
      rw [wpC_cond_t (by simp), wpC_seq, wpC_blk]
      refine go1 (v := σ 9) rfl (by simp) ?_
      refine go1 (v := σ 9) rfl (by simp) (wpR_done ?_)
      repeat first | refine retThen ?_ | refine retBlk ?_
      refine ret1 (v := σ 9) (by simp) ⟨_, rfl, ?_, hm02⟩
      have := hd.low hm1.size
      simpa [partK] using this
    | true =>
      rw [wpC_cond_f (by simp), wpC_skip]
      simp only [thenC]
      rw [wpC_seq, wpC_seq, wpC_blk]
      refine go1 (v := v) rfl (by simp [h0]) ?_
      refine goCall rfl (vs := [v]) (by simp) (known_call hm hkn (hv.keep hm02) (hr.keep hm02) (by omega) htag) ?_
      rintro e w3 ⟨rfl, hm3⟩
      refine ⟨_, rfl, ?_⟩
      have hm03 := hm02.trans hm3
      have hKk := ktagsP_len ver true fs t (knownP fs)
      have hcl : (ktagsP ver true fs t (knownP fs)).length ≤ 1000000 := by
        have : knownP fs * fs.length ≤ 1000 * 1000 := Nat.mul_le_mul hK (by omega)
        omega
      have htl : (tagsQ (ktagsP ver true fs t (knownP fs))).length ≤ lim := by
        unfold partK at hlen; simp only [if_true, List.length_append] at hlen; omega
      have hm13 := hm2.trans hm3
      have hld1 := hv.keep hm03
      refine go1 (v := .int .i64 (knownP fs : Nat)) rfl (by simp [i64_nat (n := knownP fs) (by omega)]) ?_
      refine go1 (v := .int .i64 (0 : Nat)) rfl (by simp) (goEnd ?_)
      simp only [thenC]
      refine rangeLoop (n := knownP fs) (fun k σ' w' => σ' 51 = .int .i64 (knownP fs : Nat) ∧ σ' 52 = .int .i64 (k : Nat) ∧ σ' 0 = v ∧ σ' 1 = .int .i64 ver ∧ σ' 2 = .bool true ∧ σ' 7 = .pointer (some ⟨w.heap.size, 0, none⟩) ∧ σ' 9 = σ 9 ∧
          DRaw w' w3.heap.size (σ' 10) (tagsQ (ktagsP ver true fs t k)) ∧ σ' 11 = .int .i64 ((ktagsP ver true fs t k).length : Nat) ∧ Mod [] w3 w') (by omega) (by omega) (fun j σ w h => ⟨h.2.1, h.1⟩) ?_ ?_ ?_
      · exact ⟨by simp, by simp, by simp [h0], by simp [h1], by simp [h2], by simp [h7], by simp, by simpa [h10, ktagsP, tagsQ] using DRaw.nil w3 _, by simp [h11, ktagsP], Mod.refl _ _⟩
      · rintro k σ4 w4 hk4 ⟨k51, k52, k0, k1, k2, k7, k9, kd, k11, hm4⟩
        unfold ir_sPart_4
        have hsub : ∀ j, ∃ r, tagsQ (ktagsP ver true fs t (knownP fs)) = tagsQ (ktagsP ver true fs t k ++ tagOne ver true k (fs.take j) 0 t) ++ r := fun j => by
          obtain ⟨r1, e1⟩ := ktagsP_le ver true fs t (k := k + 1) (K := knownP fs) hk4
          obtain ⟨r2, e2⟩ := tagOne_take_le ver true k fs t j
          rw [e1, ktagsP_succ, e2]
          exact ⟨tagsQ (r2 ++ r1), by rw [← tagsQ_append]; congr 1; simp [List.append_assoc]⟩
        have hsubc : ∀ j, (ktagsP ver true fs t k ++ tagOne ver true k (fs.take j) 0 t).length ≤ 1000000 := fun j => by
          obtain ⟨r1, e1⟩ := ktagsP_le ver true fs t (k := k + 1) (K := knownP fs) hk4
          obtain ⟨r2, e2⟩ := tagOne_take_le ver true k fs t j
          have := hcl
          rw [e1, ktagsP_succ, e2] at this
          simp only [List.length_append] at this ⊢
          omega
        rw [wpC_seq, wpC_blk]
        refine go1 (v := .int .i64 (k : Nat)) rfl (by simp [k52]) ?_
        refine go1 (v := .int .i64 (k : Nat)) rfl (by simp) (goEnd ?_)
        simp only [thenC]
        rw [wpC_seq, wpC_blk]
        refine go1 (v := v) rfl (by simp [k0]) ?_
        refine go1 (v := .int .i64 (fs.length : Nat)) rfl (by simp [ev']) ?_
        refine go1 (v := .int .i64 (0 : Nat)) rfl (by simp) (goEnd ?_)
        simp only [thenC]
        refine rangeLoop (n := fs.length) (fun j σ' w' => σ' 55 = v ∧ σ' 57 = .int .i64 (j : Nat) ∧ σ' 56 = .int .i64 (fs.length : Nat) ∧ σ' 51 = .int .i64 (knownP fs : Nat) ∧ σ' 52 = .int .i64 (k : Nat) ∧ σ' 14 = .int .i64 (k : Nat) ∧ σ' 0 = v ∧ σ' 1 = .int .i64 ver ∧ σ' 2 = .bool true ∧ σ' 7 = .pointer (some ⟨w.heap.size, 0, none⟩) ∧ σ' 9 = σ 9 ∧
            DRaw w' w3.heap.size (σ' 10) (tagsQ (ktagsP ver true fs t k ++ tagOne ver true k (fs.take j) 0 t)) ∧ σ' 11 = .int .i64 ((ktagsP ver true fs t k ++ tagOne ver true k (fs.take j) 0 t).length : Nat) ∧ Mod [] w3 w') (by omega) (by omega) (fun j σ w h => ⟨h.2.1, h.2.2.1⟩) ?_ ?_ ?_
        · exact ⟨by simp, by simp, by simp, by simp [k51], by simp [k52], by simp, by simp [k0], by simp [k1], by simp [k2], by simp [k7], by simp [k9], by simpa [tagOne] using kd, by simpa [tagOne] using k11, hm4⟩
        · rintro j σ5 w5 hj ⟨q55, q57, q56, q51, q52, q14, q0, q1, q2, q7, q9, qd, q11, hm5⟩
          obtain ⟨f, hf⟩ : ∃ f, fs[j]? = some f := ⟨_, List.getElem?_eq_getElem hj⟩
          obtain ⟨fcs, hcs, hrep⟩ := (hr.keep hm03).nth hf
          obtain ⟨a, c, ea, hjn, hcell⟩ := hld1.flat hr.length hr.eight hcs
          have hfm := List.mem_of_getElem? hf
          have hsn := tagOne_snoc (ver := ver) (flex := true) (tag := k) (t := t) hf
          obtain ⟨rr, er⟩ := hsub (j + 1)
          have hcc := hsubc j
          refine part_ktag (w0 := w3) (tb := w.heap.size) (n := fs.length) (c := c) (a := a) (k := k) (cnt := (ktagsP ver true fs t k ++ tagOne ver true k (fs.take j) 0 t).length) (f := f) (t := t) (flex := true) (ver := ver) hm ha hu hm5 (hb1.mod hm13 (by simp)) hrep (ht.keep hm03) hk (hF f hfm) (fun e => hUs f hfm (by omega)) (by omega)
            (by simp [q1]) (by simp [q2]) (by simp [q7]) (by simp [q55, ea]) (by simp [q57]) hj hcell (by simp [q14]) (by simp [q11]) (by omega) (by simpa using qd) (by
              rw [← tagsQ_append, List.append_assoc, ← hsn]
              have := htl
              rw [er, List.length_append] at this
              omega) fun σ' w' hfr hd' h11' hm' => ?_
          rw [← tagsQ_append, List.append_assoc, ← hsn] at hd'
          rw [← List.length_append, List.append_assoc, ← hsn] at h11'
          simp only [rngP]
          have g : ∀ s, s < 58 → s ≠ 10 → s ≠ 11 → s ≠ 15 → s ≠ 16 → s ≠ 17 → σ' s = σ5 s := fun s s1 s2 s3 s4 s5 s6 => by rw [hfr s s1 s2 s3 s4 s5 s6, upd_ne _ _ (by omega)]
          refine ⟨by rw [g 57 (by omega) (by omega) (by omega) (by omega) (by omega) (by omega)]; exact q57, ?_, by simp, ?_, ?_, ?_, ?_, ?_, ?_, ?_, ?_, ?_, ?_, ?_, hm'⟩
          · simp only [upd]; rw [if_neg (by omega), if_neg (by omega), g 55 (by omega) (by omega) (by omega) (by omega) (by omega) (by omega)]; exact q55
          · simp only [upd]; rw [if_neg (by omega), if_neg (by omega), g 56 (by omega) (by omega) (by omega) (by omega) (by omega) (by omega)]; exact q56
          · simp only [upd]; rw [if_neg (by omega), if_neg (by omega), g 51 (by omega) (by omega) (by omega) (by omega) (by omega) (by omega)]; exact q51
          · simp only [upd]; rw [if_neg (by omega), if_neg (by omega), g 52 (by omega) (by omega) (by omega) (by omega) (by omega) (by omega)]; exact q52
          · simp only [upd]; rw [if_neg (by omega), if_neg (by omega), g 14 (by omega) (by omega) (by omega) (by omega) (by omega) (by omega)]; exact q14
          · simp only [upd]; rw [if_neg (by omega), if_neg (by omega), g 0 (by omega) (by omega) (by omega) (by omega) (by omega) (by omega)]; exact q0
          · simp only [upd]; rw [if_neg (by omega), if_neg (by omega), g 1 (by omega) (by omega) (by omega) (by omega) (by omega) (by omega)]; exact q1
          · simp only [upd]; rw [if_neg (by omega), if_neg (by omega), g 2 (by omega) (by omega) (by omega) (by omega) (by omega) (by omega)]; exact q2
          · simp only [upd]; rw [if_neg (by omega), if_neg (by omega), g 7 (by omega) (by omega) (by omega) (by omega) (by omega) (by omega)]; exact q7
          · simp only [upd]; rw [if_neg (by omega), if_neg (by omega), g 9 (by omega) (by omega) (by omega) (by omega) (by omega) (by omega)]; exact q9
          · simpa [upd] using hd'
          · simp only [upd]; rw [if_neg (by omega), if_neg (by omega)]; exact h11'
        · rintro σ5 w5 ⟨q55, q57, q56, q51, q52, q14, q0, q1, q2, q7, q9, qd, q11, hm5⟩
          rw [List.take_of_length_le (Nat.le_refl _), ← ktagsP_succ] at qd q11
          simp only [rngP]
          refine ⟨by simp [q52], by simp [q51], by simp, by simp [q0], by simp [q1], by simp [q2], by simp [q7], by simp [q9], by simpa using qd, by simp [q11], hm5⟩
      rintro σ3 w3b ⟨k51, k52, k0, k1, k2, k7, k9, kd, k11, hm3b⟩
      simp only [thenC]
      have hm03b : Mod [] w w3b := hm03.trans hm3b
      have hdr3 : DRaw w3 w1.heap.size (σ 9) (bodyP ver true fs 0 t) := hd.keep hm3
      have hw13 : w1.heap.size ≤ w3.heap.size := (hm2.trans hm3).size
      have hm1b : Mod [] w1 w3b := (hm2.trans hm3).trans hm3b
      unfold partK at hlen ⊢
      simp only [if_true, List.length_append] at hlen ⊢
      generalize ktagsP ver true fs t (knownP fs) = KT at kd k11 hcl htl hlen ⊢
      rw [wpC_seq, wpC_seq, wpC_blk]
      have hb3 : Blk w3b w.heap.size ts := hb1.mod hm1b (by simp)
      have c3 := fun k => hb3.cell k
      cases ht with
      | @mk n s tn l u tsv lv uv tss uss g1 g2 g3 g4 g5 =>
      have hku : ∀ p ∈ u, p.1 < 4294967296 := by simp only [TR.kok] at hk; exact hk.1
      refine go1 (v := v) rfl (by simp [k0]) ?_
      refine go1 (v := .pointer (some ⟨w.heap.size, 4, none⟩)) rfl (by simp [k7]) ?_
      refine go1 (v := uv) rfl (by simp [c3]) ?_
      have g5l : RepU (fun b => b < w1.heap.size) w3b u uss := g5.mod hm03b (by simp) fun b hb _ => Nat.lt_of_lt_of_le hb hm1.size
      refine goCall rfl (vs := [v, uv]) (by simp) (unknown_callB (ok := fun b => b < w1.heap.size) hm hun hkn (hv.keep hm03b) (hr.keep hm03b) (by omega) htag (g4.keep hm03b) g5l) ?_
      rintro e w4 ⟨lv4, ucs, rfl, hl4, hu4, hlb, hm4⟩
      refine ⟨_, rfl, ?_⟩
      simp only [TR.u] at hlen ⊢
      have hku' := unknownP_kok (fs := fs) hku
      have hul := unknownP_length fs u
      generalize unknownP fs u = U at hl4 hu4 hlen hku' hul ⊢
      obtain ⟨ub, uc, eu⟩ := hl4.shape
      have hm14 : Mod [] w1 w4 := hm1b.trans hm4
      have kd4 : DRaw w4 w3.heap.size (σ3 10) (tagsQ KT) := kd.keep hm4
      have kown : ∀ b, ownB (σ3 10) = some b → w3.heap.size ≤ b ∧ b < w3b.heap.size := fun b hb => kd.own hb
      refine go1 (v := .int .i64 (U.length : Nat)) rfl (by simp [eu]) ?_
      refine go1 (v := .int .i64 (0 : Nat)) rfl (by simp) (goEnd ?_)
      simp only [thenC]
      -- what the tags are laid over stands
      have hkeep : ∀ {w' : World} {v' : Value} {l' : List UInt8}, AppD w1.heap.size w4 (σ3 10) w' v' l' → SlC anyB w' lv4 U.length ucs.flatten ∧ RepU (fun b => b < w1.heap.size) w' U ucs := by
        intro w' v' l' hap
        have hmo := hap.mod
        refine ⟨?_, hu4.mod hmo (fun b hb hc => ?_) fun _ _ h => h⟩
        · rcases hlb with rfl | ⟨B, n', c', e', hB⟩
          · obtain ⟨base, cp, e1, e2, e3, e4⟩ := hl4
            refine ⟨base, cp, e1, e2, e3, fun a ha hc => ?_⟩
            rw [ha] at e1; simp at e1
          · obtain ⟨base, cp, e1, e2, e3, e4⟩ := hl4
            refine ⟨base, cp, e1, e2, e3, fun a ha hc => ?_⟩
            obtain ⟨q1, q2, q3⟩ := e4 a ha hc
            have ea : a.block = B := by
              rw [e', ha] at e1
              simp only [Value.slice.injEq, Option.some.injEq] at e1
              rw [← e1.1]
            refine ⟨trivial, Nat.lt_of_lt_of_le q2 hmo.size, q3.of_eq (hmo.block _ q2 fun hc => ?_)⟩
            have := kown _ (by simpa using hc)
            omega
        · have := kown b (by simpa using hb); omega
      refine rangeLoop (n := U.length)
        (fun j σ' w' => σ' 100 = lv4 ∧ σ' 102 = .int .i64 (j : Nat) ∧ σ' 101 = .int .i64 (U.length : Nat) ∧ σ' 11 = .int .i64 ((KT.length + j : Nat) : Int) ∧ σ' 9 = σ 9 ∧ AppD w1.heap.size w4 (σ3 10) w' (σ' 10) (tagsQ KT ++ tagsP (U.take j)) ∧ Mod [] w1 w')
        (by omega) (by omega) (fun j σ w h => ⟨h.2.1, h.2.2.1⟩) ?_ ?_ ?_
      · exact ⟨by simp, by simp, by simp, by simp [k11], by simp [k9], by simpa [tagsP] using AppD.refl (kd4.low hw13), hm14⟩
      · rintro j σ5 w5 hj ⟨q100, q102, q101, q11, q9, qd, qm⟩
        obtain ⟨p, hp⟩ : ∃ p, U[j]? = some p := ⟨_, List.getElem?_eq_getElem hj⟩
        obtain ⟨hl5, hu5⟩ := hkeep qd
        obtain ⟨psv, hps, hpsv⟩ := hu5.nth hp
        obtain ⟨a, c, ea, hjn, hcell⟩ := hl5.flat hu5.length hu5.two hps
        have hpm := List.mem_of_getElem? hp
        have hsn := tagsP_snoc hp
        refine part_tagK (w0 := w1) (n := U.length) (c := c) (a := a) (k := p.1) (b := p.2) (cnt := KT.length + j) hm hu hw qm (by simp [q100, ea]) (by simp [q102]) hj hul (by simp [q11]) (by omega) (hku' p hpm) hcell hpsv (by simpa using qd.raw) (by
          rw [List.append_assoc, ← hsn]
          have := flatMap_take_le (fun p : Nat × List UInt8 => uvE p.1 ++ (uvE (wholeP p.2).length ++ wholeP p.2)) U (j + 1)
          simp only [List.length_append] at hlen ⊢
          unfold tagsP at hlen ⊢; omega) fun σ' w' hfr h11' hd' hm' => ?_
        rw [List.append_assoc, ← hsn] at hd'
        simp only [rngP]
        have g : ∀ s, s < 104 → s ≠ 10 → s ≠ 11 → s ≠ 19 → s ≠ 20 → s ≠ 103 → σ' s = σ5 s := fun s s1 s2 s3 s4 s5 s6 => by rw [hfr s s1 s2 s3 s4 s5, upd_ne _ _ s6]
        refine ⟨by rw [g 102 (by omega) (by omega) (by omega) (by omega) (by omega) (by omega)]; exact q102, ?_, by simp, ?_, ?_, ?_, ?_, hm'⟩
        · simp only [upd]; rw [if_neg (by omega), if_neg (by omega), g 100 (by omega) (by omega) (by omega) (by omega) (by omega) (by omega)]; exact q100
        · simp only [upd]; rw [if_neg (by omega), if_neg (by omega), g 101 (by omega) (by omega) (by omega) (by omega) (by omega) (by omega)]; exact q101
        · simp only [upd]; rw [if_neg (by omega), if_neg (by omega), h11']; rfl
        · simp only [upd]; rw [if_neg (by omega), if_neg (by omega), g 9 (by omega) (by omega) (by omega) (by omega) (by omega) (by omega)]; exact q9
        · have := qd.trans (by simpa using hd')
          simpa [upd] using this
      · rintro σ5 w5 ⟨q100, q102, q101, q11, q9, qd, qm⟩
        rw [List.take_of_length_le (Nat.le_refl _)] at qd
        have hdr5 : DRaw w5 w1.heap.size (σ 9) (bodyP ver true fs 0 (.mk n s tn l u)) := ((hdr3.keep hm3b).keep hm4).mod qd.mod fun b hb hc => by
          have h1 := (hdr3.own hb).2
          have h2 := (kown b (by simpa using hc)).1
          omega
        simp only [thenC]
        rw [wpC_seq, wpC_blk]
        refine go1 (v := σ 9) rfl (by simp [q9]) ?_
        refine go1 (v := .int .i64 ((KT.length + U.length : Nat) : Int)) rfl (by simp [q11]) ?_
        refine go1 (v := .int .u64 ((KT.length + U.length : Nat) : Int)) rfl (by simp only [RK.val?, ev, updo, upd_same]; rw [u64_natS (n := KT.length + U.length) (by omega)]) ?_
        refine goCall rfl (vs := [.int .u64 ((KT.length + U.length : Nat) : Int)]) (by simp) (uvarint_call hm hu (by omega)) ?_
        rintro e w6 ⟨v6, rfl, hd6, hm6⟩
        refine ⟨v6, rfl, ?_⟩
        have r0 := hdr5.keep hm6
        have hm16 : Mod [] w1 w6 := qm.trans hm6
        refine goC rfl ?_
        refine append_run (n0 := w1.heap.size) (v := σ 9) (by simp) r0 hm16.size (k := uvE (KT.length + U.length)) (by simpa using hd6.src) (by omega) fun v7 w7 ha7 => ?_
        have hm17 := ha7.mod0 r0 hm16
        have qd7 : DRaw w7 w1.heap.size (σ5 10) (tagsQ KT ++ tagsP U) := (qd.raw.keep hm6).mod ha7.mod fun b hb hc => by
          have h1 := (hdr3.own (b := b) (by simpa using hc)).2
          rcases qd.own b hb with h2 | h2
          · have := (kown b h2).1; omega
          · have := hm3b.size; have := hm4.size; omega
        refine go1 (v := σ5 10) rfl (by simp) ?_
        refine goC rfl ?_
        refine append_run (n0 := w1.heap.size) (v := v7) (by simp) ha7.raw hm17.size (k := tagsQ KT ++ tagsP U) (by simpa using qd7.src) (by simp only [List.length_append]; omega) fun v8 w8 ha8 => ?_
        have hm18 := ha8.mod0 ha7.raw hm17
        refine go1 (v := v8) rfl (by simp) (wpR_done ?_)
        refine ret1 (v := v8) (by simp) ⟨v8, rfl, ?_, hm1.trans hm18⟩
        have := ha8.raw.low hm1.size
        simpa [List.append_assoc] using this
end
end Go.Msk
