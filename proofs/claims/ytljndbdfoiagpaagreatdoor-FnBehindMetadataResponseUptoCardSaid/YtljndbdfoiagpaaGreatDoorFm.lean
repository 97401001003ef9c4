/- A small language of resolved operations, and what the generic and the generated functions do in it (part 13). -/
import Derived.Test.YtljndbdfoiagpaaGreatDoorFl

namespace Go.Msk
open Go.RowKit
set_option maxRecDepth 100000
def knownP (fs : List FD) : Nat := fs.foldl (fun n f => if f.tag ≥ 0 then max n (f.tag.toNat + 1) else n) 0
def insU (k : Nat) (b : List UInt8) : List (Nat × List UInt8) → List (Nat × List UInt8)
  | [] => [(k, b)]
  | (k', b') :: r => if k' < k then (k', b') :: insU k b r else if k' = k then (k', b') :: r else (k, b) :: (k', b') :: r
def unkStep (least : Nat) (out : List (Nat × List UInt8)) (t : Nat × List UInt8) : List (Nat × List UInt8) := if t.1 < least then out else insU t.1 t.2 out
def unknownP (fs : List FD) (u : List (Nat × List UInt8)) : List (Nat × List UInt8) := (u.take 32767).foldl (unkStep (knownP fs)) []
def posU (k : Nat) : List (Nat × List UInt8) → Nat
  | [] => 0
  | (k', _) :: r => if k' < k then posU k r + 1 else 0
theorem posU_le (k : Nat) : ∀ l, posU k l ≤ l.length
  | [] => Nat.le_refl _
  | (k', b) :: r => by simp only [posU]; split <;> simp [posU_le k r]
theorem posU_lt {k : Nat} : ∀ {l : List (Nat × List UInt8)} {i : Nat}, i < posU k l → ∃ t, l[i]? = some t ∧ t.1 < k
  | [], i, h => by simp [posU] at h
  | (k', b) :: r, 0, h => by
    simp only [posU] at h
    split at h
    · rename_i hk; exact ⟨_, rfl, hk⟩
    · omega
  | (k', b) :: r, i + 1, h => by
    simp only [posU] at h
    split at h
    · simpa using posU_lt (l := r) (i := i) (by omega)
    · omega
theorem posU_ge {k : Nat} : ∀ {l : List (Nat × List UInt8)} {t : Nat × List UInt8}, l[posU k l]? = some t → ¬ t.1 < k
  | [], t, h => by simp [posU] at h
  | (k', b) :: r, t, h => by
    simp only [posU] at h
    split at h
    · simp only [List.getElem?_cons_succ] at h; exact posU_ge h
    · rename_i hk; simp only [List.getElem?_cons_zero, Option.some.injEq] at h; subst h; exact hk
theorem insU_pos (k : Nat) (b : List UInt8) : ∀ l, insU k b l = if (l[posU k l]?).map (·.1) = some k then l else l.take (posU k l) ++ (k, b) :: l.drop (posU k l)
  | [] => by simp [insU, posU]
  | (k', b') :: r => by
    simp only [insU, posU]
    by_cases h : k' < k
    · simp only [h, if_true, List.getElem?_cons_succ, List.take_succ_cons, List.drop_succ_cons, List.cons_append]
      rw [insU_pos k b r]
      split <;> rfl
    · simp only [h, if_false, List.getElem?_cons_zero, Option.map_some, Option.some.injEq, List.take_zero, List.drop_zero, List.nil_append]
theorem knownP_lt {fs : List FD} (h : ∀ f ∈ fs, f.tag < 2147483648) : knownP fs < 2147483649 := by
  have : ∀ (l : List FD) (n : Nat), n < 2147483649 → (∀ f ∈ l, f.tag < 2147483648) → l.foldl (fun n f => if f.tag ≥ 0 then max n (f.tag.toNat + 1) else n) n < 2147483649 := by
    intro l
    induction l with
    | nil => intro n h _; exact h
    | cons f l ih =>
      intro n hn hl
      simp only [List.foldl_cons]
      refine ih _ ?_ fun g hg => hl g (List.mem_cons_of_mem _ hg)
      have := hl f List.mem_cons_self
      split
      · omega
      · exact hn
  exact this fs 0 (by omega) h
theorem knownP_snoc (l : List FD) (f : FD) : knownP (l ++ [f]) = if f.tag ≥ 0 then max (knownP l) (f.tag.toNat + 1) else knownP l := by
  simp [knownP, List.foldl_append]
theorem take_succ_of {α : Type} {l : List α} {j : Nat} {x : α} (h : l[j]? = some x) : l.take (j + 1) = l.take j ++ [x] := by
  rw [List.take_add_one, h]; rfl
theorem flat_setAt {n : Nat} {css : List (List Value)} {rest es : List Value} {k : Nat} (h2 : ∀ c ∈ css, c.length = n) (he : es.length = n) (hk : k < css.length) : splice (css.flatten ++ rest) (k * n) es = (css.set k es).flatten ++ rest := by
  induction css generalizing k with
  | nil => simp at hk
  | cons c css ih =>
    have hc := h2 c List.mem_cons_self
    cases k with
    | zero =>
      simp only [Nat.zero_mul, List.set_cons_zero, List.flatten_cons, splice, List.take_zero, List.nil_append, Nat.zero_add, List.append_assoc]
      rw [he, ← hc, List.drop_left]
    | succ k =>
      have := ih (k := k) (fun x hx => h2 x (List.mem_cons_of_mem _ hx)) (by simpa using hk)
      simp only [List.set_cons_succ, List.flatten_cons, List.append_assoc] at this ⊢
      rw [← this]
      simp only [splice]
      have e : (k + 1) * n = c.length + k * n := by rw [hc, Nat.add_mul]; omega
      rw [e, List.take_length_add_append, Nat.add_assoc, List.drop_length_add_append, List.append_assoc]
section
variable {P : Program} {F : Nat → Nat}
attribute [local simp] gOk updo upd ev RK.val? isShift intBin Addr.add_mk args0 Value.cells undef
theorem known_call (hm : P.follows .mixedOrders = true) (h : liftF P (F sKnown) = some (ir_sKnown F)) {w : World} {v : Value} {fs : List FD} {css : List (List Value)} (hv : SlC anyB w v fs.length css.flatten) (hr : RepFL anyB w fs css) (hlen : fs.length < 2147483648) (ht : ∀ f ∈ fs, f.tag < 2147483648) :
    Calls P (F sKnown) [v].toArray w fun e w' => e = .returned (.int .u32 (knownP fs)) ∧ Mod [] w w' := by
  unfold ir_sKnown at h
  refine call_of h hm (by simp) ?_
  clear h
  obtain ⟨vb, vc, ev'⟩ := hv.shape
  rw [wpC_seq, wpC_blk]
  refine go1 rfl rfl (wpR_done ?_)
  rw [wpC_seq, wpC_blk]
  refine go1 rfl rfl (wpR_done ?_)
  rw [wpC_seq, wpC_seq, wpC_blk]
  iterate 3 (apply go1 rfl; (· simp [ev'] <;> rfl))
  refine wpR_done ?_
  refine rangeLoop (n := fs.length) (fun j σ w' => σ 6 = v ∧ σ 8 = .int .i64 (j : Nat) ∧ σ 7 = .int .i64 fs.length ∧ σ 3 = .int .u32 (knownP (fs.take j) : Nat) ∧ Mod [] w w') (by omega) (by omega) (fun j σ w h => ⟨h.2.1, h.2.2.1⟩) ?_ ?_ ?_
  · simp [knownP, ev', Mod.refl]
  · rintro j σ w1 hj ⟨h6, h8, h7, h3, hm1⟩
    obtain ⟨f, hf⟩ : ∃ f, fs[j]? = some f := ⟨fs[j], by simp [hj]⟩
    obtain ⟨cs, hcs, hrep⟩ := hr.nth hf
    obtain ⟨a, c, ea, hjn, hcell⟩ := hv.flat hr.length hr.eight hcs
    have htag := ht f (List.mem_of_getElem? hf)
    have hcell1 : cellsAt w1 (a.add (j * 8)) 0 8 = some cs := cellsAt_below hm1.below _ _ _ hcell
    unfold ir_sKnown_1
    rw [wpC_seq, wpC_blk]
    refine go1 (v := .pointer (some (a.add (j * 8)))) rfl (by simp [h6, ea, h8, hjn]) ?_
    refine go1 (v := .agg cs.toArray) rfl (by simp [hcell1]) ?_
    refine goAlloc fun w2 hb2 hm2 => ?_
    refine goSt (b := w1.heap.size) (v := .agg cs.toArray) (by simp) (by simp) hb2 (by simp [hrep.eight]) rfl (by simpa using hrep.oneCell) fun w3 hb3 hm3 => ?_
    have hm13 : Mod [] w1 w3 := Mod.drop (b := w1.heap.size) (S := []) (hm2.nil.trans hm3) (Nat.le_refl _)
    refine wpR_done ?_
    have c3 := fun k => hb3.cell k
    rw [wpC_seq, wpC_blk]
    cases hrep with
    | @mk kind frm to null tag dfl of sub sv css' h1 h2 =>
    iterate 3 (apply go1 rfl; (· simp [c3] <;> rfl))
    refine wpR_done ?_
    simp only [FD.tag] at htag
    by_cases e1 : tag ≥ 0
    · rw [wpC_cond_t (by simp [e1]), wpC_blk]
      refine go1 (v := .int .u32 (knownP (fs.take j) : Nat)) rfl (by simp [h3]) ?_
      iterate 2 (apply go1 rfl; (· simp [c3] <;> rfl))
      have hk := knownP_lt (fs := fs.take j) fun f hf => ht f (List.mem_of_mem_take hf)
      refine go1 (v := .int .u32 (tag.toNat : Nat)) rfl (by
        simp only [RK.val?, ev, updo, upd, if_true]
        rw [show tag = ((tag.toNat : Nat) : Int) by omega, u32_nat (by omega)]; simp) ?_
      refine go1 (v := .int .u32 ((tag.toNat + 1 : Nat) : Int)) rfl (by
        simp only [RK.val?, ev, updo, upd, if_true, isShift, decide_true, Bool.or_true, intBin]
        rw [show (tag.toNat : Int) + 1 = ((tag.toNat + 1 : Nat) : Int) by omega, u32_nat (by omega)]) ?_
      refine go1 (v := .int .u32 ((max (knownP (fs.take j)) (tag.toNat + 1) : Nat) : Int)) rfl (by
        simp only [RK.val?, ev, updo, upd, if_true]
        simp
        split <;> omega) ?_
      refine go1 rfl rfl (goEnd ?_)
      simp only [rngP]
      refine ⟨by simp [h8], by simp [h6], by simp, by simp [h7], ?_, hm1.trans hm13⟩
      rw [take_succ_of hf, knownP_snoc]
      simp [FD.tag, e1]
    · rw [wpC_cond_f (by simp; omega), wpC_skip]
      simp only [rngP]
      refine ⟨by simp [h8], by simp [h6], by simp, by simp [h7], ?_, hm1.trans hm13⟩
      rw [take_succ_of hf, knownP_snoc]
      simp [FD.tag, e1, h3]
  · rintro σ w1 ⟨h6, h8, h7, h3, hm1⟩
    simp only [thenC]
    rw [wpC_seq, wpC_blk]
    refine go1 rfl rfl (go1 rfl rfl (wpR_done (ret1 (v := .int .u32 (knownP fs)) (by simp [h3]) ⟨rfl, hm1⟩)))
end
end Go.Msk

namespace Go.Msk
open Go.RowKit
set_option maxRecDepth 100000
section
variable {P : Program} {F : Nat → Nat}
attribute [local simp] bnd wpC wpR RI.wp gOk RK.run thenC inBlockC updo upd ev args0 postC rvals RV.val tup_one isShift
theorem append_two {σ : Sl} {w : World} {x y : Operand} {lv : Value} {css : List (List Value)} {es : List Value} {n0 sb : Nat} {K : Value → World → Prop} (hx : ev σ x = lv) (hraw : LRaw2 w n0 lv css) (hn0 : n0 ≤ w.heap.size)
    (hy : ev σ y = .slice (some ⟨sb, 0, none⟩) 1 1) (hsb : Blk w sb es) (h5 : es.length = 2) (hone : ∀ v ∈ es, v.oneCell' = true) (hl : css.length ≤ 2147483647)
    (hK : ∀ lv' w', LRaw2 w' n0 lv' (css ++ [es]) → (((own lv' = own lv ∧ Mod (own lv).toList w w') ∧ ∃ BA c, lv = .slice (some ⟨BA, 0, none⟩) css.length c ∧ css.length + 1 ≤ c) ∨ (own lv' = some w.heap.size ∧ Mod [] w w')) → K lv' w') : (RK.append x y 2 32).run P σ w K := by
  have hsrc : srcCells w 2 (.slice (some ⟨sb, 0, none⟩) 1 1) = some (1, es) := by
    simp only [srcCells, cellsAt_of' hsb.cells (n := 1 * 2) (by omega), Option.map_some]
  simp only [RK.run, hx, hy]
  have h5' : ∀ cs ∈ css ++ [es], cs.length = 2 := fun cs hc => by
    rcases List.mem_append.1 hc with hc | hc
    · exact hraw.two cs hc
    · simp only [List.mem_singleton] at hc; subst hc; exact h5
  have hfl : css.flatten.length = css.length * 2 := flatten_length hraw.two
  rcases hraw.sl with ⟨rfl, rfl⟩ | ⟨BA, cap, rest, rfl, h2, h3, h4, hr⟩
  · simp only [hsrc, appendRun]
    rw [if_neg (by omega)]
    refine ⟨by omega, by omega, ?_⟩
    intro T cap rest hc hr
    refine hK _ _ ⟨h5', .inr ⟨w.heap.size, cap, rest, rfl, by simpa using hc, hn0, ?_, by simpa using hr⟩⟩ (.inr ⟨rfl, (Mod.drew _ _).trans (Mod.alloc _ _ _)⟩)
    have := Blk.new w.drew (es ++ rest) T
    simpa using this
  · simp only [hsrc, appendRun]
    by_cases hc : css.length + 1 ≤ cap
    · rw [if_pos hc]
      simp only [Addr.add_mk, Nat.zero_add]
      refine ⟨stOk_many h4 (by simp only [List.length_append]; omega) hone, hK _ _ ⟨h5', .inr ⟨BA, cap, rest.drop 2, by simp, by simpa using hc, h3, ?_, by simp; omega⟩⟩ (.inl ⟨⟨rfl, by simpa [own] using Mod.put (by simp)⟩, BA, cap, rfl, hc⟩)⟩
      have hput := h4.put (o := css.length * 2) (vs := es) (by simp only [List.length_append]; omega)
      have : splice (css.flatten ++ rest) (css.length * 2) es = (css ++ [es]).flatten ++ rest.drop 2 := by
        rw [splice_end hfl, h5, flat_snoc, List.append_assoc]
      rwa [this] at hput
    · rw [if_neg hc]
      refine ⟨by omega, by omega, ?_⟩
      have hco : cellsAt w ⟨BA, 0, none⟩ 0 (css.length * 2) = some css.flatten := by
        have := h4.cells.take css.flatten.length
        rw [List.take_left] at this
        exact cellsAt_of' this hfl
      simp only [hco]
      intro T cap' rest' hc' hr'
      refine hK _ _ ⟨h5', .inr ⟨w.heap.size, cap', rest', by simp, by simpa using hc', hn0, ?_, by simpa using hr'⟩⟩ (.inr ⟨rfl, (Mod.drew _ _).trans (Mod.alloc _ _ _)⟩)
      have := Blk.new w.drew (css.flatten ++ (es ++ rest')) T
      simpa using this
theorem RepU.append {ok : Nat → Prop} {w : World} {l l' : List (Nat × List UInt8)} {css css' : List (List Value)} (h : RepU ok w l css) (h' : RepU ok w l' css') : RepU ok w (l ++ l') (css ++ css') := by
  induction h with
  | nil => exact h'
  | cons h1 _ ih => exact .cons h1 ih
theorem RepU.two {ok : Nat → Prop} {w : World} {l : List (Nat × List UInt8)} {css : List (List Value)} (h : RepU ok w l css) : ∀ c ∈ css, c.length = 2 := by
  induction h with
  | nil => simp
  | cons h1 _ ih =>
    intro c hc
    rcases List.mem_cons.1 hc with rfl | hc
    · rfl
    · exact ih c hc
theorem RepU.length {ok : Nat → Prop} {w : World} {l : List (Nat × List UInt8)} {css : List (List Value)} (h : RepU ok w l css) : l.length = css.length := by
  induction h with
  | nil => rfl
  | cons h1 _ ih => simp [ih]
theorem RepU.nth {ok : Nat → Prop} {w : World} {l : List (Nat × List UInt8)} {css : List (List Value)} (h : RepU ok w l css) {j : Nat} {t : Nat × List UInt8} (ht : l[j]? = some t) : ∃ v, css[j]? = some [.int .u32 t.1, v] ∧ SlC ok w v t.2.length (u8s t.2) := by
  induction h generalizing j with
  | nil => simp at ht
  | cons h1 _ ih =>
    cases j with
    | zero => simp only [List.getElem?_cons_zero, Option.some.injEq] at ht; subst ht; exact ⟨_, rfl, h1⟩
    | succ j => simp only [List.getElem?_cons_succ] at ht ⊢; exact ih ht
end
end Go.Msk

namespace Go.Msk
open Go.RowKit
set_option maxRecDepth 100000
section
variable {P : Program}
theorem LRaw2.mod {w w' : World} {n0 : Nat} {lv : Value} {css : List (List Value)} {S : List Nat} (h : LRaw2 w n0 lv css) (hm : Mod S w w') (hS : ∀ b, own lv = some b → b ∉ S) : LRaw2 w' n0 lv css :=
  ⟨h.two, h.sl.imp id fun ⟨BA, cap, rest, g1, g2, g3, g4, g5⟩ => ⟨BA, cap, rest, g1, g2, g3, g4.mod hm (hS _ (by rw [g1]; rfl)), g5⟩⟩
theorem LRaw2.own {w : World} {n0 : Nat} {lv : Value} {css : List (List Value)} (h : LRaw2 w n0 lv css) {b : Nat} (hb : own lv = some b) : n0 ≤ b ∧ b < w.heap.size := by
  rcases h.sl with ⟨rfl, -⟩ | ⟨BA, cap, rest, rfl, -, h3, h4, -⟩
  · simp [Msk.own] at hb
  · simp only [Msk.own, Option.some.injEq] at hb; subst hb; exact ⟨h3, h4.lt⟩
theorem LRaw2.slcN {w : World} {n0 : Nat} {lv : Value} {css : List (List Value)} (h : LRaw2 w n0 lv css) : SlC (fun b => n0 ≤ b) w lv css.length css.flatten := by
  rcases h.sl with ⟨rfl, rfl⟩ | ⟨BA, cap, rest, rfl, h2, h3, h4, -⟩
  · exact SlC.nil
  · refine ⟨_, cap, rfl, h2, fun h => by simp at h, fun a ha _ => ?_⟩
    simp only [Option.some.injEq] at ha; subst ha
    refine ⟨h3, h4.lt, ?_⟩
    have := h4.cells.take css.flatten.length
    simpa using this
end
end Go.Msk

namespace Go.Msk
open Go.RowKit
set_option maxRecDepth 100000
theorem RepU.take {ok : Nat → Prop} {w : World} : ∀ {l : List (Nat × List UInt8)} {css : List (List Value)} (_ : RepU ok w l css) (k : Nat), RepU ok w (l.take k) (css.take k)
  | _, _, .nil, k => by simp; exact .nil
  | _, _, .cons h1 h2, 0 => by simp; exact .nil
  | _, _, .cons h1 h2, k + 1 => by simp only [List.take_succ_cons]; exact .cons h1 (h2.take k)
theorem RepU.drop {ok : Nat → Prop} {w : World} : ∀ {l : List (Nat × List UInt8)} {css : List (List Value)} (_ : RepU ok w l css) (k : Nat), RepU ok w (l.drop k) (css.drop k)
  | _, _, .nil, k => by simp; exact .nil
  | _, _, .cons h1 h2, 0 => by simp only [List.drop_zero]; exact .cons h1 h2
  | _, _, .cons h1 h2, k + 1 => by simp only [List.drop_succ_cons]; exact h2.drop k
theorem SlC.lowN {w : World} {v : Value} {n : Nat} {cs : List Value} (h : SlC anyB w v n cs) : SlC (fun b => b < w.heap.size) w v n cs := h.mod (Mod.refl [] w) (by simp) fun _ hb _ => hb
theorem RepU.any {ok : Nat → Prop} {w : World} {l : List (Nat × List UInt8)} {cs : List (List Value)} (h : RepU ok w l cs) : RepU anyB w l cs := h.mod (Mod.refl [] w) (by simp) fun _ _ _ => trivial
theorem RepU.oneCell {ok : Nat → Prop} {w : World} {l : List (Nat × List UInt8)} {css : List (List Value)} (h : RepU ok w l css) : ∀ c ∈ css, ∀ v ∈ c, v.oneCell' = true := by
  induction h with
  | nil => intro c hc; simp at hc
  | cons h _ ih =>
    intro c hc v hv
    rcases List.mem_cons.1 hc with rfl | hc
    · simp only [List.mem_cons, List.not_mem_nil, or_false] at hv
      rcases hv with rfl | rfl
      · rfl
      · exact h.one
    · exact ih c hc v hv
theorem set_shift {α : Type} {l : List α} {m : Nat} {x y : α} (h : l[m]? = some y) : (l.take (m + 1) ++ x :: l.drop (m + 1)).set (m + 1) y = l.take m ++ y :: l.drop m := by
  have hl : m < l.length := (List.getElem?_eq_some_iff.1 h).1
  have e1 : (l.take (m + 1)).length = m + 1 := by simp; omega
  have : l.take (m + 1) = l.take m ++ [y] := take_succ_of h
  rw [List.set_append, if_neg (by omega), e1, Nat.sub_self, List.set_cons_zero, this, List.append_assoc]
  have e2 : l.drop m = y :: l.drop (m + 1) := by
    rw [List.drop_eq_getElem_cons hl]
    congr 1
    exact (List.getElem?_eq_some_iff.1 h).2
  rw [e2]; rfl
theorem set_mid {α : Type} {l : List α} {m : Nat} {x y : α} (h : m ≤ l.length) : (l.take m ++ x :: l.drop m).set m y = l.take m ++ y :: l.drop m := by
  have e1 : (l.take m).length = m := by simp; omega
  rw [List.set_append, if_neg (by omega), e1, Nat.sub_self, List.set_cons_zero]
theorem mid_get {α : Type} {l : List α} {m j : Nat} {x : α} (hm : m ≤ l.length) (hj : j < m) : (l.take m ++ x :: l.drop m)[j]? = l[j]? := by
  rw [List.getElem?_append_left (by simp; omega), List.getElem?_take, if_pos hj]
section
variable {P : Program} {F : Nat → Nat}
attribute [local simp] gOk updo upd ev RK.val? isShift intBin Addr.add_mk args0 Value.cells undef
theorem unk_cond {σ : Sl} {w : World} {N i k tb : Nat} {lv sv : Value} {ucs : List (List Value)} {out : List (Nat × List UInt8)} {Q : Exit → Sl → World → Prop} (h6 : σ 6 = lv) (h8 : σ 8 = .pointer (some ⟨tb, 0, none⟩)) (h9 : σ 9 = .int .i64 (i : Nat))
    (hraw : LRaw2 w N lv ucs) (hrep : RepU (fun b => b < N) w out ucs) (htb : Blk w tb [.int .u32 (k : Nat), sv])
    (hQ : ∀ σ' w', (∀ s, s < 23 → σ' s = σ s) → σ' 36 = .bool (match out[i]? with | some t => decide (t.1 < k) | none => false) → Mod [] w w' → Q .normal σ' w') : wpC P (ir_sUnknown_1 F) Q σ w := by
  have hm : Mod [] w w.drew := Mod.drew _ _
  have ct := fun k => (htb.mod hm (by simp)).cell k
  have hlen := hrep.length
  have hsl := (hraw.slcN.any).keep hm
  obtain ⟨b, c, e6⟩ := hsl.shape
  unfold ir_sUnknown_1
  simp only [wpC]
  refine wpD_pure rfl ?_
  simp only [List.map_cons, List.map_nil, List.append_nil]
  refine go1 (v := .int .i64 (i : Nat)) rfl (by simp [h9]) ?_
  refine go1 (v := lv) rfl (by simp [h6]) ?_
  refine go1 (v := .int .i64 (ucs.length : Nat)) rfl (by simp [e6]) ?_
  refine go1 (v := .bool (decide (i < out.length))) rfl (by simp [hlen]) ?_
  refine go1 (v := .bool (decide (i < out.length))) rfl (by simp) ?_
  by_cases hi : i < out.length
  · obtain ⟨t, ht⟩ : ∃ t, out[i]? = some t := ⟨out[i], by simp [hi]⟩
    obtain ⟨v, hv1, hv2⟩ := hrep.nth ht
    obtain ⟨p, cc, ep, hj, hcell0, hcell1⟩ := hsl.pair rfl hraw.two hv1
    refine go1 (v := lv) (by simp [hi]) (by simp [h6]) ?_
    refine go1 (v := .int .i64 (i : Nat)) (by simp [hi]) (by simp [h9]) ?_
    refine go1 (v := .pointer (some (p.add (i * 2)))) (by simp [hi]) (by simp [ep]; omega) ?_
    refine go1 (v := .pointer (some ((p.add (i * 2)).add 0))) (by simp [hi]) (by simp) ?_
    refine go1 (v := .int .u32 (t.1 : Nat)) (by simp [hi]) (by simp [hcell0]) ?_
    refine go1 (v := .pointer (some ⟨tb, 0, none⟩)) (by simp [hi]) (by simp [h8]) ?_
    refine go1 (v := .int .u32 (k : Nat)) (by simp [hi]) (by simp [ct]) ?_
    refine go1 (v := .bool (decide (t.1 < k))) (by simp [hi]) (by simp) ?_
    refine go1 (v := .bool (decide (t.1 < k))) rfl (by simp [hi]) ?_
    refine goEnd (hQ _ _ ?_ (by simp [ht]) hm)
    intro s hs
    simp only [updo, upd]
    repeat rw [if_neg (by omega)]
  · have ht : out[i]? = none := by simp; omega
    iterate 8 (refine go0 (by simp [hi]) ?_)
    refine go1 (v := .bool false) rfl (by simp [hi]) ?_
    refine goEnd (hQ _ _ ?_ (by simp [ht]) hm)
    intro s hs
    simp only [updo, upd]
    repeat rw [if_neg (by omega)]
theorem unk_find {σ : Sl} {w : World} {N k tb : Nat} {lv sv : Value} {ucs : List (List Value)} {out : List (Nat × List UInt8)} {Q : Exit → Sl → World → Prop} (h6 : σ 6 = lv) (h8 : σ 8 = .pointer (some ⟨tb, 0, none⟩)) (h9 : σ 9 = .int .i64 0)
    (hraw : LRaw2 w N lv ucs) (hrep : RepU (fun b => b < N) w out ucs) (htb : Blk w tb [.int .u32 (k : Nat), sv]) (hlen : out.length < 2147483648)
    (hQ : ∀ σ' w', (∀ s, s < 23 → s ≠ 9 → σ' s = σ s) → σ' 9 = .int .i64 (posU k out : Nat) → Mod [] w w' → Q .normal σ' w') :
    wpC P (.block 2 (.loop (.seq (.seq (ir_sUnknown_1 F)
                    (.cond (.tmp 36)
                      (.skip)
                      (.exit 2)))
                  (.block 3 (.blk [⟨(some (37)), .mv (.tmp 9), none⟩,
                      ⟨(some (38)), .bin .add (.tmp 37) (.const (.int .i64 1)), none⟩,
                      ⟨(some (9)), .mv (.tmp 38), none⟩]))))) Q σ w := by
  rw [wpC_block, wpC_loop]
  refine ⟨fun σ1 w1 => ∃ i, i ≤ posU k out ∧ σ1 9 = .int .i64 (i : Nat) ∧ (∀ s, s < 23 → s ≠ 9 → σ1 s = σ s) ∧ Mod [] w w1, fun σ1 _ => posU k out - (match σ1 9 with | .int _ j => j.toNat | _ => 0), ⟨0, Nat.zero_le _, h9, fun _ _ _ => rfl, Mod.refl _ _⟩, ?_⟩
  rintro σ1 w1 ⟨i, hi, k9, hfr, hm1⟩
  rw [wpC_seq, wpC_seq]
  refine unk_cond (lv := lv) (by rw [hfr 6 (by omega) (by omega)]; exact h6) (by rw [hfr 8 (by omega) (by omega)]; exact h8) k9 (hraw.mod hm1 (by simp)) (hrep.mod hm1 (by simp) fun _ _ h => h) (htb.mod hm1 (by simp)) fun σ2 w2 hfr2 h36 hm2 => ?_
  simp only [thenC]
  have hfr' : ∀ s, s < 23 → s ≠ 9 → σ2 s = σ s := fun s h1 h2 => by rw [hfr2 s h1]; exact hfr s h1 h2
  by_cases hlt : i < posU k out
  · obtain ⟨t, ht, htk⟩ := posU_lt hlt
    rw [wpC_cond_t (by rw [ev, h36, ht]; simp [htk]), wpC_skip]
    simp only [thenC]
    rw [wpC_block, wpC_blk]
    have hle := posU_le k out
    refine go1 (v := .int .i64 (i : Nat)) rfl (by simp [hfr2, k9]) ?_
    refine go1 (v := .int .i64 ((i + 1 : Nat) : Int)) rfl (by
      simp only [RK.val?, ev, updo, upd, if_true, isShift, decide_true, Bool.or_true, intBin]
      rw [show (i : Int) + 1 = ((i + 1 : Nat) : Int) by omega, i64_nat (by omega)]) ?_
    refine go1 (v := .int .i64 ((i + 1 : Nat) : Int)) rfl (by simp) (goEnd ?_)
    simp only [inBlockC, thenC]
    refine ⟨⟨i + 1, by omega, by simp, fun s h1 h2 => ?_, hm1.trans hm2⟩, ?_⟩
    · rw [← hfr' s h1 h2]; simp only [updo, upd]
      repeat rw [if_neg (by omega)]
    · simp only [updo, upd, if_true, k9, Int.toNat_natCast]
      have : posU k out - (i + 1) < posU k out - i := by omega
      exact this
  · have : i = posU k out := by omega
    subst this
    have hf : σ2 36 = .bool false := by
      rw [h36]
      cases ht : out[posU k out]? with
      | none => rfl
      | some t => simp [posU_ge ht]
    rw [wpC_cond_f (by rw [ev, hf])]
    simp only [wpC, thenC, inBlockC, if_true]
    exact hQ σ2 w2 hfr' (by rw [hfr2 9 (by omega)]; exact k9) (hm1.trans hm2)
theorem unk_skip {σ : Sl} {w : World} {N k tb least i : Nat} {lv sv : Value} {ucs : List (List Value)} {out : List (Nat × List UInt8)} {Q : Exit → Sl → World → Prop} (h5 : σ 5 = .int .u32 (least : Nat)) (h6 : σ 6 = lv) (h8 : σ 8 = .pointer (some ⟨tb, 0, none⟩)) (h9 : σ 9 = .int .i64 (i : Nat))
    (hraw : LRaw2 w N lv ucs) (hrep : RepU (fun b => b < N) w out ucs) (htb : Blk w tb [.int .u32 (k : Nat), sv])
    (hQ : ∀ σ' w', (∀ s, s < 23 → σ' s = σ s) → σ' 58 = .bool (decide (k < least) || decide ((out[i]?).map (·.1) = some k)) → Mod [] w w' → Q .normal σ' w') : wpC P (ir_sUnknown_2 F) Q σ w := by
  have hm : Mod [] w w.drew := Mod.drew _ _
  have ct := fun k => (htb.mod hm (by simp)).cell k
  have hlen := hrep.length
  have hsl := (hraw.slcN.any).keep hm
  obtain ⟨b, c, e6⟩ := hsl.shape
  unfold ir_sUnknown_2
  simp only [wpC]
  refine wpD_pure rfl ?_
  simp only [List.map_cons, List.map_nil, List.append_nil]
  refine go1 (v := .pointer (some ⟨tb, 0, none⟩)) rfl (by simp [h8]) ?_
  refine go1 (v := .int .u32 (k : Nat)) rfl (by simp [ct]) ?_
  refine go1 (v := .int .u32 (least : Nat)) rfl (by simp [h5]) ?_
  refine go1 (v := .bool (decide (k < least))) rfl (by simp) ?_
  refine go1 (v := .bool (decide (k < least))) rfl (by simp) ?_
  by_cases hk : k < least
  · iterate 14 (refine go0 (by simp [hk]) ?_)
    refine go1 (v := .bool true) rfl (by simp [hk]) ?_
    refine goEnd (hQ _ _ ?_ (by simp [hk]) hm)
    intro s hs
    simp only [updo, upd]
    repeat rw [if_neg (by omega)]
  · refine go1 (v := .int .i64 (i : Nat)) (by simp [hk]) (by simp [h9]) ?_
    refine go1 (v := lv) (by simp [hk]) (by simp [h6]) ?_
    refine go1 (v := .int .i64 (ucs.length : Nat)) (by simp [hk]) (by simp [e6]) ?_
    refine go1 (v := .bool (decide (i < out.length))) (by simp [hk]) (by simp [hlen]) ?_
    refine go1 (v := .bool (decide (i < out.length))) (by simp [hk]) (by simp) ?_
    by_cases hi : i < out.length
    · obtain ⟨t, ht⟩ : ∃ t, out[i]? = some t := ⟨out[i], by simp [hi]⟩
      obtain ⟨v, hv1, hv2⟩ := hrep.nth ht
      obtain ⟨p, cc, ep, hj, hcell0, hcell1⟩ := hsl.pair rfl hraw.two hv1
      refine go1 (v := lv) (by simp [hi]) (by simp [h6]) ?_
      refine go1 (v := .int .i64 (i : Nat)) (by simp [hi]) (by simp [h9]) ?_
      refine go1 (v := .pointer (some (p.add (i * 2)))) (by simp [hi]) (by simp [ep]; omega) ?_
      refine go1 (v := .pointer (some ((p.add (i * 2)).add 0))) (by simp [hi]) (by simp) ?_
      refine go1 (v := .int .u32 (t.1 : Nat)) (by simp [hi]) (by simp [hcell0]) ?_
      refine go1 (v := .pointer (some ⟨tb, 0, none⟩)) (by simp [hi]) (by simp [h8]) ?_
      refine go1 (v := .int .u32 (k : Nat)) (by simp [hi]) (by simp [ct]) ?_
      refine go1 (v := .bool (decide (t.1 = k))) (by simp [hi]) (by
        simp
        by_cases e : t.1 = k
        · simp [e]
        · have : ¬ ((t.1 : Int) = k) := by omega
          simp [e, this]) ?_
      refine go1 (v := .bool (decide (t.1 = k))) (by simp [hk]) (by simp [hi]) ?_
      refine go1 (v := .bool (decide (t.1 = k))) rfl (by simp [hk]) ?_
      refine goEnd (hQ _ _ ?_ (by simp [ht, hk]) hm)
      intro s hs
      simp only [updo, upd]
      repeat rw [if_neg (by omega)]
    · have ht : out[i]? = none := by simp; omega
      iterate 8 (refine go0 (by simp [hi]) ?_)
      refine go1 (v := .bool false) (by simp [hk]) (by simp [hi]) ?_
      refine go1 (v := .bool false) rfl (by simp [hk]) ?_
      refine goEnd (hQ _ _ ?_ (by simp [ht, hk]) hm)
      intro s hs
      simp only [updo, upd]
      repeat rw [if_neg (by omega)]
theorem unk_shift {σ : Sl} {w : World} {i n B cap : Nat} {ucs : List (List Value)} {z rest : List Value} {Q : Exit → Sl → World → Prop} (h6 : σ 6 = .slice (some ⟨B, 0, none⟩) (n + 1) cap) (h9 : σ 9 = .int .i64 (i : Nat)) (hi : i ≤ n) (hn : ucs.length = n) (hbig : n < 2147483648)
    (h2 : ∀ c ∈ ucs, c.length = 2) (hone : ∀ c ∈ ucs, ∀ v ∈ c, v.oneCell' = true) (hz : z.length = 2) (hb : Blk w B ((ucs ++ [z]).flatten ++ rest))
    (hQ : ∀ σ' w' x, (∀ s, s < 63 → s ≠ 10 → σ' s = σ s) → x.length = 2 → Blk w' B ((ucs.take i ++ x :: ucs.drop i).flatten ++ rest) → Mod [B] w w' → Q .normal σ' w') : wpC P (ir_sUnknown_3 F) Q σ w := by
  unfold ir_sUnknown_3
  rw [wpC_seq, wpC_blk]
  refine go1 (v := .slice (some ⟨B, 0, none⟩) (n + 1) cap) rfl (by simp [h6]) ?_
  refine go1 (v := .int .i64 ((n + 1 : Nat) : Int)) rfl (by simp) ?_
  refine go1 (v := .int .i64 (n : Nat)) rfl (by
    simp only [RK.val?, ev, updo, upd, if_true, isShift, decide_true, Bool.or_true, intBin]
    rw [show ((n + 1 : Nat) : Int) - 1 = (n : Int) by omega, i64_nat (by omega)]) ?_
  refine go1 (v := .int .i64 (n : Nat)) rfl (by simp) (wpR_done ?_)
  rw [wpC_block, wpC_loop]
  refine ⟨fun σ1 w1 => ∃ m x, i ≤ m ∧ m ≤ n ∧ σ1 10 = .int .i64 (m : Nat) ∧ (∀ s, s < 63 → s ≠ 10 → σ1 s = σ s) ∧ x.length = 2 ∧ Blk w1 B ((ucs.take m ++ x :: ucs.drop m).flatten ++ rest) ∧ Mod [B] w w1,
    fun σ1 _ => (match σ1 10 with | .int _ j => j.toNat | _ => 0), ⟨n, z, hi, Nat.le_refl _, by simp, fun s h1 h2 => ?_, hz, ?_, Mod.refl _ _⟩, ?_⟩
  · simp only [updo, upd]
    repeat rw [if_neg (by omega)]
  · rw [List.take_of_length_le (by omega), List.drop_eq_nil_of_le (by omega)]; exact hb
  · rintro σ1 w1 ⟨m, x, him, hmn, k10, hfr, hx, hbl, hm1⟩
    rw [wpC_seq, wpC_seq, wpC_blk]
    refine go1 (v := .int .i64 (m : Nat)) rfl (by simp [k10]) ?_
    refine go1 (v := .int .i64 (i : Nat)) rfl (by simp [hfr, h9]) ?_
    refine go1 (v := .bool (decide (m > i))) rfl (by simp) (wpR_done ?_)
    by_cases hlt : m > i
    · rw [wpC_cond_t (by simp [hlt]), wpC_skip]
      simp only [thenC]
      rw [wpC_seq, wpC_block, wpC_blk]
      obtain ⟨m, rfl⟩ : ∃ k, m = k + 1 := ⟨m - 1, by omega⟩
      obtain ⟨y, hy⟩ : ∃ y, ucs[m]? = some y := ⟨ucs[m], by simp <;> omega⟩
      have hall : ∀ c ∈ ucs.take (m + 1) ++ x :: ucs.drop (m + 1), c.length = 2 := by
        intro c hc
        rcases List.mem_append.1 hc with hc | hc
        · exact h2 c (List.mem_of_mem_take hc)
        · rcases List.mem_cons.1 hc with rfl | hc
          · exact hx
          · exact h2 c (List.mem_of_mem_drop hc)
      have hy2 : y.length = 2 := h2 y (List.mem_of_getElem? hy)
      have hcell : cellsAt w1 ⟨B, m * 2, none⟩ 0 2 = some y := by
        have hc := hbl.cells.take (ucs.take (m + 1) ++ x :: ucs.drop (m + 1)).flatten.length
        rw [List.take_left] at hc
        have := flat_cells hc hall (j := m) (by rw [mid_get (by omega) (by omega)]; exact hy)
        simp only [Nat.zero_add] at this
        exact cellsAt_of' this hy2
      have f6 : σ1 6 = .slice (some ⟨B, 0, none⟩) (n + 1) cap := by rw [hfr 6 (by omega) (by omega)]; exact h6
      refine go1 (v := .slice (some ⟨B, 0, none⟩) (n + 1) cap) rfl (by simp [f6]) ?_
      refine go1 (v := .int .i64 ((m + 1 : Nat) : Int)) rfl (by simp [k10]) ?_
      refine go1 (v := .slice (some ⟨B, 0, none⟩) (n + 1) cap) rfl (by simp [f6]) ?_
      refine go1 (v := .int .i64 ((m + 1 : Nat) : Int)) rfl (by simp [k10]) ?_
      refine go1 (v := .int .i64 (m : Nat)) rfl (by
        simp only [RK.val?, ev, updo, upd, if_true, isShift, decide_true, Bool.or_true, intBin]
        rw [show ((m + 1 : Nat) : Int) - 1 = (m : Int) by omega, i64_nat (by omega)]) ?_
      refine go1 (v := .pointer (some ⟨B, m * 2, none⟩)) rfl (by simp; omega) ?_
      refine go1 (v := .agg y.toArray) rfl (by simp [hcell]) ?_
      refine go1 (v := .pointer (some ⟨B, (m + 1) * 2, none⟩)) rfl (by simp; omega) ?_
      refine wpR_run ?_
      have hfl : ((ucs.take (m + 1) ++ x :: ucs.drop (m + 1)).flatten).length = (n + 1) * 2 := by
        rw [flatten_length hall]
        simp; omega
      have hput := hbl.put (o := (m + 1) * 2) (vs := y) (by simp only [List.length_append, hfl]; omega)
      rw [flat_setAt hall hy2 (by simp; omega), set_shift hy] at hput
      have hmput : Mod [B] w1 (putCells w1 ⟨B, (m + 1) * 2, none⟩ 0 y) := Mod.put (by simp)
      simp only [RK.run, ev, updo, upd, if_true]
      refine ⟨by simpa using hy2, stOk_many hbl (by simp only [List.length_append, hfl]; simp [hy2]; omega) (by simpa using hone y (List.mem_of_getElem? hy)), ?_⟩
      refine goEnd ?_
      simp only [inBlockC, thenC]
      rw [wpC_blk]
      refine go1 (v := .int .i64 ((m + 1 : Nat) : Int)) rfl (by simp [k10]) ?_
      refine go1 (v := .int .i64 (m : Nat)) rfl (by
        simp only [RK.val?, ev, updo, upd, if_true, isShift, decide_true, Bool.or_true, intBin]
        rw [show ((m + 1 : Nat) : Int) - 1 = (m : Int) by omega, i64_nat (by omega)]) ?_
      refine go1 (v := .int .i64 (m : Nat)) rfl (by simp) (goEnd ?_)
      simp only [thenC]
      refine ⟨⟨m, y, by omega, by omega, by simp, fun s h1 h2 => ?_, hy2, by simpa using hput, hm1.trans (by simpa using hmput)⟩, ?_⟩
      · rw [← hfr s h1 h2]; simp only [updo, upd]
        repeat rw [if_neg (by omega)]
      · simp [k10]
    · have : m = i := by omega
      subst this
      rw [wpC_cond_f (by simp)]
      simp only [wpC, thenC, inBlockC, if_true]
      refine hQ _ w1 x (fun s h1 h2 => ?_) hx hbl hm1
      rw [← hfr s h1 h2]; simp only [updo, upd]
      repeat rw [if_neg (by omega)]
end
end Go.Msk

namespace Go.Msk
open Go.RowKit
set_option maxRecDepth 100000
theorem insU_length (k : Nat) (b : List UInt8) : ∀ l, (insU k b l).length ≤ l.length + 1
  | [] => by simp [insU]
  | (k', b') :: r => by
    have := insU_length k b r
    simp only [insU]; repeat' split
    all_goals simp
    omega
theorem unk_length (least : Nat) : ∀ (u out : List (Nat × List UInt8)), (u.foldl (unkStep least) out).length ≤ out.length + u.length
  | [], out => by simp
  | t :: u, out => by
    have h1 := unk_length least u (unkStep least out t)
    have h2 : (unkStep least out t).length ≤ out.length + 1 := by
      unfold unkStep; split
      · omega
      · exact insU_length _ _ _
    simp only [List.foldl_cons, List.length_cons]; omega
theorem two_one {k : Nat} {sv : Value} (h : sv.oneCell' = true) : ∀ y ∈ (Value.agg #[.int .u32 (k : Nat), sv]).cells.toList, y.oneCell' = true := by
  intro y hy
  have : y = .int .u32 (k : Nat) ∨ y = sv := by simpa [Value.cells] using hy
  rcases this with rfl | rfl
  · rfl
  · exact h
structure UQ (ok : Nat → Prop) (w0 w : World) (lv : Value) (out : List (Nat × List UInt8)) (ucs : List (List Value)) : Prop where
  raw : LRaw2 w w0.heap.size lv ucs
  rep : RepU (fun b => ok b ∧ b < w0.heap.size) w out ucs
  mod : Mod [] w0 w
theorem UQ.keep {ok : Nat → Prop} {w0 w w' : World} {lv : Value} {out : List (Nat × List UInt8)} {ucs : List (List Value)} (h : UQ ok w0 w lv out ucs) (hm : Mod [] w w') : UQ ok w0 w' lv out ucs :=
  ⟨h.raw.mod hm (by simp), h.rep.mod hm (by simp) fun _ _ h => h, h.mod.trans hm⟩
theorem UQ.low {ok : Nat → Prop} {w0 w : World} {lv : Value} {out : List (Nat × List UInt8)} {ucs : List (List Value)} (h : UQ ok w0 w lv out ucs) : RepU (fun b => b < w0.heap.size) w out ucs := h.rep.mod (Mod.refl [] _) (by simp) fun _ _ h => h.2
section
variable {P : Program} {F : Nat → Nat}
attribute [local simp] gOk updo upd ev RK.val? isShift intBin Addr.add_mk args0 Value.cells undef
theorem unk_body {ok : Nat → Prop} {σ : Sl} {w0 w : World} {j least n k : Nat} {lv sv : Value} {b : List UInt8} {ucs : List (List Value)} {out : List (Nat × List UInt8)} {a : Addr} {c : Nat} {Q : Exit → Sl → World → Prop} (h5 : σ 5 = .int .u32 (least : Nat)) (h6 : σ 6 = lv) (h17 : σ 17 = .slice (some a) n c) (h19 : σ 19 = .int .i64 (j : Nat)) (hj : j < n)
    (hq : UQ ok w0 w lv out ucs) (hcell : cellsAt w (a.add (j * 2)) 0 2 = some [.int .u32 (k : Nat), sv]) (hsv : SlC (fun b => ok b ∧ b < w0.heap.size) w sv b.length (u8s b)) (hout : out.length < 2147483647)
    (hQ : ∀ σ' w' lv' ucs', (∀ s, s < 23 → s ≠ 6 → s ≠ 8 → s ≠ 9 → s ≠ 10 → s ≠ 21 → s ≠ 22 → σ' s = σ s) → σ' 6 = lv' → UQ ok w0 w' lv' (unkStep least out (k, b)) ucs' → Q (.exit 1) σ' w' ∧ Q .normal σ' w') : wpC P (ir_sUnknown_4 F) Q σ w := by
  unfold ir_sUnknown_4
  rw [wpC_seq, wpC_blk]
  refine go1 (v := .pointer (some (a.add (j * 2)))) rfl (by simp [h17, h19, hj]) ?_
  refine go1 (v := .agg #[.int .u32 (k : Nat), sv]) rfl (by simp [hcell]) ?_
  refine goAlloc fun w1 hb1 hm1 => ?_
  refine goSt (b := w.heap.size) (v := .agg #[.int .u32 (k : Nat), sv]) (by simp) (by simp) hb1 rfl rfl (two_one hsv.one) fun w2 hb2 hm2 => ?_
  have hm02 : Mod [] w w2 := Mod.drop (b := w.heap.size) (S := []) (hm1.nil.trans hm2) (Nat.le_refl _)
  have hq2 := hq.keep hm02
  have hsv2 : SlC (fun b => ok b ∧ b < w0.heap.size) w2 sv b.length (u8s b) := hsv.mod hm02 (by simp) fun _ _ h => h
  refine wpR_done ?_
  rw [wpC_seq, wpC_blk]
  refine go1 rfl rfl (wpR_done ?_)
  rw [wpC_seq]
  refine unk_find (k := k) (tb := w.heap.size) (sv := sv) (lv := lv) (by simp [h6]) (by simp) (by simp) hq2.raw hq2.low (by simpa using hb2) (by omega) fun σ1 w3 hfr h9 hm3 => ?_
  have hq3 := hq2.keep hm3
  have f5 : σ1 5 = .int .u32 (least : Nat) := by rw [hfr 5 (by omega) (by omega)]; simp [h5]
  have f6 : σ1 6 = lv := by rw [hfr 6 (by omega) (by omega)]; simp [h6]
  have f8 : σ1 8 = .pointer (some ⟨w.heap.size, 0, none⟩) := by rw [hfr 8 (by omega) (by omega)]; simp
  simp only [thenC]
  rw [wpC_seq, wpC_seq]
  have hb3 : Blk w3 w.heap.size [.int .u32 (k : Nat), sv] := Blk.mod (by simpa using hb2) hm3 (by simp)
  refine unk_skip (least := least) (k := k) (tb := w.heap.size) (sv := sv) (lv := lv) f5 f6 f8 h9 hq3.raw hq3.low hb3 fun σ2 w4 hfr2 h58 hm4 => ?_
  have hq4 := hq3.keep hm4
  have hb4 := hb3.mod hm4 (by simp)
  simp only [thenC]
  have hfr12 : ∀ s, s < 23 → s ≠ 8 → s ≠ 9 → s ≠ 21 → s ≠ 22 → σ2 s = σ s := by
    intro s h1 h2 h3 h4 h5
    rw [hfr2 s h1, hfr s h1 h3]
    simp only [updo, upd]
    repeat rw [if_neg (by omega)]
  by_cases hk : k < least
  · rw [wpC_cond_t (by rw [ev, h58]; simp [hk])]
    simp only [wpC, thenC]
    refine (hQ σ2 w4 lv ucs (fun s h1 _ h2 h3 _ h4 h5 => hfr12 s h1 h2 h3 h4 h5) (by rw [hfr12 6 (by omega) (by omega) (by omega) (by omega) (by omega)]; exact h6) ?_).1
    unfold unkStep; rw [if_pos hk]; exact hq4
  · by_cases he : (out[posU k out]?).map (·.1) = some k
    · rw [wpC_cond_t (by rw [ev, h58]; simp [he])]
      simp only [wpC, thenC]
      refine (hQ σ2 w4 lv ucs (fun s h1 _ h2 h3 _ h4 h5 => hfr12 s h1 h2 h3 h4 h5) (by rw [hfr12 6 (by omega) (by omega) (by omega) (by omega) (by omega)]; exact h6) ?_).1
      unfold unkStep; rw [if_neg hk, insU_pos, if_pos he]; exact hq4
    · rw [wpC_cond_f (by rw [ev, h58]; simp [hk, he]), wpC_skip]
      simp only [thenC]
      rw [wpC_seq, wpC_blk]
      have hlen := hq4.rep.length
      have hpos := posU_le k out
      refine go1 (v := lv) rfl (by simp [hfr2, f6]) ?_
      refine go1 (v := .agg #[.int .u32 0, .slice none 0 0]) rfl rfl ?_
      refine goOne (cs := [.int .u32 0, .slice none 0 0]) (by simp) rfl rfl fun w5 hbz hm5 => ?_
      have hq5 := hq4.keep hm5
      refine wpR_run ?_
      refine append_two (lv := lv) (css := ucs) (by simp []) hq5.raw hq5.mod.size (by simp) hbz rfl (by simp [Value.oneCell']) (by omega) fun lv' w6 hraw6 hown => ?_
      have hm06 : Mod [] w0 w6 ∧ RepU (fun b => ok b ∧ b < w0.heap.size) w6 out ucs ∧ (∀ b, b < w0.heap.size ∨ b = w.heap.size → b < w5.heap.size → w6.heap[b]? = w5.heap[b]?) := by
        rcases hown with ⟨⟨ho, hm6⟩, -⟩ | ⟨ho, hm6⟩
        · have hge : ∀ b, own lv = some b → w0.heap.size ≤ b ∧ b < w.heap.size := fun b hb => ⟨(hq.raw.own hb).1, (hq.raw.own hb).2⟩
          refine ⟨?_, hq5.rep.mod hm6 (fun b hb hc => by have := hge b (by simpa using hb); have := hc.2; omega) fun _ _ h => h, fun b hb hlt => hm6.block b hlt fun hc => by have := hge b (by simpa using hc); omega⟩
          cases ho : own lv with
          | none => rw [ho] at hm6; exact hq5.mod.trans hm6.nil
          | some b =>
            rw [ho] at hm6
            exact Mod.drop (b := b) (S := []) ((hq5.mod.nil).trans (hm6.mono (by simp))) (hge b ho).1
        · exact ⟨hq5.mod.trans hm6, hq5.rep.mod hm6 (by simp) fun _ _ h => h, fun b hb hlt => hm6.block b hlt (by simp)⟩
      obtain ⟨k1, k2, k3⟩ := hm06
      have htb6 : Blk w6 w.heap.size [.int .u32 (k : Nat), sv] := by
        have := hb4.mod hm5 (by simp)
        exact this.of_heap (k3 _ (.inr rfl) this.lt)
      have hsv6 : SlC (fun b => ok b ∧ b < w0.heap.size) w6 sv b.length (u8s b) := by
        have h5 : SlC (fun b => ok b ∧ b < w0.heap.size) w5 sv b.length (u8s b) := hsv.mod ((hm02.trans hm3).trans (hm4.trans hm5)) (by simp) fun _ _ h => h
        obtain ⟨base, cp, e1, e2, e3, e4⟩ := h5
        refine ⟨base, cp, e1, e2, e3, fun a ha hc => ?_⟩
        obtain ⟨q1, q2, q3⟩ := e4 a ha hc
        exact ⟨q1, Nat.lt_of_lt_of_le q1.2 k1.size, q3.of_eq (k3 _ (.inl q1.2) q2)⟩
      rcases hraw6.sl with ⟨-, hnil⟩ | ⟨B, cap, rest, elv, hcap, hB, hblk, hrest⟩
      · simp at hnil
      refine go1 (v := lv') rfl (by simp) (wpR_done ?_)
      rw [wpC_seq]
      refine unk_shift (B := B) (cap := cap) (n := out.length) (i := posU k out) (ucs := ucs) (z := [.int .u32 0, .slice none 0 0]) (rest := rest) (by simp [elv, hlen]) (by simp [hfr2, h9]) hpos hlen.symm (by omega) hq4.raw.two hq4.rep.oneCell rfl (by simpa using hblk) fun σ3 w7 x hfr3 hx hblk7 hm7 => ?_
      simp only [thenC]
      rw [wpC_blk]
      have htB : w.heap.size ≠ B := by
        intro e
        have := hown
        rcases this with ⟨⟨ho, -⟩, -⟩ | ⟨ho, -⟩
        · rw [elv] at ho
          have h1 : own lv = some B := by rw [← ho]; rfl
          have := (hq.raw.own h1).2; omega
        · rw [elv] at ho
          simp only [own, Option.some.injEq] at ho
          have := hbz.lt; have := hm02.size; have := hm3.size; have := hm4.size; have := hm5.size
          have := hb4.lt; omega
      have htb7 : Blk w7 w.heap.size [.int .u32 (k : Nat), sv] := htb6.mod hm7 (by simpa using htB)
      have g6 : σ3 6 = .slice (some ⟨B, 0, none⟩) (out.length + 1) cap := by rw [hfr3 6 (by omega) (by omega)]; simp [elv, hlen]
      have g8 : σ3 8 = .pointer (some ⟨w.heap.size, 0, none⟩) := by rw [hfr3 8 (by omega) (by omega)]; simp [hfr2, f8]
      have g9 : σ3 9 = .int .i64 (posU k out : Nat) := by rw [hfr3 9 (by omega) (by omega)]; simp [hfr2, h9]
      have hct := cellsAt_of' htb7.cells (n := 2) rfl
      refine go1 (v := .slice (some ⟨B, 0, none⟩) (out.length + 1) cap) rfl (by simp [g6]) ?_
      refine go1 (v := .int .i64 (posU k out : Nat)) rfl (by simp [g9]) ?_
      refine go1 (v := .agg #[.int .u32 (k : Nat), sv]) rfl (by simp [g8, hct]) ?_
      refine go1 (v := .pointer (some ⟨B, posU k out * 2, none⟩)) rfl (by simp; omega) ?_
      have hall : ∀ c ∈ ucs.take (posU k out) ++ x :: ucs.drop (posU k out), c.length = 2 := by
        intro c hc
        rcases List.mem_append.1 hc with hc | hc
        · exact hq4.raw.two c (List.mem_of_mem_take hc)
        · rcases List.mem_cons.1 hc with rfl | hc
          · exact hx
          · exact hq4.raw.two c (List.mem_of_mem_drop hc)
      have hlen7 : (ucs.take (posU k out) ++ x :: ucs.drop (posU k out)).length = ucs.length + 1 := by simp; omega
      have hfl : ((ucs.take (posU k out) ++ x :: ucs.drop (posU k out)).flatten).length = (ucs.length + 1) * 2 := by rw [flatten_length hall, hlen7]
      have hput := hblk7.put (o := posU k out * 2) (vs := [.int .u32 (k : Nat), sv]) (by simp only [List.length_append, hfl]; simp; omega)
      rw [flat_setAt hall rfl (by rw [hlen7]; omega), set_mid (by omega)] at hput
      have hmput : Mod [B] w7 (putCells w7 ⟨B, posU k out * 2, none⟩ 0 [.int .u32 (k : Nat), sv]) := Mod.put (by simp)
      refine wpR_run ?_
      simp only [RK.run, ev, updo, upd, if_true]
      refine ⟨rfl, stOk_many hblk7 (by simp only [List.length_append, hfl]; simp; omega) (two_one hsv.one), ?_⟩
      refine goEnd ?_
      simp only [Value.cells]
      have hm08 : Mod [] w0 (putCells w7 ⟨B, posU k out * 2, none⟩ 0 [.int .u32 (k : Nat), sv]) := Mod.drop (b := B) (S := []) (k1.nil.trans (hm7.trans hmput)) hB
      refine (hQ _ _ (.slice (some ⟨B, 0, none⟩) (out.length + 1) cap) (ucs.take (posU k out) ++ [.int .u32 (k : Nat), sv] :: ucs.drop (posU k out)) (fun s s1 s2 s3 s4 s5 s6 s7 => ?_) ?_ ⟨⟨?_, .inr ⟨B, cap, rest, ?_, ?_, hB, hput, ?_⟩⟩, ?_, hm08⟩).2
      · simp only [upd]
        repeat rw [if_neg (by omega)]
        rw [hfr3 s (by omega) s5]
        simp only [updo, upd]
        repeat rw [if_neg (by omega)]
        exact hfr12 s s1 s3 s4 s6 s7
      · simp [g6]
      · intro c hc
        rcases List.mem_append.1 hc with hc | hc
        · exact hq4.raw.two c (List.mem_of_mem_take hc)
        · rcases List.mem_cons.1 hc with rfl | hc
          · rfl
          · exact hq4.raw.two c (List.mem_of_mem_drop hc)
      · simp; omega
      · simp at hcap ⊢; omega
      · simp at hrest ⊢; omega
      · have e : unkStep least out (k, b) = out.take (posU k out) ++ (k, b) :: out.drop (posU k out) := by
          unfold unkStep; rw [if_neg hk, insU_pos, if_neg he]
        rw [e]
        have hmB : Mod [B] w6 (putCells w7 ⟨B, posU k out * 2, none⟩ 0 [.int .u32 (k : Nat), sv]) := hm7.trans hmput
        have hr := k2.mod (ok' := fun b => ok b ∧ b < w0.heap.size) hmB (by simp; omega) fun _ _ h => h
        exact (hr.take _).append (.cons (hsv6.mod hmB (by simp; omega) fun _ _ h => h) (hr.drop _))
theorem unknown_callB {ok : Nat → Prop} (hm : P.follows .mixedOrders = true) (h : liftF P (F sUnknown) = some (ir_sUnknown F)) (hk : liftF P (F sKnown) = some (ir_sKnown F)) {w : World} {v uv : Value} {fs : List FD} {css uss : List (List Value)} {u : List (Nat × List UInt8)}
    (hv : SlC anyB w v fs.length css.flatten) (hr : RepFL anyB w fs css) (hlen : fs.length < 2147483648) (ht : ∀ f ∈ fs, f.tag < 2147483648) (hu : SlC anyB w uv u.length uss.flatten) (hur : RepU ok w u uss) :
    Calls P (F sUnknown) [v, uv].toArray w fun e w' => ∃ lv ucs, e = .returned lv ∧ SlC anyB w' lv (unknownP fs u).length ucs.flatten ∧ RepU ok w' (unknownP fs u) ucs ∧ (lv = .slice none 0 0 ∨ ∃ B n c, lv = .slice (some ⟨B, 0, none⟩) n c ∧ w.heap.size ≤ B) ∧ Mod [] w w' := by
  unfold ir_sUnknown at h
  refine call_of h hm (by simp) ?_
  clear h
  rw [wpC_seq, wpC_blk]
  refine go1 rfl rfl (wpR_done ?_)
  rw [wpC_seq, wpC_blk]
  refine go1 (v := v) rfl (by simp) ?_
  refine goCall rfl (vs := [v]) (by simp) (known_call hm hk hv hr hlen ht) ?_
  rintro e w1 ⟨rfl, hm1⟩
  refine ⟨_, rfl, go1 rfl rfl (wpR_done ?_)⟩
  rw [wpC_seq, wpC_blk]
  refine go1 rfl rfl (wpR_done ?_)
  rw [wpC_seq, wpC_seq, wpC_blk]
  have hu1 := hu.keep hm1
  obtain ⟨ub, uc, eu⟩ := hu.shape
  refine go1 (v := uv) rfl (by simp) ?_
  refine go1 (v := uv) rfl (by simp) ?_
  refine go1 (v := .int .i64 u.length) rfl (by simp [eu]) ?_
  refine go1 (v := .int .i64 ((min u.length 32767 : Nat) : Int)) rfl (by simp [min_nat]) ?_
  obtain ⟨tv, e1, h1⟩ := slice_head (x := .tmp 13) (y := .tmp 16) (sz := 2) (k := min u.length 32767)
    (σ := updo (updo (updo (updo (updo (updo (updo (updo (updo (args0 [v, uv]) (some 4) (.slice none 0 0)) (some 11) v) (some 12) (.int .u32 (knownP fs : Nat))) (some 5) (.int .u32 (knownP fs : Nat))) (some 6) (.slice none 0 0)) (some 13) uv) (some 14) uv) (some 15) (.int .i64 u.length)) (some 16) (.int .i64 ((min u.length 32767 : Nat) : Int)))
    (by simp) (by simp) hu1 (by omega)
  rw [flatten_take _ _ hur.two] at h1
  obtain ⟨tb, tc, etv⟩ := h1.shape
  refine go1 (v := tv) rfl e1 ?_
  refine go1 (v := .int .i64 ((min u.length 32767 : Nat) : Int)) rfl (by simp [etv]) ?_
  refine go1 rfl rfl (wpR_done ?_)
  have hN : w.heap.size ≤ w1.heap.size := hm1.size
  have hlo : RepU (fun b => ok b ∧ b < w1.heap.size) w1 (u.take (min u.length 32767)) (uss.take (min u.length 32767)) := RepU.take (hur.mod (ok' := fun b => ok b ∧ b < w1.heap.size) hm1 (by simp) fun b hb h => ⟨h, by omega⟩) _
  have eu2 : u.take (min u.length 32767) = u.take 32767 := by
    by_cases hl : u.length ≤ 32767
    · rw [Nat.min_eq_left hl, List.take_of_length_le (Nat.le_refl _), List.take_of_length_le hl]
    · rw [Nat.min_eq_right (by omega)]
  refine rangeLoop (n := min u.length 32767) (fun j σ w' => σ 17 = tv ∧ σ 19 = .int .i64 (j : Nat) ∧ σ 18 = .int .i64 ((min u.length 32767 : Nat) : Int) ∧ σ 5 = .int .u32 (knownP fs : Nat) ∧ ∃ ucs, UQ ok w1 w' (σ 6) (((u.take 32767).take j).foldl (unkStep (knownP fs)) []) ucs)
    (by omega) (by omega) (fun j σ w h => ⟨h.2.1, h.2.2.1⟩) ?_ ?_ ?_
  · refine ⟨by simp, by simp, by simp, by simp, [], ⟨⟨by simp, .inl ⟨by simp, rfl⟩⟩, by simp; exact .nil, Mod.refl _ _⟩⟩
  · rintro j σ w2 hj ⟨h17, h19, h18, h5, ucs, hq⟩
    have hjl : j < (u.take 32767).length := by rw [← eu2]; simp; omega
    obtain ⟨t, ht'⟩ : ∃ t, (u.take 32767)[j]? = some t := ⟨_, List.getElem?_eq_getElem hjl⟩
    obtain ⟨sv, hcs, hsv⟩ := hlo.nth (t := t) (by rw [eu2]; exact ht')
    obtain ⟨a, c, ea, hjn, hcell⟩ := h1.flat (by have := hur.length; simp; omega) (fun c hc => hur.two c (List.mem_of_mem_take hc)) hcs
    rw [etv] at ea
    simp only [Value.slice.injEq, true_and] at ea
    obtain ⟨ea, ec⟩ := ea
    subst ea
    have hcell2 := cellsAt_below hq.mod.below _ _ _ hcell
    have hsv2 : SlC (fun b => ok b ∧ b < w1.heap.size) w2 sv t.2.length (u8s t.2) := hsv.mod hq.mod (by simp) fun _ _ h => h
    have hol : (((u.take 32767).take j).foldl (unkStep (knownP fs)) []).length < 2147483647 := by
      have := unk_length (knownP fs) ((u.take 32767).take j) []
      simp at this; omega
    refine unk_body (w0 := w1) (least := knownP fs) (k := t.1) (b := t.2) (n := min u.length 32767) (lv := σ 6) (a := a) (c := tc) (by simp [h5]) (by simp) (by simp [h17, etv]) (by simp [h19]) hj hq hcell2 hsv2 hol fun σ' w' lv' ucs' hfr e6 hq' => ?_
    have key : σ' 19 = .int .i64 (j : Nat) ∧ (upd (upd σ' 83 (.int .i64 ((j + 1 : Nat) : Int))) 19 (.int .i64 ((j + 1 : Nat) : Int))) 17 = tv ∧ (upd (upd σ' 83 (.int .i64 ((j + 1 : Nat) : Int))) 19 (.int .i64 ((j + 1 : Nat) : Int))) 19 = .int .i64 ((j + 1 : Nat) : Int) ∧
        (upd (upd σ' 83 (.int .i64 ((j + 1 : Nat) : Int))) 19 (.int .i64 ((j + 1 : Nat) : Int))) 18 = .int .i64 ((min u.length 32767 : Nat) : Int) ∧ (upd (upd σ' 83 (.int .i64 ((j + 1 : Nat) : Int))) 19 (.int .i64 ((j + 1 : Nat) : Int))) 5 = .int .u32 (knownP fs : Nat) ∧
        ∃ ucs, UQ ok w1 w' ((upd (upd σ' 83 (.int .i64 ((j + 1 : Nat) : Int))) 19 (.int .i64 ((j + 1 : Nat) : Int))) 6) (((u.take 32767).take (j + 1)).foldl (unkStep (knownP fs)) []) ucs := by
      have g : ∀ s, s < 23 → s ≠ 6 → s ≠ 8 → s ≠ 9 → s ≠ 10 → s ≠ 21 → s ≠ 22 → s ≠ 20 → σ' s = σ s := fun s s1 s2 s3 s4 s5 s6 s7 s8 => by
        rw [hfr s s1 s2 s3 s4 s5 s6 s7]; simp [upd, s8]
      refine ⟨by rw [g 19 (by omega) (by omega) (by omega) (by omega) (by omega) (by omega) (by omega) (by omega)]; exact h19, ?_, by simp, ?_, ?_, ucs', ?_⟩
      · simp only [upd]; rw [if_neg (by omega), if_neg (by omega), g 17 (by omega) (by omega) (by omega) (by omega) (by omega) (by omega) (by omega) (by omega)]; exact h17
      · simp only [upd]; rw [if_neg (by omega), if_neg (by omega), g 18 (by omega) (by omega) (by omega) (by omega) (by omega) (by omega) (by omega) (by omega)]; exact h18
      · simp only [upd]; rw [if_neg (by omega), if_neg (by omega), g 5 (by omega) (by omega) (by omega) (by omega) (by omega) (by omega) (by omega) (by omega)]; exact h5
      · rw [take_succ_of ht', List.foldl_append]
        simp only [upd, List.foldl_cons, List.foldl_nil]
        rw [if_neg (by omega), if_neg (by omega), e6]
        exact hq'
    exact ⟨by simp only [rngP, if_true]; exact key, by simp only [rngP]; exact key⟩
  · rintro σ w2 ⟨h17, h19, h18, h5, ucs, hq⟩
    have e : (u.take 32767).take (min u.length 32767) = u.take 32767 := List.take_of_length_le (by simp; omega)
    rw [e] at hq
    simp only [thenC]
    rw [wpC_seq, wpC_blk]
    refine go1 (v := σ 6) rfl (by simp) ?_
    refine go1 (v := σ 6) rfl (by simp) (wpR_done (ret1 (v := σ 6) (by simp) ⟨_, ucs, rfl, ?_, hq.rep.mod (Mod.refl [] _) (by simp) fun _ _ h => h.1, ?_, hm1.trans hq.mod⟩))
    · have := hq.raw.slcN.any
      rw [hq.rep.length.symm] at this
      exact this
    · rcases hq.raw.sl with ⟨e, -⟩ | ⟨B, cap, rest, e, -, hB, -⟩
      · exact .inl e
      · exact .inr ⟨B, _, _, e, by omega⟩
theorem unknown_call (hm : P.follows .mixedOrders = true) (h : liftF P (F sUnknown) = some (ir_sUnknown F)) (hk : liftF P (F sKnown) = some (ir_sKnown F)) {w : World} {v uv : Value} {fs : List FD} {css uss : List (List Value)} {u : List (Nat × List UInt8)}
    (hv : SlC anyB w v fs.length css.flatten) (hr : RepFL anyB w fs css) (hlen : fs.length < 2147483648) (ht : ∀ f ∈ fs, f.tag < 2147483648) (hu : SlC anyB w uv u.length uss.flatten) (hur : RepU anyB w u uss) :
    Calls P (F sUnknown) [v, uv].toArray w fun e w' => ∃ lv ucs, e = .returned lv ∧ SlC anyB w' lv (unknownP fs u).length ucs.flatten ∧ RepU anyB w' (unknownP fs u) ucs ∧ Mod [] w w' := by
  refine (unknown_callB hm h hk hv hr hlen ht hu hur).mono ?_
  rintro e w' ⟨lv, ucs, h1, h2, h3, -, h5⟩
  exact ⟨lv, ucs, h1, h2, h3, h5⟩
end
end Go.Msk

namespace Go.Msk
open Go.RowKit
set_option maxRecDepth 100000
def uuidP (s : List UInt8) : List UInt8 := s.take 16 ++ List.replicate (16 - s.length) 0
def valP (flex : Bool) (kind : Int) (part : TR → List UInt8) (null : Bool) (t : TR) : List UInt8 :=
  if kind = 0 then [UInt8.ofNat (t.n % 2).toNat]
  else if kind = 7 then uuidP t.s
  else if kind = 8 then countedP flex null (if null then [] else wholeP t.s).length 2 ++ (if null then [] else wholeP t.s)
  else if kind = 9 then countedP flex null (if null then [] else wholeP t.s).length 4 ++ (if null then [] else wholeP t.s)
  else if kind = 10 then part t
  else beI (widthP kind) t.n
def fieldP (flex : Bool) (kind of nullF : Int) (nl : Bool) (part : TR → List UInt8) (t : TR) : List UInt8 :=
  if kind = 11 then countedP flex nl (if nl then [] else t.l.take 32767).length 4 ++ (if nl then [] else t.l.take 32767).flatMap (valP flex of part false)
  else if kind = 10 ∧ nullF ≥ 0 then (if nl then beI 1 (-1) else beI 1 1 ++ part t)
  else valP flex kind part nl t
def tagsP (u : List (Nat × List UInt8)) : List UInt8 := u.flatMap fun p => uvE p.1 ++ (uvE (wholeP p.2).length ++ wholeP p.2)
def joinP (flex : Bool) (body : List UInt8) (u : List (Nat × List UInt8)) : List UInt8 := body ++ if flex then uvE u.length ++ tagsP u else []
mutual
/-- What is written of a field. -/
def FD.enc (ver : Int) (flex : Bool) : FD → TR → List UInt8
  | .mk kind frm to null tag dfl of sub, t => fieldP flex kind of null (FD.nullV (.mk kind frm to null tag dfl of sub) ver t) (fun x => joinP flex (bodyP ver flex sub 0 x) (unknownP sub x.u)) t
/-- What is written of fields in their order. -/
def bodyP (ver : Int) (flex : Bool) : List FD → Nat → TR → List UInt8
  | [], _, _ => []
  | f :: r, i, t => (if f.tag < 0 ∧ f.hasV ver = true then f.enc ver flex (t.at i) else []) ++ bodyP ver flex r (i + 1) t
end
def partP (ver : Int) (flex : Bool) (fs : List FD) (t : TR) : List UInt8 := joinP flex (bodyP ver flex fs 0 t) (unknownP fs t.u)
mutual
/-- Keys of tags are numbers of 32 bits. -/
def TR.kok : TR → Prop
  | .mk _ _ _ l u => (∀ p ∈ u, p.1 < 4294967296) ∧ TR.kokL l
def TR.kokL : List TR → Prop
  | [] => True
  | t :: l => t.kok ∧ TR.kokL l
end
theorem TR.kokL_mem : ∀ {l : List TR}, TR.kokL l → ∀ t ∈ l, t.kok
  | [], _, t, h => by simp at h
  | a :: l, hl, t, h => by
    simp only [TR.kokL] at hl
    rcases List.mem_cons.1 h with rfl | h
    · exact hl.1
    · exact TR.kokL_mem hl.2 t h
theorem TR.kok.at {t : TR} (h : t.kok) (i : Nat) : (t.at i).kok := by
  cases t with
  | mk n s b l u =>
    simp only [TR.kok] at h
    simp only [TR.at, TR.l]
    cases hi : l[i]? with
    | none => simp [TR.zero, TR.kok, TR.kokL]
    | some x => exact TR.kokL_mem h.2 x (List.mem_of_getElem? hi)
theorem FD.enc_eq (ver : Int) (flex : Bool) (kind frm to null tag dfl of : Int) (sub : List FD) (t : TR) :
    (FD.mk kind frm to null tag dfl of sub).enc ver flex t = fieldP flex kind of null (FD.nullV (.mk kind frm to null tag dfl of sub) ver t) (partP ver flex sub) t := by
  rw [FD.enc]; rfl
theorem bodyP_cons (ver : Int) (flex : Bool) (f : FD) (r : List FD) (i : Nat) (t : TR) :
    bodyP ver flex (f :: r) i t = (if f.tag < 0 ∧ f.hasV ver = true then f.enc ver flex (t.at i) else []) ++ bodyP ver flex r (i + 1) t := by
  rw [bodyP]
theorem DRaw.of_blk {w : World} {B n0 : Nat} {l : List UInt8} (hb : Blk w B (u8s l)) (hn : n0 ≤ B) : DRaw w n0 (.slice (some ⟨B, 0, none⟩) l.length l.length) l :=
  ⟨.inr ⟨B, l.length, [], rfl, Nat.le_refl _, hn, by simpa using hb, by simp⟩⟩
theorem and1_i64 (n : Int) : intBin .and .i64 n 1 = some (.int .i64 ((n % 2 : Int))) := by
  simp only [intBin]
  congr 2
  have e1 : (BitVec.ofInt IntKind.i64.bits n &&& BitVec.ofInt IntKind.i64.bits 1).toNat = (n % 2).toNat := by
    show (BitVec.ofInt 64 n &&& BitVec.ofInt 64 1).toNat = (n % 2).toNat
    rw [BitVec.toNat_and]
    have b : (BitVec.ofInt 64 1).toNat = 2 ^ 1 - 1 := by decide
    rw [b, Nat.and_two_pow_sub_one_eq_mod, BitVec.toNat_ofInt]
    omega
  rw [e1]
  have h2 : 0 ≤ n % 2 := Int.emod_nonneg _ (by omega)
  have h3 : n % 2 < 2 := Int.emod_lt_of_pos _ (by omega)
  rw [i64_nat (by omega)]
  omega
theorem u8_of_small {n : Int} (h0 : 0 ≤ n) (h : n < 256) : Value.int .u8 (IntKind.u8.wrap n) = .int .u8 ((UInt8.ofNat n.toNat).toNat : Int) := by
  have := u8_conv (x := n.toNat) (by omega)
  rwa [show ((n.toNat : Nat) : Int) = n by omega] at this
section
variable {P : Program} {F : Nat → Nat}
attribute [local simp] gOk updo upd ev RK.val? isShift intBin Addr.add_mk args0 Value.cells undef
def PartC (P : Program) (F : Nat → Nat) (ver : Int) (flex : Bool) (fs : List FD) : Prop :=
  ∀ (w : World) (v : Value) (css : List (List Value)) (t : TR) (ts : List Value), SlC anyB w v fs.length css.flatten → RepFL anyB w fs css → RepT anyB w t ts → t.kok → (partP ver flex fs t).length ≤ lim →
    Calls P (F sPart) [v, .int .i64 ver, .bool flex, .agg ts.toArray].toArray w (BytesR w (partP ver flex fs t))
def ValC (P : Program) (F : Nat → Nat) (ver : Int) (flex : Bool) (kind : Int) (sub : List FD) : Prop :=
  ∀ (w : World) (v : Value) (css : List (List Value)) (t : TR) (ts : List Value) (null : Bool), SlC anyB w v sub.length css.flatten → RepFL anyB w sub css → RepT anyB w t ts → t.kok → (valP flex kind (partP ver flex sub) null t).length ≤ lim →
    Calls P (F sValue) [.int .i64 kind, v, .bool null, .int .i64 ver, .bool flex, .agg ts.toArray].toArray w (BytesR w (valP flex kind (partP ver flex sub) null t))
theorem val_text1 (hm : P.follows .mixedOrders = true) (hw : liftF P (F sWhole) = some (ir_sWhole F)) (hc : liftF P (F sCounted) = some (ir_sCounted F)) (hu : liftF P (F sUvarint) = some (ir_sUvarint F)) (hf : liftF P (F sFixed) = some (ir_sFixed F))
    {w0 w : World} {B : Nat} {n : Int} {s : List UInt8} {tn null flex : Bool} {sv lv uv : Value} {σ : Sl} {Q : Exit → Sl → World → Prop} (hm0 : Mod [] w0 w) (hb : Blk w B [.int .i64 n, sv, .bool tn, lv, uv]) (hsv : SlC anyB w sv s.length (u8s s))
    (h11 : σ 11 = .pointer (some ⟨B, 0, none⟩)) (h2 : σ 2 = .bool null) (h4 : σ 4 = .bool flex) (hlen : (countedP flex null (if null then [] else wholeP s).length 2 ++ (if null then [] else wholeP s)).length ≤ lim)
    (hQ : ∀ σ' w' v, σ' 12 = v → DRaw w' w0.heap.size v (countedP flex null (if null then [] else wholeP s).length 2 ++ (if null then [] else wholeP s)) → Mod [] w0 w' → Q .ret σ' w') :
    wpC P (ir_sValue_1 F) Q σ w := by
  unfold ir_sValue_1
  have c1 := fun k => hb.cell k
  rw [wpC_seq, wpC_blk]
  refine go1 (v := .pointer (some ⟨B, 1, none⟩)) rfl (by simp [h11]) ?_
  refine go1 (v := sv) rfl (by simp [c1]) ?_
  refine goCall rfl (vs := [sv]) (by simp) (whole_call hm hw hsv) ?_
  rintro e w1 ⟨ew, v1, rfl, hv1⟩
  rw [ew]
  refine ⟨v1, rfl, go1 (v := v1) rfl (by simp) (wpR_done ?_)⟩
  rw [wpC_seq, wpC_seq, wpC_blk]
  refine go1 (v := .bool null) rfl (by simp [h2]) (wpR_done ?_)
  have key : ∀ σ1 v2, σ1 4 = .bool flex → σ1 2 = .bool null → σ1 14 = v2 → SlC anyB w v2 (if null then [] else wholeP s).length (u8s (if null then [] else wholeP s)) →
      wpC P (.seq (.blk [⟨(some 38), .mv (.tmp 4), none⟩, ⟨(some 39), .mv (.tmp 2), none⟩, ⟨(some 40), .mv (.tmp 14), none⟩, ⟨(some 41), .len (.tmp 40), none⟩,
                ⟨(some 42), .call (F sCounted) [.tmp 38, .tmp 39, .tmp 41, .const (.int .i64 2)], none⟩, ⟨(some 43), .mv (.tmp 14), none⟩, ⟨(some 44), .append (.tmp 42) (.tmp 43) 1 1, none⟩, ⟨(some 12), .mv (.tmp 44), none⟩])
            (.ret)) Q σ1 w := by
    intro σ1 v2 k4 k2 k14 hv2
    obtain ⟨vb, vc, ev2⟩ := hv2.shape
    have hwl : (wholeP s).length ≤ 32767 := by simp [wholeP]; omega
    have hsm : (if null = true then [] else wholeP s).length ≤ 32767 := by cases null <;> simp; exact hwl
    rw [wpC_seq, wpC_blk]
    refine go1 (v := .bool flex) rfl (by simp [k4]) ?_
    refine go1 (v := .bool null) rfl (by simp [k2]) ?_
    refine go1 (v := v2) rfl (by simp [k14]) ?_
    refine go1 (v := .int .i64 ((if null = true then [] else wholeP s).length : Nat)) rfl (by simp [ev2]) ?_
    refine goCall rfl (vs := [.bool flex, .bool null, .int .i64 ((if null = true then [] else wholeP s).length : Nat), .int .i64 ((2 : Nat) : Int)]) (by simp) (counted_call hm hc hu hf (by omega) (by omega)) ?_
    rintro e w2 ⟨v3, rfl, hd, hm2⟩
    refine ⟨v3, rfl, go1 (v := v2) rfl (by simp [k14]) ?_⟩
    refine goC rfl ?_
    refine append_run (n0 := w.heap.size) (v := v3) (by simp) hd hm2.size (k := if null = true then [] else wholeP s) (by simpa using (hv2.keep hm2).src) (by simpa using hlen) fun v4 w3 ha => ?_
    refine go1 (v := v4) rfl (by simp) (wpR_done ?_)
    exact hQ _ w3 v4 (by simp) (ha.raw.low hm0.size) (hm0.trans (ha.mod0 hd hm2))
  cases null with
  | true =>
    rw [wpC_cond_t (by simp), wpC_blk]
    refine go1 rfl rfl (wpR_done ?_)
    exact key _ (.slice none 0 0) (by simp [h4]) (by simp [h2]) (by simp) (by simpa [u8s] using SlC.nil)
  | false =>
    rw [wpC_cond_f (by simp), wpC_skip]
    exact key _ v1 (by simp [h4]) (by simp [h2]) (by simp) (by simpa using hv1)
theorem val_text2 (hm : P.follows .mixedOrders = true) (hw : liftF P (F sWhole) = some (ir_sWhole F)) (hc : liftF P (F sCounted) = some (ir_sCounted F)) (hu : liftF P (F sUvarint) = some (ir_sUvarint F)) (hf : liftF P (F sFixed) = some (ir_sFixed F))
    {w0 w : World} {B : Nat} {n : Int} {s : List UInt8} {tn null flex : Bool} {sv lv uv : Value} {σ : Sl} {Q : Exit → Sl → World → Prop} (hm0 : Mod [] w0 w) (hb : Blk w B [.int .i64 n, sv, .bool tn, lv, uv]) (hsv : SlC anyB w sv s.length (u8s s))
    (h11 : σ 11 = .pointer (some ⟨B, 0, none⟩)) (h2 : σ 2 = .bool null) (h4 : σ 4 = .bool flex) (hlen : (countedP flex null (if null then [] else wholeP s).length 4 ++ (if null then [] else wholeP s)).length ≤ lim)
    (hQ : ∀ σ' w' v, σ' 12 = v → DRaw w' w0.heap.size v (countedP flex null (if null then [] else wholeP s).length 4 ++ (if null then [] else wholeP s)) → Mod [] w0 w' → Q .ret σ' w') :
    wpC P (ir_sValue_2 F) Q σ w := by
  unfold ir_sValue_2
  have c1 := fun k => hb.cell k
  rw [wpC_seq, wpC_blk]
  refine go1 (v := .pointer (some ⟨B, 1, none⟩)) rfl (by simp [h11]) ?_
  refine go1 (v := sv) rfl (by simp [c1]) ?_
  refine goCall rfl (vs := [sv]) (by simp) (whole_call hm hw hsv) ?_
  rintro e w1 ⟨ew, v1, rfl, hv1⟩
  rw [ew]
  refine ⟨v1, rfl, go1 (v := v1) rfl (by simp) (wpR_done ?_)⟩
  rw [wpC_seq, wpC_seq, wpC_blk]
  refine go1 (v := .bool null) rfl (by simp [h2]) (wpR_done ?_)
  have key : ∀ σ1 v2, σ1 4 = .bool flex → σ1 2 = .bool null → σ1 15 = v2 → SlC anyB w v2 (if null then [] else wholeP s).length (u8s (if null then [] else wholeP s)) →
      wpC P (.seq (.blk [⟨(some 51), .mv (.tmp 4), none⟩, ⟨(some 52), .mv (.tmp 2), none⟩, ⟨(some 53), .mv (.tmp 15), none⟩, ⟨(some 54), .len (.tmp 53), none⟩,
                ⟨(some 55), .call (F sCounted) [.tmp 51, .tmp 52, .tmp 54, .const (.int .i64 4)], none⟩, ⟨(some 56), .mv (.tmp 15), none⟩, ⟨(some 57), .append (.tmp 55) (.tmp 56) 1 1, none⟩, ⟨(some 12), .mv (.tmp 57), none⟩])
            (.ret)) Q σ1 w := by
    intro σ1 v2 k4 k2 k14 hv2
    obtain ⟨vb, vc, ev2⟩ := hv2.shape
    have hwl : (wholeP s).length ≤ 32767 := by simp [wholeP]; omega
    have hsm : (if null = true then [] else wholeP s).length ≤ 32767 := by cases null <;> simp; exact hwl
    rw [wpC_seq, wpC_blk]
    refine go1 (v := .bool flex) rfl (by simp [k4]) ?_
    refine go1 (v := .bool null) rfl (by simp [k2]) ?_
    refine go1 (v := v2) rfl (by simp [k14]) ?_
    refine go1 (v := .int .i64 ((if null = true then [] else wholeP s).length : Nat)) rfl (by simp [ev2]) ?_
    refine goCall rfl (vs := [.bool flex, .bool null, .int .i64 ((if null = true then [] else wholeP s).length : Nat), .int .i64 ((4 : Nat) : Int)]) (by simp) (counted_call hm hc hu hf (by omega) (by omega)) ?_
    rintro e w2 ⟨v3, rfl, hd, hm2⟩
    refine ⟨v3, rfl, go1 (v := v2) rfl (by simp [k14]) ?_⟩
    refine goC rfl ?_
    refine append_run (n0 := w.heap.size) (v := v3) (by simp) hd hm2.size (k := if null = true then [] else wholeP s) (by simpa using (hv2.keep hm2).src) (by simpa using hlen) fun v4 w3 ha => ?_
    refine go1 (v := v4) rfl (by simp) (wpR_done ?_)
    exact hQ _ w3 v4 (by simp) (ha.raw.low hm0.size) (hm0.trans (ha.mod0 hd hm2))
  cases null with
  | true =>
    rw [wpC_cond_t (by simp), wpC_blk]
    refine go1 rfl rfl (wpR_done ?_)
    exact key _ (.slice none 0 0) (by simp [h4]) (by simp [h2]) (by simp) (by simpa [u8s] using SlC.nil)
  | false =>
    rw [wpC_cond_f (by simp), wpC_skip]
    exact key _ v1 (by simp [h4]) (by simp [h2]) (by simp) (by simpa using hv1)
theorem uuid_splice (s : List UInt8) : splice (u8s (List.replicate 16 0)) 0 ((u8s s).take (Nat.min s.length 16 * 1)) = u8s (uuidP s) := by
  have e : (u8s s).take (Nat.min s.length 16 * 1) = u8s (s.take 16) := by
    rw [u8s_take, Nat.mul_one]
    by_cases h : s.length ≤ 16
    · rw [List.take_of_length_le (by rw [u8s_length]; show s.length ≤ min s.length 16; omega), List.take_of_length_le (by rw [u8s_length]; exact h)]
    · rw [show Nat.min s.length 16 = 16 from Nat.min_eq_right (by omega)]
  rw [e]
  simp only [splice, List.take_zero, List.nil_append, Nat.zero_add, uuidP, u8s_append]
  congr 1
  rw [u8s_length, List.length_take, ← u8s_drop]
  congr 1
  rw [List.drop_replicate]
  congr 1
  omega
theorem value_call (hm : P.follows .mixedOrders = true) (h : liftF P (F sValue) = some (ir_sValue F)) (hw : liftF P (F sWhole) = some (ir_sWhole F)) (hc : liftF P (F sCounted) = some (ir_sCounted F)) (hu : liftF P (F sUvarint) = some (ir_sUvarint F)) (hf : liftF P (F sFixed) = some (ir_sFixed F))
    (hwd : liftF P (F sWidth) = some (ir_sWidth F)) {ver : Int} {flex : Bool} {kind : Int} {sub : List FD} (hp : kind = 10 → PartC P F ver flex sub) : ValC P F ver flex kind sub := by
  intro w v css t ts null hv hr ht hk hlen
  cases ht with
  | @mk n s tn l u sv lv uv tss uss g1 g2 g3 g4 g5 =>
  unfold ir_sValue at h
  refine call_of h hm (by simp) ?_
  clear h
  rw [wpC_seq, wpC_blk]
  refine goBox (v := .agg #[.int .i64 n, sv, .bool tn, lv, uv]) (by simp) fun w1 hb1 hm1 => ?_
  have hb1 : Blk w1 w.heap.size [.int .i64 n, sv, .bool tn, lv, uv] := by simpa using hb1
  have c1 := fun k => hb1.cell k
  refine go1 rfl rfl (wpR_done ?_)
  rw [wpC_seq, wpC_seq, wpC_blk]
  refine go1 (v := .int .i64 kind) rfl (by simp) (wpR_done ?_)
  rw [wpC_block]
  unfold ir_sValue_4
  rw [wpC_seq, wpC_blk]
  refine go1 (v := .bool (decide (kind = 0))) rfl (by simp; by_cases e : kind = 0 <;> simp [e]) ?_
  refine go1 (v := .bool (decide (kind = 0))) rfl (by simp) (wpR_done ?_)
  by_cases k0 : kind = 0
  · rw [wpC_cond_t (by simp [k0]), wpC_seq, wpC_blk]
    refine go1 (v := .pointer (some ⟨w.heap.size, 0, none⟩)) rfl (by simp) ?_
    refine go1 (v := .int .i64 n) rfl (by simp [c1]) ?_
    refine go1 (v := .int .i64 (n % 2)) rfl (by simp only [RK.val?, ev, updo, upd, if_true, isShift, decide_true, Bool.or_true, and1_i64]) ?_
    refine go1 (v := .int .u8 ((UInt8.ofNat (n % 2).toNat).toNat : Int)) rfl (by
      simp only [RK.val?, ev, updo, upd, if_true]
      rw [u8_of_small (Int.emod_nonneg _ (by omega)) (by have := Int.emod_lt_of_pos n (show (0 : Int) < 2 by omega); omega)]) ?_
    refine goOne (cs := u8s [UInt8.ofNat (n % 2).toNat]) (by simp [u8s]) rfl rfl fun w2 hb2 hm2 => ?_
    refine go1 (v := .slice (some ⟨w1.heap.size, 0, none⟩) 1 1) rfl (by simp) (wpR_done ?_)
    repeat first | refine retThen ?_ | refine retBlk ?_
    refine ret1 (v := .slice (some ⟨w1.heap.size, 0, none⟩) 1 1) (by simp) ⟨_, rfl, ?_, hm1.trans hm2⟩
    have := DRaw.of_blk (n0 := w.heap.size) hb2 hm1.size
    simpa [valP, k0, TR.n] using this
  · rw [wpC_cond_f (by simp [k0]), wpC_seq, wpC_blk]
    refine go1 (v := .bool (decide (kind = 7))) rfl (by simp; by_cases e : kind = 7 <;> simp [e]) ?_
    refine go1 (v := .bool (decide (kind = 7))) rfl (by simp) (wpR_done ?_)
    by_cases k7 : kind = 7
    · rw [wpC_cond_t (by simp [k7]), wpC_seq, wpC_blk]
      refine wpR_run ?_
      simp only [RK.run, ev]
      refine ⟨by omega, by omega, by omega, by omega, fun T => ?_⟩
      have hb2 := Blk.new w1 (u8s (List.replicate 16 0)) T
      rw [show (zrep (16 : Int).toNat [Value.int .u8 0]) = u8s (List.replicate 16 0) from rfl]
      have hm2 : Mod [] w1 (w1.alloc (.cells (u8s (List.replicate 16 0)).toArray T)) := Mod.alloc _ _ _
      generalize w1.alloc (.cells (u8s (List.replicate 16 0)).toArray T) = w2 at hb2 hm2 ⊢
      refine go1 (v := .slice (some ⟨w1.heap.size, 0, none⟩) 16 16) rfl (by simp) (wpR_done ?_)
      have c2 := fun k => (hb1.mod hm2 (by simp)).cell k
      rw [wpC_seq, wpC_blk]
      refine go1 (v := .slice (some ⟨w1.heap.size, 0, none⟩) 16 16) rfl (by simp) ?_
      refine go1 (v := .pointer (some ⟨w.heap.size, 1, none⟩)) rfl (by simp) ?_
      refine go1 (v := sv) rfl (by simp [c2]) ?_
      refine wpR_run ?_
      have hs2 : SlC anyB w2 sv s.length (u8s s) := g1.keep (hm1.trans hm2)
      simp only [RK.run, ev, updo, upd, if_true, if_false, show (27 : Nat) ≠ 29 by decide, show (27 : Nat) ≠ 28 by decide, hs2.src]
      have hput := hb2.put (o := 0) (vs := (u8s s).take (Nat.min s.length 16 * 1)) (by simp [u8s_length]; omega)
      rw [uuid_splice] at hput
      have hmput : Mod [w1.heap.size] w2 (putCells w2 ⟨w1.heap.size, 0, none⟩ 0 ((u8s s).take (Nat.min s.length 16 * 1))) := Mod.put (by simp)
      refine ⟨stOk_many hb2 (by simp [u8s_length]; omega) (fun y hy => by
        have := List.mem_of_mem_take hy
        simp only [u8s, List.mem_map] at this
        obtain ⟨b, -, rfl⟩ := this; rfl), ?_⟩
      refine wpR_done ?_
      rw [wpC_seq, wpC_blk]
      refine go1 (v := .slice (some ⟨w1.heap.size, 0, none⟩) 16 16) rfl (by simp) ?_
      refine go1 (v := .slice (some ⟨w1.heap.size, 0, none⟩) 16 16) rfl (by simp) (wpR_done ?_)
      repeat first | refine retThen ?_ | refine retBlk ?_
      have hl16 : (uuidP s).length = 16 := by simp [uuidP]; omega
      refine ret1 (v := .slice (some ⟨w1.heap.size, 0, none⟩) 16 16) (by simp) ⟨_, rfl, ?_, Mod.drop (b := w1.heap.size) (S := []) ((hm1.trans hm2).nil.trans hmput) hm1.size⟩
      have := DRaw.of_blk (n0 := w.heap.size) hput hm1.size
      rw [hl16] at this
      simpa [valP, k7, TR.s] using this
    · rw [wpC_cond_f (by simp [k7])]
      unfold ir_sValue_3
      rw [wpC_seq, wpC_blk]
      refine go1 (v := .bool (decide (kind = 8))) rfl (by simp; by_cases e : kind = 8 <;> simp [e]) ?_
      refine go1 (v := .bool (decide (kind = 8))) rfl (by simp) (wpR_done ?_)
      by_cases k8 : kind = 8
      · rw [wpC_cond_t (by simp [k8])]
        refine val_text1 hm hw hc hu hf (w0 := w) (flex := flex) (null := null) (s := s) hm1 hb1 (g1.keep hm1) (by simp) (by simp) (by simp) (by simpa [valP, k8, TR.s] using hlen) fun σ' w' v' h12 hd hm' => ?_
        simp only [thenC, inBlockC]
        refine post1 h12 ⟨v', rfl, ?_, hm'⟩
        simpa [valP, k8, TR.s] using hd
      · rw [wpC_cond_f (by simp [k8]), wpC_seq, wpC_blk]
        refine go1 (v := .bool (decide (kind = 9))) rfl (by simp; by_cases e : kind = 9 <;> simp [e]) ?_
        refine go1 (v := .bool (decide (kind = 9))) rfl (by simp) (wpR_done ?_)
        by_cases k9 : kind = 9
        · rw [wpC_cond_t (by simp [k9])]
          refine val_text2 hm hw hc hu hf (w0 := w) (flex := flex) (null := null) (s := s) hm1 hb1 (g1.keep hm1) (by simp) (by simp) (by simp) (by simpa [valP, k9, TR.s] using hlen) fun σ' w' v' h12 hd hm' => ?_
          simp only [thenC, inBlockC]
          refine post1 h12 ⟨v', rfl, ?_, hm'⟩
          simpa [valP, k9, TR.s] using hd
        · rw [wpC_cond_f (by simp [k9]), wpC_seq, wpC_blk]
          refine go1 (v := .bool (decide (kind = 10))) rfl (by simp; by_cases e : kind = 10 <;> simp [e]) ?_
          refine go1 (v := .bool (decide (kind = 10))) rfl (by simp) (wpR_done ?_)
          by_cases k10 : kind = 10
          · rw [wpC_cond_t (by simp [k10]), wpC_seq, wpC_blk]
            have hrep1 : RepT anyB w1 (.mk n s tn l u) [.int .i64 n, sv, .bool tn, lv, uv] := RepT.keep (.mk g1 g2 g3 g4 g5) hm1
            refine go1 (v := v) rfl (by simp) ?_
            refine go1 (v := .int .i64 ver) rfl (by simp) ?_
            refine go1 (v := .bool flex) rfl (by simp) ?_
            refine go1 (v := .agg #[.int .i64 n, sv, .bool tn, lv, uv]) rfl (by simp [cellsAt_of' hb1.cells (n := 5) rfl]) ?_
            refine goCall rfl (vs := [v, .int .i64 ver, .bool flex, .agg #[.int .i64 n, sv, .bool tn, lv, uv]]) (by simp) (hp k10 w1 v css _ _ (hv.keep hm1) (hr.keep hm1) hrep1 hk (by simpa [valP, k10] using hlen)) ?_
            rintro e w2 ⟨v2, rfl, hd, hm2⟩
            refine ⟨v2, rfl, go1 (v := v2) rfl (by simp) (wpR_done ?_)⟩
            repeat first | refine retThen ?_ | refine retBlk ?_
            refine ret1 (v := v2) (by simp) ⟨v2, rfl, ?_, hm1.trans hm2⟩
            have := hd.low hm1.size
            simpa [valP, k10] using this
          · rw [wpC_cond_f (by simp [k10]), wpC_skip]
            simp only [thenC, inBlockC]
            rw [wpC_seq]
            simp only [wpC]
            have hmd : Mod [] w1 w1.drew := Mod.drew _ _
            have c2 := fun k => (hb1.mod hmd (by simp)).cell k
            refine wpD_of_B (fun j v w' => match j with | 3 => v = .int .i64 (widthP kind) | 4 => DRaw w' w.heap.size v (beI (widthP kind) n) | _ => True) (by
              intro j v w w' h hm
              split at h
              · exact h
              · exact h.keep hm
              · trivial) ?_
            refine bo1 (v := .pointer (some ⟨w.heap.size, 0, none⟩)) rfl (by simp) ?_
            refine bo1 (v := .int .i64 n) rfl (by simp [c2]) ?_
            refine bo1 (v := .int .i64 kind) rfl (by simp) ?_
            refine boCall (vs := [.int .i64 kind]) rfl (by simp) (fun w' hm' _ => (width_call hm hwd).mono ?_) ?_
            · rintro e w'' ⟨rfl, rfl⟩; exact ⟨_, rfl, Mod.refl _ _, rfl⟩
            rintro v3 ⟨_, rfl⟩
            refine boCall (vs := [.int .i64 n, .int .i64 (widthP kind : Nat)]) rfl (by simp) (fun w' hm' _ => (fixed_call hm hf (widthP_le kind)).mono ?_) ?_
            · rintro e w'' ⟨v4, rfl, hd, hm4⟩; exact ⟨v4, rfl, hm4, hd.low (Nat.le_trans (hm1.trans hmd).size hm'.size)⟩
            rintro v4 ⟨_, hv4⟩
            refine bo1 (v := v4) rfl (by simp) ?_
            intro w' hm' hkn
            have hk4 := known_get (j := 4) (t := 69) hkn (by simp) rfl rfl rfl rfl
            refine goEnd ?_
            simp only [thenC]
            refine post1 (v := v4) (by simp) ⟨v4, rfl, ?_, (hm1.trans hmd).trans hm'⟩
            have : DRaw w' w.heap.size v4 (beI (widthP kind) n) := by simpa using hk4
            simpa [valP, k0, k7, k8, k9, k10, TR.n] using this
end
end Go.Msk
