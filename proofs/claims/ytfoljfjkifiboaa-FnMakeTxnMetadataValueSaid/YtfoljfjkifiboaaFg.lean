/- A small language of resolved operations, and what the generic and the generated functions do in it (part 7). -/
import Derived.Test.YtfoljfjkifiboaaFf

namespace Go.Msk
open Go.RowKit
set_option maxRecDepth 100000
def TR.n : TR → Int | .mk n _ _ _ _ => n
def TR.s : TR → List UInt8 | .mk _ s _ _ _ => s
def TR.null : TR → Bool | .mk _ _ b _ _ => b
def TR.l : TR → List TR | .mk _ _ _ l _ => l
def TR.u : TR → List (Nat × List UInt8) | .mk _ _ _ _ u => u
def TR.at (t : TR) (i : Nat) : TR := (t.l[i]?).getD .zero
inductive FD where
  | mk (kind frm to null tag dfl of : Int) (sub : List FD)
  deriving Inhabited
def FD.kind : FD → Int | .mk k _ _ _ _ _ _ _ => k
def FD.frm : FD → Int | .mk _ k _ _ _ _ _ _ => k
def FD.to : FD → Int | .mk _ _ k _ _ _ _ _ => k
def FD.null : FD → Int | .mk _ _ _ k _ _ _ _ => k
def FD.tag : FD → Int | .mk _ _ _ _ k _ _ _ => k
def FD.dfl : FD → Int | .mk _ _ _ _ _ k _ _ => k
def FD.of : FD → Int | .mk _ _ _ _ _ _ k _ => k
def FD.sub : FD → List FD | .mk _ _ _ _ _ _ _ k => k
mutual
inductive RepF (ok : Nat → Prop) (w : World) : FD → List Value → Prop
  | mk {kind frm to null tag dfl of : Int} {sub : List FD} {sv : Value} {css : List (List Value)} : SlC ok w sv sub.length css.flatten → RepFL ok w sub css →
      RepF ok w (.mk kind frm to null tag dfl of sub) [.int .i64 kind, .int .i64 frm, .int .i64 to, .int .i64 null, .int .i64 tag, .int .i64 dfl, .int .i64 of, sv]
inductive RepFL (ok : Nat → Prop) (w : World) : List FD → List (List Value) → Prop
  | nil : RepFL ok w [] []
  | cons {f : FD} {l : List FD} {cs : List Value} {css : List (List Value)} : RepF ok w f cs → RepFL ok w l css → RepFL ok w (f :: l) (cs :: css)
end
theorem RepF.mod {ok ok' : Nat → Prop} {S : List Nat} {w w' : World} (hm : Mod S w w') (hS : ∀ b ∈ S, ¬ ok b) (ho : ∀ b, b < w.heap.size → ok b → ok' b) {t : FD} {cs : List Value} (h : RepF ok w t cs) : RepF ok' w' t cs := by
  refine RepF.rec (motive_1 := fun t cs _ => RepF ok' w' t cs) (motive_2 := fun l css _ => RepFL ok' w' l css) ?_ ?_ ?_ h
  · intro kind frm to null tag dfl of sub sv css h1 _ ih
    exact .mk (h1.mod hm hS ho) ih
  · exact .nil
  · intro t l cs css _ _ ih1 ih2; exact .cons ih1 ih2
theorem RepFL.mod {ok ok' : Nat → Prop} {S : List Nat} {w w' : World} (hm : Mod S w w') (hS : ∀ b ∈ S, ¬ ok b) (ho : ∀ b, b < w.heap.size → ok b → ok' b) {l : List FD} {css : List (List Value)} (h : RepFL ok w l css) : RepFL ok' w' l css := by
  induction l generalizing css with
  | nil => cases h; exact .nil
  | cons t l ih => cases h with | cons h1 h2 => exact .cons (h1.mod hm hS ho) (ih h2)
theorem RepF.eight {ok : Nat → Prop} {w : World} {t : FD} {cs : List Value} (h : RepF ok w t cs) : cs.length = 8 := by cases h; rfl
theorem RepFL.eight {ok : Nat → Prop} {w : World} {l : List FD} {css : List (List Value)} (h : RepFL ok w l css) : ∀ cs ∈ css, cs.length = 8 := by
  induction l generalizing css with
  | nil => cases h; simp
  | cons g l ih =>
    cases h with
    | cons h1 h2 =>
      intro cs hc
      rcases List.mem_cons.1 hc with rfl | hc
      · exact h1.eight
      · exact ih h2 cs hc
theorem RepFL.length {ok : Nat → Prop} {w : World} {l : List FD} {css : List (List Value)} (h : RepFL ok w l css) : l.length = css.length := by
  induction l generalizing css with
  | nil => cases h; rfl
  | cons g l ih => cases h with | cons h1 h2 => simp [ih h2]
theorem RepF.oneCell {ok : Nat → Prop} {w : World} {t : FD} {cs : List Value} (h : RepF ok w t cs) : ∀ v ∈ cs, v.oneCell' = true := by
  cases h with
  | mk h1 h2 =>
    intro v hv
    simp only [List.mem_cons, List.not_mem_nil, or_false] at hv
    rcases hv with rfl | rfl | rfl | rfl | rfl | rfl | rfl | rfl
    all_goals first | rfl | exact h1.one
theorem RepFL.nth {ok : Nat → Prop} {w : World} {l : List FD} {css : List (List Value)} (h : RepFL ok w l css) {j : Nat} {t : FD} (ht : l[j]? = some t) : ∃ cs, css[j]? = some cs ∧ RepF ok w t cs := by
  induction l generalizing css j with
  | nil => simp at ht
  | cons a l ih =>
    cases h with
    | cons h1 h2 =>
      cases j with
      | zero => simp only [List.getElem?_cons_zero, Option.some.injEq] at ht; subst ht; exact ⟨_, rfl, h1⟩
      | succ j => simp only [List.getElem?_cons_succ] at ht ⊢; exact ih h2 ht
def fzero : List Value := [.int .i64 0, .int .i64 0, .int .i64 0, .int .i64 0, .int .i64 0, .int .i64 0, .int .i64 0, .slice none 0 0]
abbrev anyB : Nat → Prop := fun _ => True
theorem SlC.any {ok : Nat → Prop} {w : World} {v : Value} {n : Nat} {cs : List Value} (h : SlC ok w v n cs) : SlC anyB w v n cs := h.mod (Mod.refl [] w) (by simp) fun _ _ _ => trivial
theorem SlC.keep {w w' : World} {v : Value} {n : Nat} {cs : List Value} (h : SlC anyB w v n cs) (hm : Mod [] w w') : SlC anyB w' v n cs := h.mod hm (by simp) fun _ _ _ => trivial
theorem RepT.any {ok : Nat → Prop} {w : World} {t : TR} {cs : List Value} (h : RepT ok w t cs) : RepT anyB w t cs := h.mod (Mod.refl [] w) (by simp) fun _ _ _ => trivial
theorem RepT.keep {w w' : World} {t : TR} {cs : List Value} (h : RepT anyB w t cs) (hm : Mod [] w w') : RepT anyB w' t cs := h.mod hm (by simp) fun _ _ _ => trivial
theorem RepTL.keep {w w' : World} {t : List TR} {cs : List (List Value)} (h : RepTL anyB w t cs) (hm : Mod [] w w') : RepTL anyB w' t cs := h.mod hm (by simp) fun _ _ _ => trivial
theorem RepU.keep {w w' : World} {t : List (Nat × List UInt8)} {cs : List (List Value)} (h : RepU anyB w t cs) (hm : Mod [] w w') : RepU anyB w' t cs := h.mod hm (by simp) fun _ _ _ => trivial
theorem RepF.keep {w w' : World} {t : FD} {cs : List Value} (h : RepF anyB w t cs) (hm : Mod [] w w') : RepF anyB w' t cs := h.mod hm (by simp) fun _ _ _ => trivial
theorem RepFL.keep {w w' : World} {t : List FD} {cs : List (List Value)} (h : RepFL anyB w t cs) (hm : Mod [] w w') : RepFL anyB w' t cs := h.mod hm (by simp) fun _ _ _ => trivial
theorem SlC.src {ok : Nat → Prop} {w : World} {v : Value} {l : List UInt8} (h : SlC ok w v l.length (u8s l)) : srcCells w 1 v = some (l.length, u8s l) := by
  obtain ⟨base, cap, rfl, h2, h3, h4⟩ := h
  cases base with
  | none => have := h3 rfl; have : l = [] := List.length_eq_zero_iff.1 (by omega); subst this; simp [srcCells, u8s]
  | some a =>
    by_cases hc0 : 0 < cap
    · simp only [srcCells, Nat.mul_one]
      rw [cellsAt_of' (h4 a rfl hc0).2.2 (u8s_length l)]; rfl
    · have : l = [] := List.length_eq_zero_iff.1 (by omega)
      subst this; simp [srcCells, cellsAt, u8s]
theorem DRaw.src {w : World} {n0 : Nat} {v : Value} {l : List UInt8} (h : DRaw w n0 v l) : srcCells w 1 v = some (l.length, u8s l) := h.slc.src
theorem slice_head {ok : Nat → Prop} {x y : Operand} {sz n k : Nat} {σ : Sl} {w : World} {v : Value} {cells : List Value} (hx : ev σ x = v) (hy : ev σ y = .int .i64 (k : Nat)) (h : SlC ok w v n cells) (hk : k ≤ n) :
    ∃ v', (RK.slice x none (some y) none sz).val? σ w = some v' ∧ SlC ok w v' k (cells.take (k * sz)) := by
  obtain ⟨base, cap, rfl, h2, h3, h4⟩ := h
  simp only [RK.val?, hx, bnd, hy]
  rw [if_pos ⟨by omega, by omega, by omega, by omega⟩]
  simp only [Int.toNat_natCast, Int.toNat_zero, Nat.sub_zero, Nat.zero_mul]
  refine ⟨_, rfl, _, _, rfl, by omega, ?_, ?_⟩
  · intro hn
    split at hn
    · rename_i h; simpa using h
    · cases base with
      | none => exact h3 rfl
      | some a => simp at hn
  · intro a ha hc0
    split at ha
    · obtain ⟨k1, k2, k3⟩ := h4 a ha (by simpa using hc0)
      exact ⟨k1, k2, k3.take _⟩
    · cases base with
      | none => simp at ha
      | some b =>
        obtain ⟨k1, k2, k3⟩ := h4 b rfl (by simpa using hc0)
        simp only [Option.map_some, Option.some.injEq] at ha
        subst ha
        rw [Addr.add_of k3.1]
        exact ⟨k1, k2, by have := k3.take (k * sz); obtain ⟨b, o, s⟩ := b; have e := k3.1; simp only at e; subst e; exact this⟩
def BytesR (w : World) (l : List UInt8) : Ending → World → Prop := fun e w' => ∃ v, e = .returned v ∧ DRaw w' w.heap.size v l ∧ Mod [] w w'
theorem AppD.mod0 {w0 w w' : World} {v v' : Value} {l l' : List UInt8} (h : AppD w0.heap.size w v w' v' l') (hd : DRaw w w0.heap.size v l) (hm : Mod [] w0 w) : Mod [] w0 w' := by
  have := h.mod
  cases ho : ownB v with
  | none => rw [ho] at this; exact hm.trans this.nil
  | some b =>
    rw [ho] at this
    exact Mod.drop (b := b) (S := []) ((hm.mono (by simp)).trans (this.mono (by simp))) (hd.own ho).1
theorem DRaw.nil (w : World) (n : Nat) : DRaw w n (.slice none 0 0) [] := ⟨.inl ⟨rfl, rfl⟩⟩
theorem DRaw.keep {w w' : World} {n0 : Nat} {v : Value} {l : List UInt8} (h : DRaw w n0 v l) (hm : Mod [] w w') : DRaw w' n0 v l := h.mod hm (by simp)
theorem DRaw.low {w : World} {n0 n1 : Nat} {v : Value} {l : List UInt8} (h : DRaw w n0 v l) (hn : n1 ≤ n0) : DRaw w n1 v l :=
  ⟨h.sl.imp id fun ⟨B, cap, rest, h1, h2, h3, h4, h5⟩ => ⟨B, cap, rest, h1, h2, Nat.le_trans hn h3, h4, h5⟩⟩
def wholeP (l : List UInt8) : List UInt8 := l.take 32767
theorem min_nat (n : Nat) : (if (32767 : Int) < (n : Int) then (32767 : Int) else (n : Int)) = ((min n 32767 : Nat) : Int) := by
  split <;> omega
section
variable {P : Program} {F : Nat → Nat}
attribute [local simp] gOk updo upd ev RK.val? isShift intBin Addr.add_mk args0 Value.cells undef
theorem whole_call (hm : P.follows .mixedOrders = true) (h : liftF P (F sWhole) = some (ir_sWhole F)) {ok : Nat → Prop} {w : World} {v : Value} {l : List UInt8} (hv : SlC ok w v l.length (u8s l)) :
    Calls P (F sWhole) [v].toArray w fun e w' => w' = w ∧ ∃ v', e = .returned v' ∧ SlC ok w v' (wholeP l).length (u8s (wholeP l)) := by
  unfold ir_sWhole at h
  refine call_of h hm (by simp) ?_
  obtain ⟨b, c, rfl⟩ := hv.shape
  rw [wpC_seq, wpC_blk]
  refine go1 rfl rfl (wpR_done ?_)
  rw [wpC_seq, wpC_blk]
  refine go1 rfl rfl (go1 rfl rfl ?_)
  refine go1 (v := .int .i64 l.length) rfl (by simp) ?_
  refine go1 (v := .int .i64 ((min l.length 32767 : Nat) : Int)) rfl (by simp [min_nat]) ?_
  obtain ⟨v', e1, h1⟩ := slice_head (x := .tmp 3) (y := .tmp 6) (sz := 1) (σ := upd (upd (upd (upd (upd (args0 [.slice b l.length c]) 2 (.slice none 0 0)) 3 (.slice b l.length c)) 4 (.slice b l.length c)) 5 (.int .i64 l.length)) 6 (.int .i64 ((min l.length 32767 : Nat) : Int))) (k := min l.length 32767) (by simp) (by simp) hv (by omega)
  refine go1 (v := v') rfl e1 ?_
  refine go1 (v := v') rfl (by simp) (wpR_done (ret1 (v := v') (by simp) ⟨rfl, v', rfl, ?_⟩))
  have e2 : (wholeP l).length = min l.length 32767 := by simp [wholeP, Nat.min_comm]
  have e3 : u8s (wholeP l) = (u8s l).take (min l.length 32767 * 1) := by
    rw [Nat.mul_one, wholeP, u8s_take]
    by_cases hl : l.length ≤ 32767
    · rw [List.take_of_length_le (by rw [u8s_length]; omega), List.take_of_length_le (by rw [u8s_length]; omega)]
    · rw [Nat.min_eq_right (by omega)]
  rw [e2, e3]; exact h1
theorem has_call (hm : P.follows .mixedOrders = true) (h : liftF P (F sHas) = some (ir_sHas F)) {ok : Nat → Prop} {w : World} {f : FD} {cs : List Value} {ver : Int} (hf : RepF ok w f cs) :
    Calls P (F sHas) [.agg cs.toArray, .int .i64 ver].toArray w fun e w' => e = .returned (.bool (decide (f.frm ≤ ver) && (decide (f.to < 0) || decide (ver ≤ f.to)))) ∧ Mod [] w w' := by
  cases hf with
  | @mk kind frm to null tag dfl of sub sv css h1 h2 =>
  unfold ir_sHas at h
  refine call_of h hm (by simp) ?_
  rw [wpC_seq, wpC_blk]
  refine goBox rfl fun w1 hb1 hm1 => ?_
  have c1 := fun k => hb1.cell k
  refine go1 rfl rfl (wpR_done ?_)
  rw [wpC_seq, wpC_blk]
  clear h
  by_cases e1 : frm ≤ ver
  · by_cases e2 : to < 0
    · iterate 16 (first | (apply go1; (· simp []); (· simp [c1, e1, e2] <;> rfl)) | (apply go0; (· simp [])))
      exact wpR_done (ret1 rfl (by simp [FD.frm, FD.to, e1, e2, hm1] <;> rfl))
    · iterate 16 (first | (apply go1; (· simp []); (· simp [c1, e1, e2] <;> rfl)) | (apply go0; (· simp [e1, e2])))
      exact wpR_done (ret1 rfl (by simp [FD.frm, FD.to, e1, e2, hm1] <;> rfl))
  · iterate 16 (first | (apply go1; (· simp []); (· simp [c1, e1] <;> rfl)) | (apply go0; (· simp [])))
    exact wpR_done (ret1 rfl (by simp [FD.frm, e1, hm1]))
end
end Go.Msk

namespace Go.Msk
open Go.RowKit
set_option maxRecDepth 100000
def FD.hasV (f : FD) (ver : Int) : Bool := decide (f.frm ≤ ver) && (decide (f.to < 0) || decide (ver ≤ f.to))
def FD.nullV (f : FD) (ver : Int) (t : TR) : Bool := t.null && (decide (f.null ≥ 0) && decide (ver ≥ f.null))
def widthP (k : Int) : Nat := if k = 1 then 1 else if k = 2 ∨ k = 5 then 2 else if k = 3 then 4 else 8
def countedP (flex null : Bool) (n size : Nat) : List UInt8 := if flex then (if null then [0] else uvE (n + 1)) else (if null then beI size (-1) else beI size n)
theorem widthP_le (k : Int) : widthP k ≤ 8 := by unfold widthP; repeat' split
                                                 all_goals omega
theorem flatten_take {n : Nat} : ∀ (css : List (List Value)) (k : Nat), (∀ c ∈ css, c.length = n) → css.flatten.take (k * n) = (css.take k).flatten
  | [], k, _ => by simp
  | c :: css, 0, _ => by simp
  | c :: css, k + 1, h => by
    have hc := h c (by simp)
    have ih := flatten_take css k (fun x hx => h x (by simp [hx]))
    simp only [List.flatten_cons, List.take_succ_cons]
    have e : (k + 1) * n = c.length + k * n := by rw [hc, Nat.add_mul]; omega
    rw [e, List.take_length_add_append, ih]
theorem RepTL.take {ok : Nat → Prop} {w : World} : ∀ {l : List TR} {css : List (List Value)} (_ : RepTL ok w l css) (k : Nat), RepTL ok w (l.take k) (css.take k)
  | _, _, .nil, k => by simp; exact .nil
  | _, _, .cons h1 h2, 0 => by simp; exact .nil
  | _, _, .cons h1 h2, k + 1 => by simp only [List.take_succ_cons]; exact .cons h1 (h2.take k)
theorem shr_i64 (n : Int) (k : Nat) (hk : k ≤ 64) : intBin .shr .i64 n (k : Nat) = some (.int .i64 (n / 2 ^ k)) := by
  simp only [intBin]
  rw [if_neg (by omega)]
  have : min (k : Int).toNat IntKind.i64.bits = k := by show min (k : Int).toNat 64 = k; omega
  rw [this, Int.fdiv_eq_ediv_of_nonneg _ (by exact Int.le_of_lt (Int.pow_pos (by omega)))]
theorem pow_256 (m : Nat) : (2 : Int) ^ (8 * m) = 256 ^ m := by rw [Int.pow_mul]; rfl
theorem u64_natS {n : Nat} (h : n < 18446744073709551616) : IntKind.u64.wrap (n : Int) = n := by
  simp only [IntKind.wrap, IntKind.bits, IntKind.signed]; simp; omega
theorem and127_u64 {n : Nat} (h : n < 18446744073709551616) : intBin .and .u64 (n : Int) 127 = some (.int .u64 ((n % 128 : Nat) : Int)) := by
  simp only [intBin]
  congr 2
  have e1 : (BitVec.ofInt IntKind.u64.bits (n : Int) &&& BitVec.ofInt IntKind.u64.bits 127).toNat = n % 128 := by
    show (BitVec.ofInt 64 (n : Int) &&& BitVec.ofInt 64 127).toNat = n % 128
    rw [BitVec.toNat_and]
    have a : (BitVec.ofInt 64 (n : Int)).toNat = n := by simp []; omega
    have b : (BitVec.ofInt 64 127).toNat = 2 ^ 7 - 1 := by decide
    rw [a, b, Nat.and_two_pow_sub_one_eq_mod]
  rw [e1, u64_natS (by omega)]
theorem or128_u8 {x : Nat} (h : x < 128) : intBin .or .u8 (x : Int) 128 = some (.int .u8 ((x + 128 : Nat) : Int)) := by
  have e := bin_or (k := .u8) rfl (x := x) (y := 128) (by show x < 2 ^ 8; omega) (by decide)
  have e2 := or_add 1 x 7 (by omega)
  simp only [Nat.one_mul] at e2
  have e3 : x ||| 128 = x + 128 := by
    have : (2 : Nat) ^ 7 = 128 := by decide
    rw [this] at e2; omega
  rw [e3] at e
  exact e
theorem shr_u64 (n k : Nat) (hk : k < 64) : intBin .shr .u64 (n : Int) (k : Nat) = some (.int .u64 ((n / 2 ^ k : Nat) : Int)) := by
  simp only [intBin]
  rw [if_neg (by omega)]
  have : min (k : Int).toNat IntKind.u64.bits = k := by show min (k : Int).toNat 64 = k; omega
  rw [this, Int.fdiv_eq_ediv_of_nonneg _ (by exact Int.le_of_lt (Int.pow_pos (by omega)))]
  congr 2
section
variable {P : Program} {F : Nat → Nat}
attribute [local simp] gOk updo upd ev RK.val? isShift intBin Addr.add_mk args0 Value.cells undef
theorem null_call (hm : P.follows .mixedOrders = true) (h : liftF P (F sNull) = some (ir_sNull F)) {ok ok' : Nat → Prop} {w : World} {f : FD} {cs : List Value} {t : TR} {ts : List Value} {ver : Int} (hf : RepF ok w f cs) (ht : RepT ok' w t ts) :
    Calls P (F sNull) [.agg cs.toArray, .int .i64 ver, .agg ts.toArray].toArray w fun e w' => e = .returned (.bool (f.nullV ver t)) ∧ Mod [] w w' := by
  cases hf with
  | @mk kind frm to null tag dfl of sub sv css h1 h2 =>
  cases ht with
  | @mk n s tnull l u sv lv uv css uss g1 g2 g3 g4 g5 =>
  unfold ir_sNull at h
  refine call_of h hm (by simp) ?_
  clear h
  rw [wpC_seq, wpC_blk]
  refine goBox rfl fun w1 hb1 hm1 => ?_
  refine goBox (v := .agg [.int .i64 n, sv, .bool tnull, lv, uv].toArray) (by simp) fun w2 hb2 hm2 => ?_
  have c1 := fun k => (hb1.mod hm2 (by simp)).cell k
  have c2 := fun k => hb2.cell k
  refine go1 rfl rfl (wpR_done ?_)
  rw [wpC_seq, wpC_blk]
  cases tnull
  · iterate 14 (first | (apply go1; (· simp); (· simp [c2] <;> rfl)) | (apply go0; (· simp)))
    exact wpR_done (ret1 rfl (by simp [FD.nullV, TR.null, hm1.trans hm2]))
  · by_cases e1 : null ≥ 0
    · iterate 14 (first | (apply go1; (· simp []); (· simp [c1, c2, e1] <;> rfl)) | (apply go0; (· simp [e1])))
      exact wpR_done (ret1 rfl (by simp [FD.nullV, FD.null, TR.null, e1, hm1.trans hm2] <;> rfl))
    · iterate 14 (first | (apply go1; (· simp []); (· simp [c1, c2, e1] <;> rfl)) | (apply go0; (· simp [])))
      exact wpR_done (ret1 rfl (by simp [FD.nullV, FD.null, TR.null, e1, hm1.trans hm2] <;> rfl))
theorem things_call (hm : P.follows .mixedOrders = true) (h : liftF P (F sThings) = some (ir_sThings F)) {ok : Nat → Prop} {w : World} {v : Value} {l : List TR} {css : List (List Value)} (hv : SlC ok w v l.length css.flatten) (hr : RepTL ok w l css) :
    Calls P (F sThings) [v].toArray w fun e w' => w' = w ∧ ∃ v', e = .returned v' ∧ SlC ok w v' (l.take 32767).length (css.take 32767).flatten ∧ RepTL ok w (l.take 32767) (css.take 32767) := by
  unfold ir_sThings at h
  refine call_of h hm (by simp) ?_
  clear h
  obtain ⟨b, c, rfl⟩ := hv.shape
  rw [wpC_seq, wpC_blk]
  refine go1 rfl rfl (wpR_done ?_)
  rw [wpC_seq, wpC_blk]
  refine go1 rfl rfl (go1 rfl rfl ?_)
  refine go1 (v := .int .i64 l.length) rfl (by simp) ?_
  refine go1 (v := .int .i64 ((min l.length 32767 : Nat) : Int)) rfl (by simp [min_nat]) ?_
  obtain ⟨v', e1, h1⟩ := slice_head (x := .tmp 3) (y := .tmp 6) (sz := 5) (σ := upd (upd (upd (upd (upd (args0 [.slice b l.length c]) 2 (.slice none 0 0)) 3 (.slice b l.length c)) 4 (.slice b l.length c)) 5 (.int .i64 l.length)) 6 (.int .i64 ((min l.length 32767 : Nat) : Int))) (k := min l.length 32767) (by simp) (by simp) hv (by omega)
  refine go1 (v := v') rfl e1 ?_
  refine go1 (v := v') rfl (by simp) (wpR_done (ret1 (v := v') (by simp) ⟨rfl, v', rfl, ?_, hr.take _⟩))
  rw [flatten_take _ _ hr.five] at h1
  have e2 : (l.take 32767).length = min l.length 32767 := by simp [Nat.min_comm]
  have e3 : css.take (min l.length 32767) = css.take 32767 := by
    by_cases hl : l.length ≤ 32767
    · have := hr.length
      rw [Nat.min_eq_left hl, List.take_of_length_le (by omega), List.take_of_length_le (by omega)]
    · rw [Nat.min_eq_right (by omega)]
  rw [e2, ← e3]; exact h1
theorem at_call (hm : P.follows .mixedOrders = true) (h : liftF P (F sAt) = some (ir_sAt F)) {ok : Nat → Prop} {w : World} {t : TR} {ts : List Value} {i : Nat} (ht : RepT ok w t ts) :
    Calls P (F sAt) [.agg ts.toArray, .int .i64 (i : Nat)].toArray w fun e w' => ∃ cs, e = .returned (.agg cs.toArray) ∧ RepT anyB w' (t.at i) cs ∧ Mod [] w w' := by
  replace ht := ht.any
  cases ht with
  | @mk n s tnull l u sv lv uv css uss g1 g2 g3 g4 g5 =>
  unfold ir_sAt at h
  refine call_of h hm (by simp) ?_
  clear h
  rw [wpC_seq, wpC_blk]
  refine goBox rfl fun w1 hb1 hm1 => ?_
  refine goAlloc fun w2 hb2 hm2 => ?_
  have hm12 := hm1.trans hm2
  have c1 := fun k => (hb1.mod hm2 (by simp)).cell k
  refine wpR_done ?_
  obtain ⟨lb, lc, elv⟩ := g2.shape
  rw [wpC_seq, wpC_seq, wpC_blk]
  have key : ∀ σ : Sl, σ 4 = .pointer (some ⟨w1.heap.size, 0, none⟩) → l[i]? = none → wpC P (.seq (.blk [⟨(some (15)), .build [.int .i64 0, .slice none 0 0, .bool false, .slice none 0 0, .slice none 0 0] [], none⟩,
      ⟨none, .st (.tmp 4) 5 (.tmp 15), none⟩]) .ret) (postC [.cells 4 5] fun e w' => ∃ cs, e = .returned (.agg cs.toArray) ∧ RepT anyB w' ((TR.mk n s tnull l u).at i) cs ∧ Mod [] w w') σ w2 := by
    intro σ h4 hn
    rw [wpC_seq, wpC_blk]
    refine go1 (v := .agg tzero.toArray) rfl rfl ?_
    refine goSt (b := w1.heap.size) (v := .agg tzero.toArray) (by simp [h4]) (by simp) hb2 rfl rfl (by simp [tzero, Value.oneCell']) fun w3 hb3 hm3 => ?_
    refine wpR_done (retN (by simpa using h4) hb3 rfl ⟨_, rfl, ?_, ?_⟩)
    · have : (TR.mk n s tnull l u).at i = TR.zero := by simp [TR.at, TR.l, hn]
      rw [this]; exact RepT.zero
    · exact Mod.drop (b := w1.heap.size) (S := []) (hm12.nil.trans hm3) hm1.size
  iterate 4 (apply go1 rfl; (· simp [c1, elv] <;> rfl))
  refine go1 (v := .bool (decide ((i : Int) < l.length))) rfl (by simp) ?_
  refine wpR_done ?_
  by_cases hi : i < l.length
  · rw [wpC_cond_t (by simp [hi]), wpC_seq, wpC_blk]
    obtain ⟨t', ht'⟩ : ∃ t', l[i]? = some t' := ⟨l[i], by simp [hi]⟩
    obtain ⟨cs, hcs, hrep⟩ := g3.nth ht'
    obtain ⟨a, c, ea, hj, hcell⟩ := g2.flat (g3.length) (g3.five) hcs
    have hcell2 : cellsAt w2 (a.add (i * 5)) 0 5 = some cs := cellsAt_below hm12.below _ _ _ hcell
    rw [elv] at ea
    simp only [Value.slice.injEq, true_and] at ea
    obtain ⟨ea, ec⟩ := ea
    subst ea
    iterate 3 (apply go1 rfl; (· simp [c1, elv] <;> rfl))
    refine go1 (v := .pointer (some (a.add (i * 5)))) rfl (by simp [hi]) ?_
    refine go1 (v := .agg cs.toArray) rfl (by simp [hcell2]) ?_
    refine goSt (b := w1.heap.size) (v := .agg cs.toArray) (by simp) (by simp) hb2 (by simp [hrep.five]) rfl (by simpa using hrep.oneCell) fun w3 hb3 hm3 => ?_
    have hm123 : Mod [] w w3 := Mod.drop (b := w1.heap.size) (S := []) (hm12.nil.trans hm3) hm1.size
    refine wpR_done (retThen (retN (cs := cs) (b := w1.heap.size) (by simp) (by simpa using hb3) hrep.five ⟨cs, rfl, ?_, hm123⟩))
    have : (TR.mk n s tnull l u).at i = t' := by simp [TR.at, TR.l, ht']
    rw [this]
    exact hrep.keep hm123
  · rw [wpC_cond_f (by simp; omega), wpC_skip]
    exact key _ (by simp) (by simp; omega)
end
end Go.Msk

namespace Go.Msk
open Go.RowKit
set_option maxRecDepth 100000
def AppK (P : Program) (f : FuncId) (V : World → Value → Prop) (enc : List UInt8) : Prop :=
  ∀ (w0 w : World) (dv v : Value) (l : List UInt8), Mod [] w0 w → DRaw w w0.heap.size dv l → l.length + enc.length ≤ lim → V w0 v →
    Calls P f [dv, v].toArray w fun e w' => ∃ dv', e = .returned dv' ∧ DRaw w' w0.heap.size dv' (l ++ enc) ∧ Mod [] w0 w'
theorem AppC.k {P : Program} {f : FuncId} {V : World → Value → Prop} {enc : List UInt8} (h : AppC P f V enc) (hV : ∀ w w' v, V w v → V w' v) : AppK P f V enc :=
  fun w0 w dv v l hm hd hl hv => (h w0.heap.size w dv v l hd hm.size hl (hV _ _ _ hv)).mono fun _ _ ⟨dv', e, ha⟩ => ⟨dv', e, ha.raw, ha.mod0 hd hm⟩
section
variable {P : Program} {F : Nat → Nat}
attribute [local simp] gOk updo upd ev RK.val? isShift intBin Addr.add_mk args0 Value.cells undef
theorem kAppendUuid_call (hm : P.follows .mixedOrders = true) (h : liftF P (F kAppendUuid) = some (ir_kAppendUuid F)) {u : List UInt8} (hu : u.length = 16) : AppK P (F kAppendUuid) (fun _ v => v = .agg (u8s u).toArray) u := by
  intro w0 w dv v l hm0 hd hlen hv
  subst hv
  unfold ir_kAppendUuid at h
  refine call_of h hm (by simp) ?_
  clear h
  rw [wpC_seq, wpC_blk]
  refine goBox rfl fun w1 hb1 hm1 => ?_
  have hb1 : Blk w1 w.heap.size (u8s u) := by simpa using hb1
  refine go1 rfl rfl (wpR_done ?_)
  rw [wpC_seq, wpC_blk]
  refine go1 (v := dv) rfl (by simp) ?_
  refine go1 (v := .slice (some ⟨w.heap.size, 0, none⟩) 16 16) rfl (by simp) ?_
  have hr := hd.mod hm1 (by simp)
  refine goC rfl ?_
  refine append_run (n0 := w0.heap.size) (v := dv) (by simp) hr (hm0.trans hm1).size (k := u) (by
    simp only [ev, updo, upd, if_true, srcCells, Nat.mul_one]
    rw [cellsAt_of' hb1.cells (by rw [u8s_length, hu]), hu]; rfl) hlen fun v' w2 ha => ?_
  exact go1 (v := v') rfl (by simp) (wpR_done (ret1 (v := v') (by simp) ⟨v', rfl, ha.raw, ha.mod0 hr (hm0.trans hm1)⟩))
theorem put_tail {t : Nat} {w0 w : World} {σ : Sl} {dv v : Value} {l k : List UInt8} {N : Sl → World → Prop} {Q : Exit → Sl → World → Prop} (h1 : σ 0 = dv) (h2 : σ 1 = v) (ht : 4 < t) (hm0 : Mod [] w0 w) (hd : DRaw w w0.heap.size dv l)
    (hs : srcCells w 1 v = some (k.length, u8s k)) (hl : l.length + k.length ≤ lim) (hN : ∀ σ' w' v', σ' 4 = v' → DRaw w' w0.heap.size v' (l ++ k) → Mod [] w0 w' → N σ' w') :
    wpR P [⟨some t, .mv (.tmp 0), none⟩, ⟨some (t + 1), .mv (.tmp 1), none⟩, ⟨some (t + 2), .append (.tmp t) (.tmp (t + 1)) 1 1, none⟩, ⟨some 4, .mv (.tmp (t + 2)), none⟩] σ w (thenC N Q .normal) := by
  refine go1 (v := dv) rfl (congrArg some h1) ?_
  refine go1 (v := v) rfl (by simp only [RK.val?, ev, updo, upd]; rw [if_neg (by omega), h2]) ?_
  refine goC rfl ?_
  refine append_run (n0 := w0.heap.size) (v := dv) (by simp only [ev, updo, upd]; rw [if_neg (by omega)]; simp) hd hm0.size (k := k) (by simp only [ev, updo, upd, if_true]; exact hs) hl fun v' w2 ha => ?_
  refine go1 (v := v') rfl (by simp only [RK.val?, ev, updo, upd, if_true]) (wpR_done ?_)
  exact hN _ w2 v' (by simp) ha.raw (ha.mod0 hd hm0)
theorem slen_str (l : List UInt8) : (⟨l.toArray⟩ : ByteArray).size = l.length := by simp [ByteArray.size]
theorem str_src (w : World) (l : List UInt8) : srcCells w 1 (str l) = some (l.length, u8s l) := by simp [srcCells, str, ByteArray.size]
theorem kAppendString_call (hm : P.follows .mixedOrders = true) (h : liftF P (F kAppendString) = some (ir_kAppendString F)) (h1 : liftF P (F kAppendInt16) = some (ir_kAppendInt16 F)) (h2 : liftF P (F kAppendUint16) = some (ir_kAppendUint16 F)) {s : List UInt8} :
    AppK P (F kAppendString) (fun _ v => v = str s) (beI 2 s.length ++ s) := by
  intro w0 w dv v l hm0 hd hlen hv
  subst hv
  unfold ir_kAppendString at h
  refine call_of h hm (by simp) ?_
  clear h
  simp only [List.length_append] at hlen
  rw [wpC_seq, wpC_blk]
  refine go1 rfl rfl (wpR_done ?_)
  rw [wpC_seq, wpC_blk]
  refine go1 (v := dv) rfl (by simp) ?_
  refine go1 (v := str s) rfl (by simp) ?_
  refine go1 (v := .int .i64 (s.length : Nat)) rfl (by simp [str, slen_str]) ?_
  refine go1 (v := .int .i16 (IntKind.i16.wrap s.length)) rfl (by simp) ?_
  refine goCall rfl (vs := [dv, .int .i16 (IntKind.i16.wrap s.length)]) (by simp) ((AppC.k (kAppendInt16_call (n := IntKind.i16.wrap s.length) hm h1 h2) fun _ _ _ h => h) w0 w dv _ l hm0 hd (by rw [beI_length]; rw [beI_length] at hlen; omega) rfl) ?_
  rintro e w1 ⟨dv1, rfl, hd1, hm1⟩
  have eb : beI 2 (IntKind.i16.wrap s.length) = beI 2 s.length := beI_mod 2 _ _ (by simp only [IntKind.wrap, IntKind.bits, IntKind.signed]; simp; omega)
  rw [eb] at hd1
  refine ⟨dv1, rfl, go1 (v := dv1) rfl (by simp) (wpR_done ?_)⟩
  rw [wpC_seq, wpC_blk]
  refine put_tail (t := 10) (v := str s) (by simp) (by simp) (by omega) hm1 hd1 (str_src _ _) (by simp only [List.length_append]; omega) fun σ' w' v' h4 hd' hm' => ?_
  exact ret1 h4 ⟨v', rfl, by simpa [List.append_assoc] using hd', hm'⟩
theorem one_add_u32 {n : Nat} (h : n < 4294967295) : intBin .add .u32 1 (IntKind.u32.wrap (n : Int)) = some (.int .u32 ((n + 1 : Nat) : Int)) := by
  simp only [intBin]
  rw [u32_nat (by omega), show (1 : Int) + (n : Int) = ((n + 1 : Nat) : Int) by omega, u32_nat (by omega)]
theorem kAppendCompactString_call (hm : P.follows .mixedOrders = true) (h : liftF P (F kAppendCompactString) = some (ir_kAppendCompactString F)) (h1 : liftF P (F kAppendUvarint) = some (ir_kAppendUvarint F)) (h2 : liftF P (F kUvarintLen) = some (ir_kUvarintLen F)) (h3 : liftF P (F bLen32) = some (ir_bLen32 F)) {s : List UInt8} (hs : s.length < 4294967295) :
    AppK P (F kAppendCompactString) (fun _ v => v = str s) (uvE (s.length + 1) ++ s) := by
  intro w0 w dv v l hm0 hd hlen hv
  subst hv
  unfold ir_kAppendCompactString at h
  refine call_of h hm (by simp) ?_
  clear h
  simp only [List.length_append] at hlen
  rw [wpC_seq, wpC_blk]
  refine go1 rfl rfl (wpR_done ?_)
  rw [wpC_seq, wpC_blk]
  refine go1 (v := dv) rfl (by simp) ?_
  refine go1 (v := str s) rfl (by simp) ?_
  refine go1 (v := .int .i64 (s.length : Nat)) rfl (by simp [str, slen_str]) ?_
  refine go1 (v := .int .u32 (IntKind.u32.wrap s.length)) rfl (by simp) ?_
  refine go1 (v := .int .u32 ((s.length + 1 : Nat) : Int)) rfl (by simp only [RK.val?, ev, updo, upd, if_true, isShift, decide_true, Bool.or_true, one_add_u32 hs]) ?_
  refine goCall rfl (vs := [dv, .int .u32 ((s.length + 1 : Nat) : Int)]) (by simp) ((AppC.k (kAppendUvarint_call (n := s.length + 1) hm h1 h2 h3 (by omega)) fun _ _ _ h => h) w0 w dv _ l hm0 hd (by omega) rfl) ?_
  rintro e w1 ⟨dv1, rfl, hd1, hm1⟩
  refine ⟨dv1, rfl, go1 (v := dv1) rfl (by simp) (wpR_done ?_)⟩
  rw [wpC_seq, wpC_blk]
  refine put_tail (t := 11) (v := str s) (by simp) (by simp) (by omega) hm1 hd1 (str_src _ _) (by simp only [List.length_append]; omega) fun σ' w' v' h4 hd' hm' => ?_
  exact ret1 h4 ⟨v', rfl, by simpa [List.append_assoc] using hd', hm'⟩
def NStr (o : Option (List UInt8)) (w : World) (v : Value) : Prop :=
  match o with
  | none => v = .pointer none
  | some s => ∃ a, v = .pointer (some a) ∧ w.cell? a = some (str s)
def encNStr (x : Bool) : Option (List UInt8) → List UInt8
  | none => if x then [0] else beI 2 (-1)
  | some s => if x then uvE (s.length + 1) ++ s else beI 2 s.length ++ s
theorem kAppendNullableString_call (hm : P.follows .mixedOrders = true) (h : liftF P (F kAppendNullableString) = some (ir_kAppendNullableString F)) (h0 : liftF P (F kAppendString) = some (ir_kAppendString F)) (h1 : liftF P (F kAppendInt16) = some (ir_kAppendInt16 F)) (h2 : liftF P (F kAppendUint16) = some (ir_kAppendUint16 F)) {o : Option (List UInt8)} :
    AppK P (F kAppendNullableString) (NStr o) (encNStr false o) := by
  intro w0 w dv v l hm0 hd hlen hv
  unfold ir_kAppendNullableString at h
  refine call_of h hm (by simp) ?_
  clear h
  rw [wpC_seq, wpC_blk]
  refine go1 rfl rfl (wpR_done ?_)
  rw [wpC_seq, wpC_seq, wpC_blk]
  cases o with
  | none =>
    have hv : v = .pointer none := hv
    subst hv
    refine go1 (v := .pointer none) rfl (by simp) ?_
    refine go1 (v := .bool true) rfl (by simp) (wpR_done ?_)
    rw [wpC_cond_t (by simp), wpC_seq, wpC_blk]
    refine go1 (v := dv) rfl (by simp) ?_
    refine goCall rfl (vs := [dv, .int .i16 (-1)]) (by simp) ((AppC.k (kAppendInt16_call (n := -1) hm h1 h2) fun _ _ _ h => h) w0 w dv _ l hm0 hd (by simpa [encNStr] using hlen) rfl) ?_
    rintro e w1 ⟨dv1, rfl, hd1, hm1⟩
    refine ⟨dv1, rfl, go1 (v := dv1) rfl (by simp) (wpR_done ?_)⟩
    repeat first | refine retThen ?_ | refine retBlk ?_
    exact ret1 (v := dv1) (by simp) ⟨dv1, rfl, by simpa [encNStr] using hd1, hm1⟩
  | some s =>
    obtain ⟨a, rfl, hc⟩ := hv
    have hc := cell_mod hc hm0 (by simp)
    refine go1 (v := .pointer (some a)) rfl (by simp) ?_
    refine go1 (v := .bool false) rfl (by simp) (wpR_done ?_)
    rw [wpC_cond_f (by simp), wpC_skip]
    simp only [thenC]
    rw [wpC_seq, wpC_blk]
    refine go1 (v := dv) rfl (by simp) ?_
    refine go1 (v := .pointer (some a)) rfl (by simp) ?_
    refine go1 (v := .pointer (some a)) rfl (by simp) ?_
    refine go1 (v := str s) rfl (by simp [hc]) ?_
    refine goCall rfl (vs := [dv, str s]) (by simp) (kAppendString_call hm h0 h1 h2 w0 w dv _ l hm0 hd (by simpa [encNStr] using hlen) rfl) ?_
    rintro e w1 ⟨dv1, rfl, hd1, hm1⟩
    exact ⟨dv1, rfl, go1 (v := dv1) rfl (by simp) (wpR_done (ret1 (v := dv1) (by simp) ⟨dv1, rfl, by simpa [encNStr] using hd1, hm1⟩))⟩
theorem kAppendCompactNullableString_call (hm : P.follows .mixedOrders = true) (h : liftF P (F kAppendCompactNullableString) = some (ir_kAppendCompactNullableString F)) (h0 : liftF P (F kAppendCompactString) = some (ir_kAppendCompactString F)) (h1 : liftF P (F kAppendUvarint) = some (ir_kAppendUvarint F)) (h2 : liftF P (F kUvarintLen) = some (ir_kUvarintLen F)) (h3 : liftF P (F bLen32) = some (ir_bLen32 F))
    {o : Option (List UInt8)} (ho : ∀ s, o = some s → s.length < 4294967295) : AppK P (F kAppendCompactNullableString) (NStr o) (encNStr true o) := by
  intro w0 w dv v l hm0 hd hlen hv
  unfold ir_kAppendCompactNullableString at h
  refine call_of h hm (by simp) ?_
  clear h
  rw [wpC_seq, wpC_blk]
  refine go1 rfl rfl (wpR_done ?_)
  rw [wpC_seq, wpC_seq, wpC_blk]
  cases o with
  | none =>
    have hv : v = .pointer none := hv
    subst hv
    have e0 : uvE 0 = [0] := by rw [uvE_small (by omega)]; rfl
    refine go1 (v := .pointer none) rfl (by simp) ?_
    refine go1 (v := .bool true) rfl (by simp) (wpR_done ?_)
    rw [wpC_cond_t (by simp), wpC_seq, wpC_blk]
    refine go1 (v := dv) rfl (by simp) ?_
    refine goCall rfl (vs := [dv, .int .u32 ((0 : Nat) : Int)]) (by simp) ((AppC.k (kAppendUvarint_call (n := 0) hm h1 h2 h3 (by omega)) fun _ _ _ h => h) w0 w dv _ l hm0 hd (by rw [e0]; simpa [encNStr] using hlen) rfl) ?_
    rintro e w1 ⟨dv1, rfl, hd1, hm1⟩
    refine ⟨dv1, rfl, go1 (v := dv1) rfl (by simp) (wpR_done ?_)⟩
    repeat first | refine retThen ?_ | refine retBlk ?_
    exact ret1 (v := dv1) (by simp) ⟨dv1, rfl, by rw [e0] at hd1; simpa [encNStr] using hd1, hm1⟩
  | some s =>
    obtain ⟨a, rfl, hc⟩ := hv
    have hc := cell_mod hc hm0 (by simp)
    refine go1 (v := .pointer (some a)) rfl (by simp) ?_
    refine go1 (v := .bool false) rfl (by simp) (wpR_done ?_)
    rw [wpC_cond_f (by simp), wpC_skip]
    simp only [thenC]
    rw [wpC_seq, wpC_blk]
    refine go1 (v := dv) rfl (by simp) ?_
    refine go1 (v := .pointer (some a)) rfl (by simp) ?_
    refine go1 (v := .pointer (some a)) rfl (by simp) ?_
    refine go1 (v := str s) rfl (by simp [hc]) ?_
    refine goCall rfl (vs := [dv, str s]) (by simp) (kAppendCompactString_call hm h0 h1 h2 h3 (ho s rfl) w0 w dv _ l hm0 hd (by simpa [encNStr] using hlen) rfl) ?_
    rintro e w1 ⟨dv1, rfl, hd1, hm1⟩
    exact ⟨dv1, rfl, go1 (v := dv1) rfl (by simp) (wpR_done (ret1 (v := dv1) (by simp) ⟨dv1, rfl, by simpa [encNStr] using hd1, hm1⟩))⟩
theorem kAppendBytes_call (hm : P.follows .mixedOrders = true) (h : liftF P (F kAppendBytes) = some (ir_kAppendBytes F)) (h1 : liftF P (F kAppendInt32) = some (ir_kAppendInt32 F)) (h2 : liftF P (F kAppendUint32) = some (ir_kAppendUint32 F)) {s : List UInt8} :
    AppK P (F kAppendBytes) (fun w v => SlC anyB w v s.length (u8s s)) (beI 4 s.length ++ s) := by
  intro w0 w dv v l hm0 hd hlen hv
  unfold ir_kAppendBytes at h
  refine call_of h hm (by simp) ?_
  clear h
  simp only [List.length_append] at hlen
  obtain ⟨vb, vc, ev'⟩ := hv.shape
  rw [wpC_seq, wpC_blk]
  refine go1 rfl rfl (wpR_done ?_)
  rw [wpC_seq, wpC_blk]
  refine go1 (v := dv) rfl (by simp) ?_
  refine go1 (v := v) rfl (by simp) ?_
  refine go1 (v := .int .i64 (s.length : Nat)) rfl (by simp [ev']) ?_
  refine go1 (v := .int .i32 (IntKind.i32.wrap s.length)) rfl (by simp) ?_
  refine goCall rfl (vs := [dv, .int .i32 (IntKind.i32.wrap s.length)]) (by simp) ((AppC.k (kAppendInt32_call (n := IntKind.i32.wrap s.length) hm h1 h2) fun _ _ _ h => h) w0 w dv _ l hm0 hd (by rw [beI_length]; rw [beI_length] at hlen; omega) rfl) ?_
  rintro e w1 ⟨dv1, rfl, hd1, hm1⟩
  have eb : beI 4 (IntKind.i32.wrap s.length) = beI 4 s.length := beI_mod 4 _ _ (by simp only [IntKind.wrap, IntKind.bits, IntKind.signed]; simp; omega)
  rw [eb] at hd1
  refine ⟨dv1, rfl, go1 (v := dv1) rfl (by simp) (wpR_done ?_)⟩
  rw [wpC_seq, wpC_blk]
  refine put_tail (t := 10) (v := v) (by simp) (by simp) (by omega) hm1 hd1 (hv.keep hm1).src (by simp only [List.length_append]; omega) fun σ' w' v' h4 hd' hm' => ?_
  exact ret1 h4 ⟨v', rfl, by simpa [List.append_assoc] using hd', hm'⟩
theorem kAppendCompactBytes_call (hm : P.follows .mixedOrders = true) (h : liftF P (F kAppendCompactBytes) = some (ir_kAppendCompactBytes F)) (h1 : liftF P (F kAppendUvarint) = some (ir_kAppendUvarint F)) (h2 : liftF P (F kUvarintLen) = some (ir_kUvarintLen F)) (h3 : liftF P (F bLen32) = some (ir_bLen32 F)) {s : List UInt8} (hs : s.length < 4294967295) :
    AppK P (F kAppendCompactBytes) (fun w v => SlC anyB w v s.length (u8s s)) (uvE (s.length + 1) ++ s) := by
  intro w0 w dv v l hm0 hd hlen hv
  unfold ir_kAppendCompactBytes at h
  refine call_of h hm (by simp) ?_
  clear h
  simp only [List.length_append] at hlen
  obtain ⟨vb, vc, ev'⟩ := hv.shape
  rw [wpC_seq, wpC_blk]
  refine go1 rfl rfl (wpR_done ?_)
  rw [wpC_seq, wpC_blk]
  refine go1 (v := dv) rfl (by simp) ?_
  refine go1 (v := v) rfl (by simp) ?_
  refine go1 (v := .int .i64 (s.length : Nat)) rfl (by simp [ev']) ?_
  refine go1 (v := .int .u32 (IntKind.u32.wrap s.length)) rfl (by simp) ?_
  refine go1 (v := .int .u32 ((s.length + 1 : Nat) : Int)) rfl (by simp only [RK.val?, ev, updo, upd, if_true, isShift, decide_true, Bool.or_true, one_add_u32 hs]) ?_
  refine goCall rfl (vs := [dv, .int .u32 ((s.length + 1 : Nat) : Int)]) (by simp) ((AppC.k (kAppendUvarint_call (n := s.length + 1) hm h1 h2 h3 (by omega)) fun _ _ _ h => h) w0 w dv _ l hm0 hd (by omega) rfl) ?_
  rintro e w1 ⟨dv1, rfl, hd1, hm1⟩
  refine ⟨dv1, rfl, go1 (v := dv1) rfl (by simp) (wpR_done ?_)⟩
  rw [wpC_seq, wpC_blk]
  refine put_tail (t := 11) (v := v) (by simp) (by simp) (by omega) hm1 hd1 (hv.keep hm1).src (by simp only [List.length_append]; omega) fun σ' w' v' h4 hd' hm' => ?_
  exact ret1 h4 ⟨v', rfl, by simpa [List.append_assoc] using hd', hm'⟩
theorem kAppendCompactArrayLen_call (hm : P.follows .mixedOrders = true) (h : liftF P (F kAppendCompactArrayLen) = some (ir_kAppendCompactArrayLen F)) (h1 : liftF P (F kAppendUvarint) = some (ir_kAppendUvarint F)) (h2 : liftF P (F kUvarintLen) = some (ir_kUvarintLen F)) (h3 : liftF P (F bLen32) = some (ir_bLen32 F)) {n : Nat} (hs : n < 4294967295) :
    AppK P (F kAppendCompactArrayLen) (fun _ v => v = .int .i64 (n : Nat)) (uvE (n + 1)) := by
  intro w0 w dv v l hm0 hd hlen hv
  subst hv
  unfold ir_kAppendCompactArrayLen at h
  refine call_of h hm (by simp) ?_
  clear h
  rw [wpC_seq, wpC_blk]
  refine go1 rfl rfl (wpR_done ?_)
  rw [wpC_seq, wpC_blk]
  refine go1 (v := dv) rfl (by simp) ?_
  refine go1 (v := .int .i64 (n : Nat)) rfl (by simp) ?_
  refine go1 (v := .int .u32 (IntKind.u32.wrap n)) rfl (by simp) ?_
  refine go1 (v := .int .u32 ((n + 1 : Nat) : Int)) rfl (by simp only [RK.val?, ev, updo, upd, if_true, isShift, decide_true, Bool.or_true, one_add_u32 hs]) ?_
  refine goCall rfl (vs := [dv, .int .u32 ((n + 1 : Nat) : Int)]) (by simp) ((AppC.k (kAppendUvarint_call (n := n + 1) hm h1 h2 h3 (by omega)) fun _ _ _ h => h) w0 w dv _ l hm0 hd hlen rfl) ?_
  rintro e w1 ⟨dv1, rfl, hd1, hm1⟩
  exact ⟨dv1, rfl, go1 (v := dv1) rfl (by simp) (wpR_done (ret1 (v := dv1) (by simp) ⟨dv1, rfl, hd1, hm1⟩))⟩
def AppN (P : Program) (f : FuncId) (n : Nat) (null : Bool) (enc : List UInt8) : Prop :=
  ∀ (w0 w : World) (dv : Value) (l : List UInt8), Mod [] w0 w → DRaw w w0.heap.size dv l → l.length + enc.length ≤ lim →
    Calls P f [dv, .int .i64 (n : Nat), .bool null].toArray w fun e w' => ∃ dv', e = .returned dv' ∧ DRaw w' w0.heap.size dv' (l ++ enc) ∧ Mod [] w0 w'
theorem kAppendNullableArrayLen_call (hm : P.follows .mixedOrders = true) (h : liftF P (F kAppendNullableArrayLen) = some (ir_kAppendNullableArrayLen F)) (h1 : liftF P (F kAppendInt32) = some (ir_kAppendInt32 F)) (h2 : liftF P (F kAppendUint32) = some (ir_kAppendUint32 F)) {n : Nat} {null : Bool} :
    AppN P (F kAppendNullableArrayLen) n null (if null then beI 4 (-1) else beI 4 n) := by
  intro w0 w dv l hm0 hd hlen
  unfold ir_kAppendNullableArrayLen at h
  refine call_of h hm (by simp) ?_
  clear h
  rw [wpC_seq, wpC_blk]
  refine go1 rfl rfl (wpR_done ?_)
  rw [wpC_seq, wpC_seq, wpC_blk]
  refine go1 (v := .bool null) rfl (by simp) (wpR_done ?_)
  cases null with
  | true =>
    simp only [if_true] at hlen ⊢
    rw [wpC_cond_t (by simp), wpC_seq, wpC_blk]
    refine go1 (v := dv) rfl (by simp) ?_
    refine goCall rfl (vs := [dv, .int .i32 (-1)]) (by simp) ((AppC.k (kAppendInt32_call (n := -1) hm h1 h2) fun _ _ _ h => h) w0 w dv _ l hm0 hd hlen rfl) ?_
    rintro e w1 ⟨dv1, rfl, hd1, hm1⟩
    refine ⟨dv1, rfl, go1 (v := dv1) rfl (by simp) (wpR_done ?_)⟩
    repeat first | refine retThen ?_ | refine retBlk ?_
    exact ret1 (v := dv1) (by simp) ⟨dv1, rfl, hd1, hm1⟩
  | false =>
    simp only [Bool.false_eq_true, if_false] at hlen ⊢
    rw [wpC_cond_f (by simp), wpC_skip]
    simp only [thenC]
    rw [wpC_seq, wpC_blk]
    refine go1 (v := dv) rfl (by simp) ?_
    refine go1 (v := .int .i64 (n : Nat)) rfl (by simp) ?_
    refine go1 (v := .int .i32 (IntKind.i32.wrap n)) rfl (by simp) ?_
    refine goCall rfl (vs := [dv, .int .i32 (IntKind.i32.wrap n)]) (by simp) ((AppC.k (kAppendInt32_call (n := IntKind.i32.wrap n) hm h1 h2) fun _ _ _ h => h) w0 w dv _ l hm0 hd (by rw [beI_length]; rw [beI_length] at hlen; omega) rfl) ?_
    rintro e w1 ⟨dv1, rfl, hd1, hm1⟩
    have eb : beI 4 (IntKind.i32.wrap n) = beI 4 n := beI_mod 4 _ _ (by simp only [IntKind.wrap, IntKind.bits, IntKind.signed]; simp; omega)
    rw [eb] at hd1
    exact ⟨dv1, rfl, go1 (v := dv1) rfl (by simp) (wpR_done (ret1 (v := dv1) (by simp) ⟨dv1, rfl, hd1, hm1⟩))⟩
theorem kAppendCompactNullableArrayLen_call (hm : P.follows .mixedOrders = true) (h : liftF P (F kAppendCompactNullableArrayLen) = some (ir_kAppendCompactNullableArrayLen F)) (h1 : liftF P (F kAppendUvarint) = some (ir_kAppendUvarint F)) (h2 : liftF P (F kUvarintLen) = some (ir_kUvarintLen F)) (h3 : liftF P (F bLen32) = some (ir_bLen32 F)) {n : Nat} {null : Bool} (hs : n < 4294967295) :
    AppN P (F kAppendCompactNullableArrayLen) n null (if null then [0] else uvE (n + 1)) := by
  intro w0 w dv l hm0 hd hlen
  unfold ir_kAppendCompactNullableArrayLen at h
  refine call_of h hm (by simp) ?_
  clear h
  rw [wpC_seq, wpC_blk]
  refine go1 rfl rfl (wpR_done ?_)
  rw [wpC_seq, wpC_seq, wpC_blk]
  refine go1 (v := .bool null) rfl (by simp) (wpR_done ?_)
  have e0 : uvE 0 = [0] := by rw [uvE_small (by omega)]; rfl
  cases null with
  | true =>
    simp only [if_true] at hlen ⊢
    rw [wpC_cond_t (by simp), wpC_seq, wpC_blk]
    refine go1 (v := dv) rfl (by simp) ?_
    refine goCall rfl (vs := [dv, .int .u32 ((0 : Nat) : Int)]) (by simp) ((AppC.k (kAppendUvarint_call (n := 0) hm h1 h2 h3 (by omega)) fun _ _ _ h => h) w0 w dv _ l hm0 hd (by rw [e0]; exact hlen) rfl) ?_
    rintro e w1 ⟨dv1, rfl, hd1, hm1⟩
    rw [e0] at hd1
    refine ⟨dv1, rfl, go1 (v := dv1) rfl (by simp) (wpR_done ?_)⟩
    repeat first | refine retThen ?_ | refine retBlk ?_
    exact ret1 (v := dv1) (by simp) ⟨dv1, rfl, hd1, hm1⟩
  | false =>
    simp only [Bool.false_eq_true, if_false] at hlen ⊢
    rw [wpC_cond_f (by simp), wpC_skip]
    simp only [thenC]
    rw [wpC_seq, wpC_blk]
    refine go1 (v := dv) rfl (by simp) ?_
    refine go1 (v := .int .i64 (n : Nat)) rfl (by simp) ?_
    refine go1 (v := .int .u32 (IntKind.u32.wrap n)) rfl (by simp) ?_
    refine go1 (v := .int .u32 ((n + 1 : Nat) : Int)) rfl (by simp only [RK.val?, ev, updo, upd, if_true, isShift, decide_true, Bool.or_true, one_add_u32 hs]) ?_
    refine goCall rfl (vs := [dv, .int .u32 ((n + 1 : Nat) : Int)]) (by simp) ((AppC.k (kAppendUvarint_call (n := n + 1) hm h1 h2 h3 (by omega)) fun _ _ _ h => h) w0 w dv _ l hm0 hd hlen rfl) ?_
    rintro e w1 ⟨dv1, rfl, hd1, hm1⟩
    exact ⟨dv1, rfl, go1 (v := dv1) rfl (by simp) (wpR_done (ret1 (v := dv1) (by simp) ⟨dv1, rfl, hd1, hm1⟩))⟩
end
end Go.Msk

namespace Go.Msk
open Go.RowKit
set_option maxRecDepth 100000
def u32v (k : Nat) : Value := .int .u32 k
theorem putObj_size (w : World) (r : Nat) (o : Obj) : (putObj w r o).heap.size = w.heap.size := by simp [putObj]
theorem putObj_other {w : World} {r k : Nat} {o : Obj} (h : k ≠ r) : (putObj w r o).heap[k]? = w.heap[k]? := by
  simp only [putObj]; exact Array.getElem?_setIfInBounds_ne (fun e => h e.symm)
theorem nodup_of_map {α β : Type} {f : α → β} {l : List α} (h : (l.map f).Nodup) : l.Nodup :=
  List.Pairwise.of_map f (fun _ _ hab e => hab (congrArg f e)) h
structure SeenL (es : Array MapEntry) (seen : Array Nat) (E : List MapEntry) : Prop where
  sub : ∀ e ∈ E, e ∈ es.toList
  nd : (E.map (·.born)).Nodup
  all : seen.toList = E.map (·.born)
theorem SeenL.push {es : Array MapEntry} {seen : Array Nat} {E : List MapEntry} {e : MapEntry} (h : SeenL es seen E) (he : e ∈ (leftOf es seen).toList) : SeenL es (seen.push e.born) (E ++ [e]) := by
  obtain ⟨h1, h2⟩ := mem_left he
  refine ⟨fun x hx => ?_, ?_, by simp [h.all]⟩
  · rcases List.mem_append.1 hx with hx | hx
    · exact h.sub x hx
    · simp only [List.mem_singleton] at hx; subst hx; exact h1
  · rw [List.map_append, List.nodup_append]
    refine ⟨h.nd, by simp, fun a ha b hb => ?_⟩
    simp only [List.map_cons, List.map_nil, List.mem_singleton] at hb
    subst hb
    intro e'
    subst e'
    rw [← h.all] at ha
    have : seen.contains e.born = true := by simpa using ha
    rw [this] at h2; simp at h2
theorem SeenL.perm {es : Array MapEntry} {seen : Array Nat} {E : List MapEntry} (h : SeenL es seen E) (hb : (es.toList.map (·.born)).Nodup) (h0 : (leftOf es seen).size = 0) : E.Perm es.toList := by
  have hE : E.Nodup := nodup_of_map h.nd
  have hes : es.toList.Nodup := nodup_of_map hb
  refine (List.perm_ext_iff_of_nodup hE hes).2 fun x => ⟨fun hx => h.sub x hx, fun hx => ?_⟩
  have hc := all_seen es seen h0 x hx
  have : x.born ∈ seen.toList := by simpa using hc
  rw [h.all] at this
  obtain ⟨y, hy, hyx⟩ := List.mem_map.1 this
  have := born_inj hb (h.sub y hy) hx hyx
  exact this ▸ hy
theorem SeenL.lt {es : Array MapEntry} {seen : Array Nat} {E : List MapEntry} {e : MapEntry} (h : SeenL es seen E) (_hb : (es.toList.map (·.born)).Nodup) (he : e ∈ (leftOf es seen).toList) : E.length < es.size := by
  have h2 := h.push he
  have hE : (E ++ [e]).Nodup := nodup_of_map h2.nd
  have := hE.length_le_of_subset (l₂ := es.toList) h2.sub
  simp only [List.length_append, List.length_cons, List.length_nil, Array.length_toList] at this
  omega
section
variable {P : Program} {F : Nat → Nat}
structure KeyS (w0 : World) (w : World) (σ : Sl) (it Bs B r n : Nat) (es : Array MapEntry) (clock : Nat) (E : List MapEntry) : Prop where
  s24 : σ 24 = .pointer (some ⟨it, 0, none⟩)
  s4 : σ 4 = .pointer (some ⟨Bs, 0, none⟩)
  map : w.heap[r]? = some (.map es clock)
  iter : ∃ seen, w.heap[it]? = some (.mapIter (some r) clock seen clock) ∧ SeenL es seen E
  cell : Blk w Bs [.slice (some ⟨B, 0, none⟩) E.length n]
  row : ∃ rest, Blk w B (E.map (·.key) ++ rest) ∧ E.length + rest.length = n
  fr : Mod [] w0 w
  ne1 : it ≠ Bs
  ne2 : it ≠ B
  ne3 : Bs ≠ B
  nr : r ≠ it ∧ r ≠ Bs ∧ r ≠ B
  hn : n = es.size
  old1 : w0.heap.size ≤ it
  old2 : w0.heap.size ≤ Bs
  old3 : w0.heap.size ≤ B
theorem each_loop1 {w0 w : World} {σ : Sl} {it Bs B r n : Nat} {es : Array MapEntry} {clock : Nat} {Q : Exit → Sl → World → Prop} (h : KeyS w0 w σ it Bs B r n es clock []) (hk : keysAre .u32 es) (hb : (es.toList.map (·.born)).Nodup) (hold : ∀ e ∈ es.toList, e.born < clock)
    (hQ : ∀ σ' w' E, (∀ j, j < 25 → j ≠ 5 → σ' j = σ j) → KeyS w0 w' σ' it Bs B r n es clock E → E.Perm es.toList → Q .normal σ' w') :
    wpC P (.block 0 (.loop (.seq (.blk [⟨some 25, .mnext (.tmp 24), none⟩, ⟨some 26, .ext (.tmp 25) 0, none⟩])
        (.seq (.cond (.tmp 26) .skip (.exit 0))
        (.block 1 (.seq (.blk [⟨some 27, .mentry (.tmp 24), none⟩, ⟨some 28, .ext (.tmp 27) 0, none⟩, ⟨some 5, .mv (.tmp 28), none⟩])
          (.blk [⟨some 29, .ld (.tmp 4), none⟩, ⟨some 30, .mv (.tmp 5), none⟩, ⟨some 31, .bslice 1 [.int .u32 0] [(0, 1, .tmp 30)], none⟩, ⟨some 32, .append (.tmp 29) (.tmp 31) 1 4, none⟩, ⟨none, .st (.tmp 4) 1 (.tmp 32), none⟩]))))))) Q σ w := by
  rw [wpC_block, wpC_loop]
  refine ⟨fun σ' w' => ∃ E, (∀ j, j < 25 → j ≠ 5 → σ' j = σ j) ∧ KeyS w0 w' σ' it Bs B r n es clock E, fun _ w' => (leftOf es (w'.iterSeen it)).size, ⟨[], fun _ _ _ => rfl, h⟩, ?_⟩
  rintro σ1 w1 ⟨E, ag, hS⟩
  obtain ⟨seen, hit, hE⟩ := hS.iter
  have hseen : w1.iterSeen it = seen := by unfold World.iterSeen; rw [hit]
  rw [wpC_seq, wpC_blk]
  refine wpR_run ?_
  simp only [RK.run, ev, hS.s24, hit, hS.map]
  refine ⟨hold, Nat.le_refl _, fun h0 => ?_, fun e he w2 hw2 => ?_⟩
  · -- no entry is left
    refine wpR_step (v := .bool false) (by simp only [RK.val?, ev, updo, upd, if_true]; rfl) ?_
    refine wpR_done ?_
    rw [wpC_seq, wpC_cond_f rfl]
    refine wpC_exit_out3 ?_
    refine hQ _ w1 E (fun j hj h5 => ?_) ?_ (hE.perm hb h0)
    · simp only [updo, upd, show j ≠ 26 by omega, show j ≠ 25 by omega, if_false]; exact ag j hj h5
    · exact { hS with s24 := by simp [updo, upd, hS.s24], s4 := by simp [updo, upd, hS.s4] }
  · -- an entry
    have hsz2 : w2.heap = w1.heap := by rcases hw2 with rfl | rfl <;> rfl
    have hm2 : Mod [] w1 w2 := by
      rcases hw2 with rfl | rfl
      · exact Mod.refl _ _
      · exact Mod.drew _ _
    have hitl : it < w2.heap.size := by rw [hsz2]; exact (Array.getElem?_eq_some_iff.1 hit).1
    refine wpR_step (v := .bool true) (by simp only [RK.val?, ev, updo, upd, if_true]; rfl) ?_
    refine wpR_done ?_
    rw [wpC_seq, wpC_cond_t rfl, wpC_skip]
    simp only [thenC]
    rw [wpC_block, wpC_seq, wpC_blk]
    have hpm : Mod [it] w2 (putObj w2 it (.mapIter (some r) clock (seen.push e.born) clock)) := Mod.putObj (by simp)
    have hget : (putObj w2 it (.mapIter (some r) clock (seen.push e.born) clock)).heap[it]? = some (.mapIter (some r) clock (seen.push e.born) clock) := putObj_get hitl
    have hmp : (putObj w2 it (.mapIter (some r) clock (seen.push e.born) clock)).heap[r]? = some (.map es clock) := by
      rw [putObj_other hS.nr.1, hsz2]; exact hS.map
    obtain ⟨rest, hrow, hlen⟩ := hS.row
    have hcell := (hS.cell.mod hm2 (by simp)).mod hpm (by simpa using hS.ne1.symm)
    have hrow := (hrow.mod hm2 (by simp)).mod hpm (by simpa using hS.ne2.symm)
    have hpsz : (putObj w2 it (.mapIter (some r) clock (seen.push e.born) clock)).heap.size = w2.heap.size := putObj_size _ _ _
    have hm3 : Mod [it] w1 (putObj w2 it (.mapIter (some r) clock (seen.push e.born) clock)) := hm2.nil.trans hpm
    generalize hw3 : putObj w2 it (.mapIter (some r) clock (seen.push e.born) clock) = w3 at hpm hget hmp hcell hrow hpsz hm3 ⊢
    obtain ⟨k, hkk⟩ := hk e (mem_left he).1
    have hlt := hE.lt hb he
    have hnn := hS.hn
    refine wpR_run ?_
    simp only [RK.run, ev, updo, upd, show (24 : Nat) ≠ 26 by decide, show (24 : Nat) ≠ 25 by decide, if_false, hS.s24, hget, hmp]
    refine ⟨trivial, e, (mem_left he).1, hb, by simp, ?_⟩
    refine wpR_step (v := e.key) (by simp only [RK.val?, ev, upd, if_true]; rfl) ?_
    refine wpR_step (v := e.key) (by simp only [RK.val?, ev, updo, upd, if_true]) ?_
    refine wpR_done ?_
    rw [wpC_blk]
    refine wpR_step (v := .slice (some ⟨B, 0, none⟩) E.length n) (by simp only [RK.val?, ev, updo, upd]; simp [hS.s4, hcell.cell]) ?_
    refine wpR_step (v := e.key) (by simp only [RK.val?, ev, updo, upd]; simp) ?_
    refine wpR_run ?_
    have hkc : e.key.cells = #[e.key] := by rw [hkk]; rfl
    have hko : e.key.oneCell' = true := by rw [hkk]; rfl
    simp only [RK.run, List.map_cons, List.map_nil, ev, updo, upd, if_true, zrep, List.replicate_succ, List.replicate_zero, List.flatten_cons, List.flatten_nil, List.append_nil, fillL, hkc]
    have hspl : splice [Value.int .u32 0] 0 [e.key] = [e.key] := splice_all rfl
    simp only [List.size_toArray, List.length_cons, List.length_nil, Nat.zero_add, Nat.le_refl, and_self, if_true, hspl]
    intro Tn
    have bA := Blk.new w3 [e.key] Tn
    have mA : Mod [] w3 (w3.alloc (.cells [e.key].toArray Tn)) := Mod.alloc _ _ _
    have zA : (w3.alloc (.cells [e.key].toArray Tn)).heap.size = w3.heap.size + 1 := by simp
    have hcell4 := hcell.mod mA (by simp)
    have hrow4 := hrow.mod mA (by simp)
    have hget4 : (w3.alloc (.cells [e.key].toArray Tn)).heap[it]? = some (.mapIter (some r) clock (seen.push e.born) clock) := by rw [mA.block it (by omega) (by simp)]; exact hget
    have hrl : r < w3.heap.size := (Array.getElem?_eq_some_iff.1 hmp).1
    have hmp4 : (w3.alloc (.cells [e.key].toArray Tn)).heap[r]? = some (.map es clock) := by rw [mA.block r hrl (by simp)]; exact hmp
    generalize w3.alloc (.cells [e.key].toArray Tn) = w4 at bA mA zA hcell4 hrow4 hget4 hmp4 ⊢
    refine wpR_run ?_
    have hsrc : srcCells w4 1 (.slice (some ⟨w3.heap.size, 0, none⟩) 1 1) = some (1, [e.key]) := by
      simp only [srcCells, Nat.mul_one]
      rw [cellsAt_of' bA.cells (n := 1) rfl]; rfl
    simp only [RK.run, ev, updo, upd, show (29 : Nat) ≠ 31 by decide, show (29 : Nat) ≠ 30 by decide, if_false, if_true, hsrc, appendRun]
    rw [if_pos (by omega)]
    simp only [Addr.add_mk, Nat.zero_add, Nat.mul_one]
    obtain ⟨x, rest', rfl⟩ : ∃ x r', rest = x :: r' := by cases rest with | nil => simp at hlen; omega | cons x r' => exact ⟨x, r', rfl⟩
    simp only [List.length_cons] at hlen
    refine ⟨stOk_one hrow4 (by simp) hko, ?_⟩
    have hput : Mod [B] w4 (putCells w4 ⟨B, E.length, none⟩ 0 [e.key]) := Mod.put (by simp)
    have hp := hrow4.put (o := E.length) (vs := [e.key]) (by simp)
    have hsp2 : splice (E.map (·.key) ++ x :: rest') E.length [e.key] = (E ++ [e]).map (·.key) ++ rest' := by
      have h1 : (E.map (·.key) ++ x :: rest').take E.length = E.map (·.key) := List.take_left' (by simp)
      have h2 : (E.map (·.key) ++ x :: rest').drop (E.length + [e.key].length) = rest' := by
        rw [show E.map (·.key) ++ x :: rest' = (E.map (·.key) ++ [x]) ++ rest' by simp]
        exact List.drop_left' (by simp)
      unfold splice
      rw [h1, h2]; simp
    rw [hsp2] at hp
    have hcell5 := hcell4.mod hput (by simpa using hS.ne3)
    have hget5 : (putCells w4 ⟨B, E.length, none⟩ 0 [e.key]).heap[it]? = some (.mapIter (some r) clock (seen.push e.born) clock) := by
      rw [hput.block it (by omega) (by simpa using hS.ne2)]; exact hget4
    have hmp5 : (putCells w4 ⟨B, E.length, none⟩ 0 [e.key]).heap[r]? = some (.map es clock) := by
      rw [hput.block r (by omega) (by simpa using hS.nr.2.2)]; exact hmp4
    have zB : (putCells w4 ⟨B, E.length, none⟩ 0 [e.key]).heap.size = w4.heap.size := size_putCells ..
    generalize putCells w4 ⟨B, E.length, none⟩ 0 [e.key] = w5 at hput hp hcell5 hget5 hmp5 zB ⊢
    refine wpR_run ?_
    have ec : (Value.slice (some ⟨B, 0, none⟩) (E.length + 1) n).cells = #[.slice (some ⟨B, 0, none⟩) (E.length + 1) n] := rfl
    have hput6 : Mod [Bs] w5 (putCells w5 ⟨Bs, 0, none⟩ 0 [.slice (some ⟨B, 0, none⟩) (E.length + 1) n]) := Mod.put (by simp)
    have hp6 := hcell5.put (o := 0) (vs := [.slice (some ⟨B, 0, none⟩) (E.length + 1) n]) (by simp)
    rw [splice_all (by rfl)] at hp6
    simp only [RK.run, ev, updo, upd, if_true, show (4 : Nat) ≠ 32 by decide, show (4 : Nat) ≠ 31 by decide, show (4 : Nat) ≠ 30 by decide, show (4 : Nat) ≠ 29 by decide, show (4 : Nat) ≠ 5 by decide, show (4 : Nat) ≠ 28 by decide, show (4 : Nat) ≠ 27 by decide, show (4 : Nat) ≠ 26 by decide, show (4 : Nat) ≠ 25 by decide, if_false, hS.s4, ec]
    refine ⟨rfl, stOk_one hcell5 (by simp) rfl, ?_⟩
    have hget6 : (putCells w5 ⟨Bs, 0, none⟩ 0 [.slice (some ⟨B, 0, none⟩) (E.length + 1) n]).heap[it]? = some (.mapIter (some r) clock (seen.push e.born) clock) := by
      rw [hput6.block it (by omega) (by simpa using hS.ne1)]; exact hget5
    have hmp6 : (putCells w5 ⟨Bs, 0, none⟩ 0 [.slice (some ⟨B, 0, none⟩) (E.length + 1) n]).heap[r]? = some (.map es clock) := by
      rw [hput6.block r (by omega) (by simpa using hS.nr.2.1)]; exact hmp5
    simp only [wpR, inBlockC, thenC]
    refine ⟨⟨E ++ [e], fun j hj h5 => ?_, ?_⟩, ?_⟩
    · simp only [upd, show j ≠ 32 by omega, show j ≠ 31 by omega, show j ≠ 30 by omega, show j ≠ 29 by omega, h5, show j ≠ 28 by omega, show j ≠ 27 by omega, show j ≠ 26 by omega, show j ≠ 25 by omega, if_false]; exact ag j hj h5
    · refine { hS with s24 := by simp [upd, hS.s24], s4 := by simp [upd, hS.s4], map := hmp6, iter := ⟨_, hget6, hE.push he⟩, cell := by simpa using hp6, row := ⟨rest', hp.mod hput6 (by simpa using hS.ne3.symm), by simp; omega⟩, fr := ?_ }
      have o1 := hS.old1; have o2 := hS.old2; have o3 := hS.old3
      refine Mod.drop (b := it) (S := []) ?_ o1
      refine Mod.drop (b := Bs) (S := [it]) ?_ o2
      refine Mod.drop (b := B) (S := [Bs, it]) ?_ o3
      exact (((hS.fr.mono (by simp)).trans (hm3.mono (by simp))).trans (mA.mono (by simp))).trans ((hput.mono (by simp)).trans (hput6.mono (by simp)))
    · have h6 : (putCells w5 ⟨Bs, 0, none⟩ 0 [.slice (some ⟨B, 0, none⟩) (E.length + 1) n]).iterSeen it = seen.push e.born := by unfold World.iterSeen; rw [hget6]
      rw [hseen, h6]
      exact left_shrinks es seen e he
end
end Go.Msk

namespace Go.Msk
open Go.RowKit
set_option maxRecDepth 100000
def getT (m : List (Nat × List UInt8)) (k : Nat) : List UInt8 := match m.find? (fun p => k == p.1) with | some p => p.2 | none => []
theorem insT_perm (k : Nat) (l : List UInt8) : ∀ m : List (Nat × List UInt8), (insT k l m).Perm ((k, l) :: m)
  | [] => .refl _
  | (k', l') :: m => by
    simp only [insT]
    split
    · exact .refl _
    · exact ((insT_perm k l m).cons _).trans (.swap _ _ _)
theorem sortT_perm : ∀ m : List (Nat × List UInt8), (sortT m).Perm m
  | [] => .refl _
  | (k, l) :: m => (insT_perm k l (sortT m)).trans ((sortT_perm m).cons _)
theorem insT_sorted (k : Nat) (l : List UInt8) : ∀ m : List (Nat × List UInt8), m.Pairwise (fun a b => a.1 ≤ b.1) → (insT k l m).Pairwise (fun a b => a.1 ≤ b.1)
  | [], _ => by simp [insT]
  | (k', l') :: m, h => by
    simp only [insT]
    rw [List.pairwise_cons] at h
    split
    · rename_i hk
      refine List.pairwise_cons.2 ⟨fun b hb => ?_, List.pairwise_cons.2 h⟩
      rcases List.mem_cons.1 hb with rfl | hb
      · exact Nat.le_of_lt hk
      · have := h.1 b hb; simp only at this ⊢; omega
    · rename_i hk
      refine List.pairwise_cons.2 ⟨fun b hb => ?_, insT_sorted k l m h.2⟩
      have := (insT_perm k l m).mem_iff.1 hb
      rcases List.mem_cons.1 this with rfl | hb
      · simp only; omega
      · exact h.1 b hb
theorem sortT_sorted : ∀ m : List (Nat × List UInt8), (sortT m).Pairwise (fun a b => a.1 ≤ b.1)
  | [] => .nil
  | (k, l) :: m => insT_sorted k l _ (sortT_sorted m)
theorem getT_mem : ∀ {m : List (Nat × List UInt8)} (p : Nat × List UInt8), (m.map (·.1)).Nodup → p ∈ m → getT m p.1 = p.2
  | [], p, _, h => by simp at h
  | q :: m, p, hn, h => by
    unfold getT
    rw [List.find?_cons]
    rw [List.map_cons, List.nodup_cons] at hn
    rcases List.mem_cons.1 h with rfl | h
    · simp
    · have hne : ¬ p.1 = q.1 := fun e => hn.1 (by rw [← e]; exact List.mem_map.2 ⟨p, h, rfl⟩)
      have : (p.1 == q.1) = false := by simpa using hne
      rw [this]
      exact getT_mem p hn.2 h
theorem sortT_eq {m : List (Nat × List UInt8)} {ks : List Nat} (hn : (m.map (·.1)).Nodup) (hp : ks.Perm (m.map (·.1))) (hs : ks.Pairwise (· ≤ ·)) : ks.map (fun k => (k, getT m k)) = sortT m := by
  have h1 : (m.map (·.1)).map (fun k => (k, getT m k)) = m := by
    rw [List.map_map]
    conv => rhs; rw [← List.map_id m]
    apply List.map_congr_left
    intro p hp
    simp only [Function.comp, id, getT_mem p hn hp]
  have h2 : (ks.map (fun k => (k, getT m k))).Perm m := by
    have := hp.map (fun k => (k, getT m k))
    rwa [h1] at this
  refine List.Perm.eq_of_pairwise (le := fun a b => a.1 ≤ b.1) (fun a b ha hb hab hba => ?_) ?_ (sortT_sorted m) (h2.trans (sortT_perm m).symm)
  · have ha' := h2.mem_iff.1 ha
    have hb' := (sortT_perm m).mem_iff.1 hb
    have e : a.1 = b.1 := Nat.le_antisymm hab hba
    have x1 := getT_mem a hn ha'
    have x2 := getT_mem b hn hb'
    rw [e] at x1
    exact Prod.ext e (x1.symm.trans x2)
  · exact List.Pairwise.map _ (fun a b h => h) hs
theorem EntL.get {ok : Nat → Prop} {w : World} {es : List MapEntry} {m : List (Nat × List UInt8)} (h : EntL ok w es m) {k : Nat} (hk : k ∈ m.map (·.1)) : ∃ e, es.find? (keyIs k) = some e ∧ SlC ok w e.val (getT m k).length (u8s (getT m k)) := by
  induction h with
  | nil => simp at hk
  | @cons e k' l es m h1 h2 h3 h4 ih =>
    have hki : keyIs k e = decide (k = k') := by
      unfold keyIs; rw [h1]
      by_cases hkk : k = k'
      · simp [hkk]
      · have : ¬ (k : Int) = k' := by omega
        simp [hkk, this]
    rw [List.find?_cons, hki]
    by_cases hkk : k = k'
    · refine ⟨e, by simp [hkk], ?_⟩
      have : getT ((k', l) :: m) k = l := by unfold getT; simp [hkk]
      rw [this]; exact h3
    · simp only [List.map_cons, List.mem_cons, hkk, false_or] at hk
      obtain ⟨x, hx1, hx2⟩ := ih hk
      refine ⟨x, by simp [hkk, hx1], ?_⟩
      have : getT ((k', l) :: m) k = getT m k := by unfold getT; rw [List.find?_cons, show (k == k') = false by simpa using hkk]
      rw [this]; exact hx2
theorem EntL.len {ok : Nat → Prop} {w : World} {es : List MapEntry} {m : List (Nat × List UInt8)} (h : EntL ok w es m) : es.length = m.length := by
  induction h with
  | nil => rfl
  | cons _ _ _ _ ih => simp [ih]
theorem EntL.klist {ok : Nat → Prop} {w : World} {es : List MapEntry} {m : List (Nat × List UInt8)} (h : EntL ok w es m) : es.map (·.key) = (m.map (·.1)).map u32v := by
  induction h with
  | nil => rfl
  | cons h1 _ _ _ ih => simp [ih, h1, u32v]
theorem EntL.lt32 {ok : Nat → Prop} {w : World} {es : List MapEntry} {m : List (Nat × List UInt8)} (h : EntL ok w es m) : ∀ k ∈ m.map (·.1), k < 4294967296 := by
  induction h with
  | nil => simp
  | cons _ h2 _ _ ih =>
    intro k hk
    rw [List.map_cons] at hk
    rcases List.mem_cons.1 hk with rfl | hk
    · exact h2
    · exact ih k hk
theorem map_perm_inj : ∀ {a b : List Nat}, (a.map u32v).Perm (b.map u32v) → a.Perm b := by
  intro a b h
  have hd : ∀ l : List Nat, (l.map u32v).map (fun v => match v with | .int _ n => n.toNat | _ => 0) = l := by
    intro l
    rw [List.map_map]
    conv => rhs; rw [← List.map_id l]
    apply List.map_congr_left
    intro k _; simp [u32v]
  have := h.map (fun v => match v with | .int _ n => n.toNat | _ => 0)
  rwa [hd, hd] at this
def SortC (P : Program) (f g : FuncId) (T : TypeId) : Prop :=
  ∀ (w : World) (B Bs : Nat) (ks : List Nat), Blk w B (ks.map u32v) → Blk w Bs [.slice (some ⟨B, 0, none⟩) ks.length ks.length] → Bs ≠ B → ks.length ≤ 2147483647 → (∀ k ∈ ks, k < 4294967296) →
    Calls P f #[.iface T (.slice (some ⟨B, 0, none⟩) ks.length ks.length), .func (.func g) #[] #[.pointer (some ⟨Bs, 0, none⟩)]] w fun e w' =>
      e = .returned (.tuple #[]) ∧ ∃ ks' : List Nat, ks'.Perm ks ∧ ks'.Pairwise (· ≤ ·) ∧ Blk w' B (ks'.map u32v) ∧ Mod [B] w w'
end Go.Msk

namespace Go.Msk
open Go.RowKit
set_option maxRecDepth 100000
section
variable {P : Program} {F : Nat → Nat}
def EachCB (P : Program) (w0 : World) (S : List Nat) (okv : Nat → Prop) (g : FuncId) (captured : List Value) (I : World → List (Nat × List UInt8) → World → Prop) (all : List (Nat × List UInt8)) : Prop :=
  ∀ (wN : World) (done : List (Nat × List UInt8)) (k : Nat) (l : List UInt8) (w1 : World) (v : Value), (∃ r, all = done ++ (k, l) :: r) → Mod [] w0 wN → I wN done w1 → done.length < 2147483647 → Mod S wN w1 → k < 4294967296 → l.length ≤ 2147483647 → SlC okv w1 v l.length (u8s l) →
    Calls P g ([u32v k, v] ++ captured).toArray w1 fun e w2 => e = .returned (.tuple #[]) ∧ I wN (done ++ [(k, l)]) w2 ∧ Mod S wN w2
theorem getT_len {m : List (Nat × List UInt8)} (h : ∀ p ∈ m, p.2.length ≤ 2147483647) (k : Nat) : (getT m k).length ≤ 2147483647 := by
  unfold getT
  cases hf : m.find? (fun p => k == p.1) with
  | none => simp
  | some p => exact h p (List.mem_of_find?_eq_some hf)
theorem each_loop2 {w0 wN w : World} {S : List Nat} {okv : Nat → Prop} {g : FuncId} {captured : List Value} {I : World → List (Nat × List UInt8) → World → Prop} {m : List (Nat × List UInt8)} {ks : List Nat} (hcb : EachCB P w0 S okv g captured I (ks.map fun k => (k, getT m k))) (hbody : hasBody P g = true)
    {σ : Sl} {B o R r : Nat} {Q : Exit → Sl → World → Prop} (h0 : σ 0 = .pointer (some ⟨B, o, none⟩)) (h1 : σ 1 = .func (.func g) #[] captured.toArray) (h37 : σ 37 = .slice (some ⟨R, 0, none⟩) ks.length ks.length)
    (h38 : σ 38 = .int .i64 ks.length) (h39 : σ 39 = .int .i64 0) (hmN : Mod [] w0 wN) (hw : w = wN) (hrow : Blk wN R (ks.map u32v)) (hcell : wN.cell? ⟨B, o, none⟩ = some (.map (some r))) (hM : MapRep okv wN r m) (hB : B ∉ S) (hr : r ∉ S) (hR : R ∉ S) (hS : ∀ b ∈ S, ¬ okv b)
    (hmv : ∀ p ∈ m, p.2.length ≤ 2147483647) (hks : ∀ k ∈ ks, k ∈ m.map (·.1)) (hlen : ks.length ≤ 2147483647) (hI : I wN [] wN)
    (hQ : ∀ σ' w', I wN (ks.map fun k => (k, getT m k)) w' → Mod S wN w' → Q .normal σ' w') :
    wpC P (.block 2 (.loop (.seq (.blk [⟨some 40, .bin .lss (.tmp 39) (.tmp 38), none⟩])
        (.seq (.cond (.tmp 40) .skip (.exit 2))
        (.seq (.block 3 (.seq (.blk [⟨some 41, .iad (.tmp 37) (.tmp 39) 1, none⟩, ⟨some 42, .ld (.tmp 41), none⟩, ⟨some 7, .mv (.tmp 42), none⟩])
          (.blk [⟨some 43, .mv (.tmp 1), none⟩, ⟨some 44, .mv (.tmp 7), none⟩, ⟨some 45, .mv (.tmp 0), none⟩, ⟨some 46, .nilc (.tmp 45), none⟩, ⟨some 47, .fad (.tmp 46) 0, none⟩, ⟨some 48, .ld (.tmp 47), none⟩, ⟨some 49, .mv (.tmp 7), none⟩,
            ⟨some 50, .mlook (.tmp 48) (.tmp 49) (.slice none 0 0), none⟩, ⟨some 51, .callv (.tmp 43) [.tmp 44, .tmp 50], none⟩])))
        (.blk [⟨some 52, .bin .add (.tmp 39) (.const (.int .i64 1)), none⟩, ⟨some 39, .mv (.tmp 52), none⟩])))))) Q σ w := by
  subst hw
  rw [wpC_block, wpC_loop]
  refine ⟨fun σ' w' => ∃ i, i ≤ ks.length ∧ σ' 0 = .pointer (some ⟨B, o, none⟩) ∧ σ' 1 = .func (.func g) #[] captured.toArray ∧ σ' 37 = .slice (some ⟨R, 0, none⟩) ks.length ks.length ∧ σ' 38 = .int .i64 ks.length ∧ σ' 39 = .int .i64 (i : Nat) ∧
      I w ((ks.take i).map fun k => (k, getT m k)) w' ∧ Mod S w w', fun σ' _ => match σ' 39 with | .int _ i => ks.length - i.toNat | _ => 0, ⟨0, Nat.zero_le _, h0, h1, h37, h38, h39, by simpa using hI, Mod.refl _ _⟩, ?_⟩
  rintro σ1 w1 ⟨i, hi, s0, s1, s37, s38, s39, hI1, hm1⟩
  rw [wpC_seq, wpC_blk]
  refine wpR_step (v := .bool (decide (i < ks.length))) (by
    simp only [RK.val?, ev, s39, s38, isShift, decide_true, Bool.or_true, if_true, intBin]
    congr 2; exact decide_eq_decide.2 (by omega)) ?_
  refine wpR_done ?_
  by_cases hlt : i < ks.length
  · rw [wpC_seq, wpC_cond_t (by simp only [ev, updo, upd, if_true, hlt, decide_true]), wpC_skip]
    simp only [thenC]
    rw [wpC_seq, wpC_block, wpC_seq, wpC_blk]
    have hki : ks[i]? = some ks[i] := List.getElem?_eq_getElem hlt
    have hkm := hks ks[i] (List.getElem_mem hlt)
    have htk : ks.take (i + 1) = ks.take i ++ [ks[i]] := (List.take_append_getElem hlt).symm
    generalize ks[i] = k at hki hkm htk
    have c41 : w1.cell? ⟨R, i, none⟩ = some (u32v k) := by
      have := (hrow.mod hm1 hR).cell i
      rw [this, List.getElem?_map, hki]; rfl
    refine wpR_step (v := .pointer (some ⟨R, i, none⟩)) (by
      simp only [RK.val?, ev, updo, upd, show (37 : Nat) ≠ 40 by decide, show (39 : Nat) ≠ 40 by decide, if_false, s37, s39]
      rw [if_pos (by omega)]
      simp [Addr.add_mk]) ?_
    refine wpR_step (v := u32v k) (by simp only [RK.val?, ev, updo, upd, if_true, c41]) ?_
    refine wpR_step (v := u32v k) (by simp only [RK.val?, ev, updo, upd, if_true]) ?_
    refine wpR_done ?_
    rw [wpC_blk]
    have hcell1 : w1.cell? ⟨B, o, none⟩ = some (.map (some r)) := cell_mod hcell hm1 hB
    have hM1 := hM.mod (ok' := okv) hm1 hr hS fun _ _ h => h
    obtain ⟨es, clock, he1, he2, he3, he4⟩ := hM1.ex
    obtain ⟨e, hf, hv⟩ := he2.get hkm
    have hk32 := he2.lt32 k hkm
    have hmg : mapGet es k (.slice none 0 0) = e.val := by unfold mapGet; rw [hf]
    refine wpR_step (v := .func (.func g) #[] captured.toArray) (by simp only [RK.val?, ev, updo, upd]; simp [s1]) ?_
    refine wpR_step (v := u32v k) (by simp only [RK.val?, ev, updo, upd]; simp) ?_
    refine wpR_step (v := .pointer (some ⟨B, o, none⟩)) (by simp only [RK.val?, ev, updo, upd]; simp [s0]) ?_
    refine wpR_step (v := .pointer (some ⟨B, o, none⟩)) (by simp only [RK.val?, ev, updo, upd, if_true]) ?_
    refine wpR_step (v := .pointer (some ⟨B, o, none⟩)) (by simp only [RK.val?, ev, updo, upd, if_true, Addr.add_mk, Nat.add_zero]) ?_
    refine wpR_step (v := .map (some r)) (by simp only [RK.val?, ev, updo, upd, if_true, hcell1]) ?_
    refine wpR_step (v := u32v k) (by simp only [RK.val?, ev, updo, upd]; simp) ?_
    refine wpR_run ?_
    simp only [RK.run, ev, updo, upd, show (48 : Nat) ≠ 49 by decide, if_false, if_true, u32v, he1]
    refine ⟨he2.keys, ?_⟩
    rw [hmg]
    refine wpR_run ?_
    have hc := hcb w ((ks.take i).map fun k => (k, getT m k)) k (getT m k) w1 e.val ⟨(ks.drop (i + 1)).map fun k => (k, getT m k), by
      have : ks = ks.take i ++ k :: ks.drop (i + 1) := by
        have h1 := (List.take_append_drop (i + 1) ks).symm
        rw [htk, List.append_assoc] at h1
        exact h1
      conv => lhs; rw [this]
      simp⟩ hmN hI1 (by simp only [List.length_map, List.length_take]; omega) hm1 hk32 (getT_len hmv k) hv
    simp only [RK.run, ev, updo, upd, show (43 : Nat) ≠ 50 by decide, show (43 : Nat) ≠ 49 by decide, show (43 : Nat) ≠ 48 by decide, show (43 : Nat) ≠ 47 by decide, show (43 : Nat) ≠ 46 by decide, show (43 : Nat) ≠ 45 by decide, show (43 : Nat) ≠ 44 by decide,
      show (44 : Nat) ≠ 50 by decide, show (44 : Nat) ≠ 49 by decide, show (44 : Nat) ≠ 48 by decide, show (44 : Nat) ≠ 47 by decide, show (44 : Nat) ≠ 46 by decide, show (44 : Nat) ≠ 45 by decide, if_false, if_true, List.map_cons, List.map_nil, List.nil_append]
    refine ⟨hbody, hc.mono ?_⟩
    rintro en w2 ⟨rfl, hI2, hm2⟩
    refine ⟨_, rfl, ?_⟩
    simp only [wpR, inBlockC, thenC]
    rw [wpC_blk]
    refine wpR_step (v := .int .i64 ((i + 1 : Nat) : Int)) (by
      simp only [RK.val?, ev, upd, show (39 : Nat) ≠ 51 by decide, show (39 : Nat) ≠ 50 by decide, show (39 : Nat) ≠ 49 by decide, show (39 : Nat) ≠ 48 by decide, show (39 : Nat) ≠ 47 by decide, show (39 : Nat) ≠ 46 by decide, show (39 : Nat) ≠ 45 by decide, show (39 : Nat) ≠ 44 by decide, show (39 : Nat) ≠ 43 by decide, show (39 : Nat) ≠ 7 by decide, show (39 : Nat) ≠ 42 by decide, show (39 : Nat) ≠ 41 by decide, show (39 : Nat) ≠ 40 by decide, if_false, s39, isShift, decide_true, Bool.or_true, if_true, intBin]
      have e1 : (i : Int) + 1 = ((i + 1 : Nat) : Int) := by omega
      rw [e1, i64_small (by omega) (by omega)]) ?_
    refine wpR_step (v := .int .i64 ((i + 1 : Nat) : Int)) (by simp only [RK.val?, ev, updo, upd, if_true]) ?_
    simp only [wpR]
    refine ⟨⟨i + 1, by omega, by simp [updo, upd, s0], by simp [updo, upd, s1], by simp [updo, upd, s37], by simp [updo, upd, s38], by simp only [updo, upd, if_true], ?_, hm2⟩, ?_⟩
    · rw [htk, List.map_append]; exact hI2
    · simp only [updo, upd, if_true, s39]; omega
  · rw [wpC_seq, wpC_cond_f (by simp only [ev, updo, upd, if_true, hlt, decide_false])]
    refine wpC_exit_out ?_
    refine hQ _ w1 ?_ hm1
    have : i = ks.length := by omega
    subst this
    simpa using hI1
theorem tEach_call {w : World} (hm : P.follows .mixedOrders = true) (h : liftF P (F tEach) = some (ir_tEach F)) (hsort : SortC P (F sortSlice) (F tEach1) (F tyU32s))
    {S : List Nat} {okv : Nat → Prop} {g : FuncId} {captured : List Value} {I : World → List (Nat × List UInt8) → World → Prop} {m : List (Nat × List UInt8)} (hcb : EachCB P w S okv g captured I (sortT m)) (hbody : hasBody P g = true)
    {B o : Nat} {v : Value} (hc : w.cell? ⟨B, o, none⟩ = some v) (hM : TagM okv w v m) (hlen : m.length ≤ 2147483647) (hmv : ∀ p ∈ m, p.2.length ≤ 2147483647) (hB : B ∉ S) (hr : ∀ r, v = .map (some r) → r ∉ S) (hSl : ∀ b ∈ S, b < w.heap.size) (hS : ∀ b ∈ S, ¬ okv b)
    (hI : ∀ wN, Mod [] w wN → I wN [] wN) :
    Calls P (F tEach) [.pointer (some ⟨B, o, none⟩), .func (.func g) #[] captured.toArray].toArray w fun e w' => e = .returned (.tuple #[]) ∧ ∃ wN, Mod [] w wN ∧ I wN (sortT m) w' ∧ Mod S wN w' := by
  unfold ir_tEach at h
  refine call_of h hm (by simp) ?_
  have a0 : args0 [.pointer (some ⟨B, o, none⟩), .func (.func g) #[] captured.toArray] 0 = .pointer (some ⟨B, o, none⟩) := rfl
  have a1 : args0 [.pointer (some ⟨B, o, none⟩), .func (.func g) #[] captured.toArray] 1 = .func (.func g) #[] captured.toArray := rfl
  generalize args0 [.pointer (some ⟨B, o, none⟩), .func (.func g) #[] captured.toArray] = σ0 at a0 a1 ⊢
  rw [wpC_seq, wpC_seq, wpC_blk]
  refine wpR_step (v := .pointer (some ⟨B, o, none⟩)) (congrArg some a0) ?_
  refine wpR_step (v := .pointer (some ⟨B, o, none⟩)) (by simp only [RK.val?, ev, updo, upd, if_true]) ?_
  refine wpR_step (v := .pointer (some ⟨B, o, none⟩)) (by simp only [RK.val?, ev, updo, upd, if_true, Addr.add_mk, Nat.add_zero]) ?_
  refine wpR_step (v := v) (by simp only [RK.val?, ev, updo, upd, if_true, hc]) ?_
  have hml : ∀ (σ : Sl) (x : Nat) (K : Value → World → Prop), σ x = v → K (.int .i64 m.length) w → (RK.mlen (.tmp x)).run P σ w K := by
    intro σ x K hx hK
    rcases hM with ⟨rfl, rfl⟩ | ⟨r, rfl, hM⟩
    · simp only [RK.run, ev, hx]; exact hK
    · obtain ⟨es, clock, he1, he2, -, -⟩ := hM.ex
      have hl := he2.len
      simp only [RK.run, ev, hx, he1]
      have : es.size = m.length := by simpa using hl
      rw [this]; exact hK
  refine wpR_run ?_
  refine hml _ 11 _ (by simp only [updo, upd, if_true]) ?_
  refine wpR_step (v := .bool (decide (m.length = 0))) (by
    simp only [RK.val?, ev, updo, upd, if_true, isShift, decide_true, Bool.or_true, intBin]
    congr 2
    by_cases hz : m.length = 0 <;> simp [hz]) ?_
  refine wpR_done ?_
  by_cases hz : m.length = 0
  · rw [wpC_cond_t (by simp only [ev, updo, upd, if_true, hz, decide_true])]
    have : m = [] := List.length_eq_zero_iff.1 hz
    subst this
    simp only [wpC, thenC, postC, rvals, List.mapM_nil, Option.pure_def, tup]
    exact ⟨trivial, w, Mod.refl _ _, hI w (Mod.refl _ _), Mod.refl _ _⟩
  rw [wpC_cond_f (by simp only [ev, updo, upd, if_true, hz, decide_false]), wpC_skip]
  simp only [thenC]
  obtain ⟨r, rfl, hMr⟩ : ∃ r, v = .map (some r) ∧ MapRep okv w r m := by
    rcases hM with ⟨-, rfl⟩ | h
    · simp at hz
    · exact h
  clear hM
  have hM := hMr
  clear hMr
  obtain ⟨es, clock, he1, he2, he3, he4⟩ := hM.ex
  have hesl : es.size = m.length := by have := he2.len; simpa using this
  have hBl : B < w.heap.size := World.block_lt_of_cell? w ⟨B, o, none⟩ hc
  have hrl := hM.lt
  rw [wpC_seq, wpC_blk]
  refine wpR_step (v := .pointer (some ⟨B, o, none⟩)) (by simp only [RK.val?, ev, updo, upd]; simp [a0]) ?_
  refine wpR_step (v := .pointer (some ⟨B, o, none⟩)) (by simp only [RK.val?, ev, updo, upd, if_true]) ?_
  refine wpR_step (v := .pointer (some ⟨B, o, none⟩)) (by simp only [RK.val?, ev, updo, upd, if_true, Addr.add_mk, Nat.add_zero]) ?_
  refine wpR_step (v := .map (some r)) (by simp only [RK.val?, ev, updo, upd, if_true, hc]) ?_
  refine wpR_run ?_
  refine hml _ 17 _ (by simp only [updo, upd, if_true]) ?_
  refine wpR_run ?_
  simp only [RK.run, ev, updo, upd, if_true]
  refine ⟨by omega, by omega, by omega, by omega, ?_⟩
  intro Tn
  simp only [Int.toNat_natCast, Int.toNat_zero]
  have bR := Blk.new w (zrep m.length [.int .u32 0]) Tn
  have m1 : Mod [] w (w.alloc (.cells (zrep m.length [.int .u32 0]).toArray Tn)) := Mod.alloc _ _ _
  have z1 : (w.alloc (.cells (zrep m.length [.int .u32 0]).toArray Tn)).heap.size = w.heap.size + 1 := by simp
  generalize w.alloc (.cells (zrep m.length [.int .u32 0]).toArray Tn) = w1 at bR m1 z1 ⊢
  refine wpR_run ?_
  intro Tn2
  have bS := Blk.new w1 [.slice none 0 0] Tn2
  obtain ⟨k1, k2, k3⟩ := new_put w1 [.slice none 0 0] [.slice (some ⟨w.heap.size, 0, none⟩) 0 m.length] Tn2 rfl (by simp [Value.oneCell'])
  have z2 : (w1.alloc (.cells [Value.slice none 0 0].toArray Tn2)).heap.size = w1.heap.size + 1 := by simp
  generalize w1.alloc (.cells [Value.slice none 0 0].toArray Tn2) = w2 at bS k1 k2 k3 z2 ⊢
  refine wpR_run ?_
  have ec : (Value.slice (some ⟨w.heap.size, 0, none⟩) 0 m.length).cells.toList = [.slice (some ⟨w.heap.size, 0, none⟩) 0 m.length] := rfl
  simp only [RK.run, ev, updo, upd, if_true, show (19 : Nat) ≠ 4 by decide, if_false, ec]
  refine ⟨rfl, k1, ?_⟩
  have z3 : (putCells w2 ⟨w1.heap.size, 0, none⟩ 0 [.slice (some ⟨w.heap.size, 0, none⟩) 0 m.length]).heap.size = w2.heap.size := size_putCells ..
  generalize putCells w2 ⟨w1.heap.size, 0, none⟩ 0 [.slice (some ⟨w.heap.size, 0, none⟩) 0 m.length] = w3 at k2 k3 z3 ⊢
  have m03 : Mod [] w w3 := m1.trans k3
  have bR3 := bR.mod k3 (by simp)
  refine wpR_done ?_
  rw [wpC_seq, wpC_seq, wpC_blk]
  have hc3 : w3.cell? ⟨B, o, none⟩ = some (.map (some r)) := cell_mod hc m03 (by simp)
  have he13 : w3.heap[r]? = some (.map es clock) := by rw [m03.block r hrl (by simp)]; exact he1
  refine wpR_step (v := .pointer (some ⟨B, o, none⟩)) (by simp only [RK.val?, ev, upd]; simp [a0]) ?_
  refine wpR_step (v := .pointer (some ⟨B, o, none⟩)) (by simp only [RK.val?, ev, updo, upd, if_true]) ?_
  refine wpR_step (v := .pointer (some ⟨B, o, none⟩)) (by simp only [RK.val?, ev, updo, upd, if_true, Addr.add_mk, Nat.add_zero]) ?_
  refine wpR_step (v := .map (some r)) (by simp only [RK.val?, ev, updo, upd, if_true, hc3]) ?_
  refine wpR_run ?_
  simp only [RK.run, ev, updo, upd, if_true, he13]
  refine wpR_done ?_
  have m4 : Mod [] w3 (w3.alloc (.mapIter (some r) clock #[] clock)) := Mod.alloc _ _ _
  have hit : (w3.alloc (.mapIter (some r) clock #[] clock)).heap[w3.heap.size]? = some (.mapIter (some r) clock #[] clock) := heap_alloc_new _ _
  have he14 : (w3.alloc (.mapIter (some r) clock #[] clock)).heap[r]? = some (.map es clock) := by rw [m4.block r (by have := m03.size; omega) (by simp)]; exact he13
  have bR4 := bR3.mod m4 (by simp)
  have bS4 := k2.mod m4 (by simp)
  generalize w3.alloc (.mapIter (some r) clock #[] clock) = w4 at m4 hit he14 bR4 bS4 ⊢
  have hzl : (zrep m.length [Value.int .u32 0]).length = m.length := by simp [zrep]
  refine each_loop1 (w0 := w) (it := w3.heap.size) (Bs := w1.heap.size) (B := w.heap.size) (r := r) (n := m.length) (es := es) (clock := clock)
    ⟨by simp [upd], by simp [upd], he14, ⟨#[], hit, ⟨by simp, by simp, by simp⟩⟩, by simpa using bS4, ⟨_, by simpa using bR4, by simpa using hzl⟩, m03.trans m4, by omega, by omega, by omega, ⟨by have := m03.size; omega, by omega, by omega⟩, hesl.symm, m03.size, by omega, Nat.le_refl _⟩
    he2.keys he3 he4 fun σ5 w5 E a5 hK hperm => ?_
  have q0 : σ5 0 = .pointer (some ⟨B, o, none⟩) := by rw [a5 0 (by omega) (by omega)]; simp [upd, a0]
  have q1 : σ5 1 = .func (.func g) #[] captured.toArray := by rw [a5 1 (by omega) (by omega)]; simp [upd, a1]
  simp only [thenC]
  have hEl : E.length = m.length := by rw [hperm.length_eq]; simpa using hesl
  obtain ⟨rest, hrow, hrl2⟩ := hK.row
  have hr0 : rest = [] := List.length_eq_zero_iff.1 (by omega)
  subst hr0
  -- the keys as numbers
  have hEk : (E.map (·.key)).Perm ((m.map (·.1)).map u32v) := by rw [← he2.klist]; exact hperm.map _
  obtain ⟨ks, hks⟩ : ∃ ks : List Nat, E.map (·.key) = ks.map u32v := by
    refine ⟨(E.map (·.key)).map (fun v => match v with | .int _ n => n.toNat | _ => 0), ?_⟩
    rw [List.map_map]
    conv => lhs; rw [← List.map_id (E.map (·.key))]
    apply List.map_congr_left
    intro x hx
    have := hEk.mem_iff.1 hx
    obtain ⟨k, -, rfl⟩ := List.mem_map.1 this
    simp [u32v]
  rw [hks] at hEk
  have hkp : ks.Perm (m.map (·.1)) := map_perm_inj hEk
  have hkl : ks.length = m.length := by have := hkp.length_eq; simpa using this
  have hrow' : Blk w5 w.heap.size (ks.map u32v) := by rw [← hks]; simpa using hrow
  have hcell5 : Blk w5 w1.heap.size [.slice (some ⟨w.heap.size, 0, none⟩) ks.length ks.length] := by rw [hkl]; have := hK.cell; rwa [hEl] at this
  rw [wpC_seq, wpC_blk]
  refine wpR_step (v := .slice (some ⟨w.heap.size, 0, none⟩) ks.length ks.length) (by simp only [RK.val?, ev, hK.s4]; exact hcell5.cell 0) ?_
  refine wpR_step (v := .iface (F tyU32s) (.slice (some ⟨w.heap.size, 0, none⟩) ks.length ks.length)) (by simp only [RK.val?, ev, updo, upd, if_true]) ?_
  refine wpR_step (v := .func (.func (F tEach1)) #[] #[.pointer (some ⟨w1.heap.size, 0, none⟩)]) (by simp only [RK.val?, List.map_cons, List.map_nil, ev, updo, upd]; simp [hK.s4]) ?_
  refine wpR_call (vs := [.iface (F tyU32s) (.slice (some ⟨w.heap.size, 0, none⟩) ks.length ks.length), .func (.func (F tEach1)) #[] #[.pointer (some ⟨w1.heap.size, 0, none⟩)]]) (by simp only [List.map_cons, List.map_nil, ev, updo, upd]; simp)
    (hsort w5 w.heap.size w1.heap.size ks hrow' hcell5 (by omega) (by omega) (fun k hk => he2.lt32 k (hkp.mem_iff.1 hk))) ?_
  rintro e w6 ⟨rfl, ks', hp', hs', hrow6, m6⟩
  refine ⟨_, rfl, ?_⟩
  have hl' : ks'.length = ks.length := hp'.length_eq
  have m06 : Mod [] w w6 := Mod.drop (b := w.heap.size) (S := []) (hK.fr.nil.trans m6) (Nat.le_refl _)
  have hcell6 := hcell5.mod m6 (by simp; omega)
  refine wpR_done ?_
  rw [wpC_seq, wpC_blk]
  refine wpR_step (v := .slice (some ⟨w.heap.size, 0, none⟩) ks.length ks.length) (by
    simp only [RK.val?, ev, updo, upd, show (4 : Nat) ≠ 36 by decide, show (4 : Nat) ≠ 35 by decide, show (4 : Nat) ≠ 34 by decide, show (4 : Nat) ≠ 33 by decide, if_false, hK.s4]
    exact hcell6.cell 0) ?_
  refine wpR_step (v := .int .i64 ks.length) (by simp only [RK.val?, ev, updo, upd, if_true]) ?_
  refine wpR_step (v := .int .i64 0) rfl ?_
  refine wpR_done ?_
  have nS : ∀ {x}, w.heap.size ≤ x → x ∉ S := fun hx hs => by have := hSl _ hs; omega
  have hM2 : MapRep (fun b => okv b ∧ b < w.heap.size) w r m := hM.mod (Mod.refl [] _) (by simp) (by simp) fun b hb hx => ⟨hx, hb⟩
  refine each_loop2 (w0 := w) (wN := w6) (okv := okv) (I := I) (by rw [sortT_eq hM.keys (hp'.trans hkp) hs']; exact hcb) hbody (r := r) (m := m) (ks := ks') (R := w.heap.size) (by simp only [updo, upd]; simp [q0]) (by simp only [updo, upd]; simp [q1]) (by simp only [updo, upd]; simp [hl']) (by simp only [updo, upd]; simp [hl']) (by simp only [updo, upd]; simp) m06 rfl hrow6
    (cell_mod hc m06 (by simp)) (hM.mod m06 (by simp) (by simp) fun _ _ h => h) hB (hr r rfl) (nS (Nat.le_refl _)) hS hmv (fun k hk => hkp.mem_iff.1 (hp'.mem_iff.1 hk)) (by omega) (hI w6 m06) fun σ7 w7 hI7 hm7 => ?_
  simp only [postC, rvals, List.mapM_nil, Option.pure_def, tup]
  refine ⟨trivial, w6, m06, ?_, hm7⟩
  rw [← sortT_eq hM.keys (hp'.trans hkp) hs']; exact hI7
end
end Go.Msk
