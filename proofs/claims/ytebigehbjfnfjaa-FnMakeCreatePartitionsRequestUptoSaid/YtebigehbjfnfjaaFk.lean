/- A small language of resolved operations, and what the generic and the generated functions do in it (part 11). -/
import Derived.Test.YtebigehbjfnfjaaFj
import Derived.WideKeyArgs
import Derived.JoinedCond

namespace Go.Msk
open Go.RowKit
set_option maxRecDepth 100000
def zz3Code : IC × List RV × Nat :=
  (.seq (.blk [⟨some 1, .box (.tmp 0), none⟩, ⟨some 2, .mv (.const (.bool false)), none⟩])
  (.seq (.seq (.blk [⟨some 3, .fad (.tmp 1) 1, none⟩, ⟨some 4, .ld (.tmp 3), none⟩, ⟨some 5, .len (.tmp 4), none⟩, ⟨some 6, .bin .gtr (.tmp 5) (.const (.int .i64 2147483647)), none⟩])
    (.cond (.tmp 6) (.seq (.blk [⟨some 2, .mv (.const (.bool false)), none⟩]) .ret) .skip))
  (.seq (.blk [⟨some 2, .mv (.const (.bool true)), none⟩]) .ret)), [.tmp 2], 7)
def zz2Code (z3 : FuncId) : IC × List RV × Nat :=
  (.seq (.blk [⟨some 2, .mv (.const (.bool false)), none⟩])
  (.seq (.seq (.blk [⟨some 5, .mv (.tmp 0), none⟩, ⟨some 6, .len (.tmp 5), none⟩, ⟨some 7, .bin .gtr (.tmp 6) (.const (.int .i64 2147483647)), none⟩])
    (.cond (.tmp 7) (.seq (.blk [⟨some 2, .mv (.const (.bool false)), none⟩]) .ret) .skip))
  (.seq (.seq (.blk [⟨some 8, .mv (.tmp 0), none⟩, ⟨some 9, .len (.tmp 8), none⟩, ⟨some 10, .mv (.const (.int .i64 0)), none⟩])
    (.block 0 (.loop (.seq (.blk [⟨some 11, .bin .lss (.tmp 10) (.tmp 9), none⟩])
        (.seq (.cond (.tmp 11) .skip (.exit 0))
        (.seq (.block 1 (.seq (.blk [⟨some 12, .iad (.tmp 8) (.tmp 10) 2, none⟩, ⟨some 13, .ldn (.tmp 12) 2, none⟩, ⟨some 4, .alloc [.int .u32 0, .slice none 0 0], none⟩, ⟨none, .st (.tmp 4) 2 (.tmp 13), none⟩])
            (.seq (.blk [⟨some 14, .ldn (.tmp 4) 2, none⟩, ⟨some 15, .call z3 [.tmp 14], none⟩, ⟨some 16, .lnot (.tmp 15), none⟩])
            (.cond (.tmp 16) (.seq (.blk [⟨some 2, .mv (.const (.bool false)), none⟩]) .ret) .skip))))
        (.blk [⟨some 17, .bin .add (.tmp 10) (.const (.int .i64 1)), none⟩, ⟨some 10, .mv (.tmp 17), none⟩])))))))
  (.seq (.blk [⟨some 2, .mv (.const (.bool true)), none⟩]) .ret))), [.tmp 2], 18)
def zz1Code (z2 : FuncId) : IC × List RV × Nat :=
  (.seq (.blk [⟨some 1, .box (.tmp 0), none⟩, ⟨some 2, .mv (.const (.bool false)), none⟩])
  (.seq (.seq (.blk [⟨some 3, .fad (.tmp 1) 1, none⟩, ⟨some 4, .ld (.tmp 3), none⟩, ⟨some 5, .len (.tmp 4), none⟩, ⟨some 6, .bin .gtr (.tmp 5) (.const (.int .i64 2147483647)), none⟩])
    (.cond (.tmp 6) (.seq (.blk [⟨some 2, .mv (.const (.bool false)), none⟩]) .ret) .skip))
  (.seq (.seq (.blk [⟨some 7, .fad (.tmp 1) 3, none⟩, ⟨some 8, .ld (.tmp 7), none⟩, ⟨some 9, .len (.tmp 8), none⟩, ⟨some 10, .bin .gtr (.tmp 9) (.const (.int .i64 2147483647)), none⟩])
    (.cond (.tmp 10) (.seq (.blk [⟨some 2, .mv (.const (.bool false)), none⟩]) .ret) .skip))
  (.seq (.seq (.blk [⟨some 11, .fad (.tmp 1) 4, none⟩, ⟨some 12, .ld (.tmp 11), none⟩, ⟨some 13, .call z2 [.tmp 12], none⟩, ⟨some 14, .lnot (.tmp 13), none⟩])
    (.cond (.tmp 14) (.seq (.blk [⟨some 2, .mv (.const (.bool false)), none⟩]) .ret) .skip))
  (.seq (.blk [⟨some 2, .mv (.const (.bool true)), none⟩]) .ret)))), [.tmp 2], 15)
def BoolR (w : World) : Ending → World → Prop := fun e w' => ∃ b, e = .returned (.bool b) ∧ Mod [] w w'
section
variable {P : Program}
attribute [local simp] gOk updo upd ev RK.val? isShift intBin Addr.add_mk args0 Value.cells undef
theorem zz3_call (hm : P.follows .mixedOrders = true) {f : FuncId} (h : liftF P f = some zz3Code) {w : World} {k : Value} {n : Nat} {b : Option Addr} {c : Nat} : Calls P f [.agg #[k, .slice b n c]].toArray w (BoolR w) := by
  unfold zz3Code at h
  refine call_of h hm (by simp) ?_
  clear h
  rw [wpC_seq, wpC_blk]
  refine goBox (v := .agg #[k, .slice b n c]) (by simp) fun w1 hb1 hm1 => ?_
  have hb1 : Blk w1 w.heap.size [k, .slice b n c] := by simpa using hb1
  have c1 := fun j => hb1.cell j
  refine go1 (v := .bool false) rfl (by simp) (goEnd ?_)
  simp only [thenC]
  rw [wpC_seq, wpC_seq, wpC_blk]
  refine go1 (v := .pointer (some ⟨w.heap.size, 1, none⟩)) rfl (by simp) ?_
  refine go1 (v := .slice b n c) rfl (by simp [c1]) ?_
  refine go1 (v := .int .i64 (n : Nat)) rfl (by simp) ?_
  refine go1 (v := .bool (decide ((n : Int) > 2147483647))) rfl (by simp) (goEnd ?_)
  simp only [thenC]
  by_cases hc : (n : Int) > 2147483647
  · rw [wpC_cond_t (by simp [hc]), wpC_seq, wpC_blk]
    refine go1 (v := .bool false) rfl (by simp) (goEnd ?_)
    simp only [thenC]
    repeat first | refine retThen ?_ | refine retBlk ?_
    exact ret1 (v := .bool false) (by simp) ⟨_, rfl, hm1⟩
  · rw [wpC_cond_f (by simp [hc]), wpC_skip]
    simp only [thenC]
    rw [wpC_seq, wpC_blk]
    refine go1 (v := .bool true) rfl (by simp) (goEnd ?_)
    simp only [thenC]
    exact ret1 (v := .bool true) (by simp) ⟨_, rfl, hm1⟩
theorem zz2_call (hm : P.follows .mixedOrders = true) {f z3 : FuncId} (h : liftF P f = some (zz2Code z3)) (h3 : liftF P z3 = some zz3Code) {w : World} {v : Value} {u : List (Nat × List UInt8)} {uss : List (List Value)} (hv : SlC anyB w v u.length uss.flatten) (hu : RepU anyB w u uss) :
    Calls P f [v].toArray w (BoolR w) := by
  unfold zz2Code at h
  refine call_of h hm (by simp) ?_
  clear h
  obtain ⟨vb, vc, ev'⟩ := hv.shape
  have ul : u.length = uss.length := by
    clear hv ev'
    induction hu with
    | nil => rfl
    | cons _ _ ih => simp [ih]
  rw [wpC_seq, wpC_blk]
  refine go1 (v := .bool false) rfl (by simp) (goEnd ?_)
  simp only [thenC]
  rw [wpC_seq, wpC_seq, wpC_blk]
  refine go1 (v := v) rfl (by simp) ?_
  refine go1 (v := .int .i64 (u.length : Nat)) rfl (by simp [ev']) ?_
  refine go1 (v := .bool (decide ((u.length : Int) > 2147483647))) rfl (by simp) (goEnd ?_)
  simp only [thenC]
  by_cases hc : (u.length : Int) > 2147483647
  · rw [wpC_cond_t (by simp [hc]), wpC_seq, wpC_blk]
    refine go1 (v := .bool false) rfl (by simp) (goEnd ?_)
    simp only [thenC]
    repeat first | refine retThen ?_ | refine retBlk ?_
    exact ret1 (v := .bool false) (by simp) ⟨_, rfl, Mod.refl _ _⟩
  · rw [wpC_cond_f (by simp [hc]), wpC_skip]
    simp only [thenC]
    rw [wpC_seq, wpC_seq, wpC_blk]
    refine go1 (v := v) rfl (by simp) ?_
    refine go1 (v := .int .i64 (u.length : Nat)) rfl (by simp [ev']) ?_
    refine go1 (v := .int .i64 (0 : Nat)) rfl (by simp) (goEnd ?_)
    simp only [thenC]
    refine rangeLoop (n := u.length) (fun j σ w' => σ 8 = v ∧ σ 10 = .int .i64 (j : Nat) ∧ σ 9 = .int .i64 (u.length : Nat) ∧ Mod [] w w') (by omega) (by omega) (fun j σ w h => ⟨h.2.1, h.2.2.1⟩) ?_ ?_ ?_
    · exact ⟨by simp, by simp, by simp, Mod.refl _ _⟩
    · rintro j σ w1 hj ⟨k8, k10, k9, hm1⟩
      have hsh : ∀ {u : List (Nat × List UInt8)} {uss : List (List Value)}, RepU anyB w u uss → ∀ c ∈ uss, ∃ a b n d, c = [a, .slice b n d] := by
        intro u uss h
        induction h with
        | nil => simp
        | cons h _ ih =>
          intro c hc
          rcases List.mem_cons.1 hc with rfl | hc
          · obtain ⟨b, d, e⟩ := h.shape
            exact ⟨_, b, _, d, by rw [e]⟩
          · exact ih c hc
      have hc1 : uss[j]? = some uss[j] := List.getElem?_eq_getElem (by omega)
      obtain ⟨ka, kb, kn, kd, ek⟩ := hsh hu _ (List.mem_of_getElem? hc1)
      have hsz : ∀ c ∈ uss, c.length = 2 := fun c hc => by obtain ⟨a, b, n, d, rfl⟩ := hsh hu c hc; rfl
      obtain ⟨base, cap, e1, e2, e3, e4⟩ := hv
      cases base with
      | none => have := e3 rfl; omega
      | some a =>
        obtain ⟨-, q2, q3⟩ := e4 a rfl (by omega)
        obtain ⟨ab, ao, as⟩ := a
        have eb : as = none := q3.1
        subst eb
        have hce := q3.each hsz hc1
        rw [ek] at hce
        have hld := cellsAt_of' (hce.mod hm1 (.inr (by simp))) (show [ka, Value.slice kb kn kd].length = 2 from rfl)
        subst e1
        rw [wpC_seq, wpC_blk]
        refine go1 (v := .pointer (some ⟨ab, ao + j * 2, none⟩)) rfl (by simp [k8, k10, hj]) ?_
        refine go1 (v := .agg #[ka, .slice kb kn kd]) rfl (by simp [hld]) ?_
        refine goAlloc fun w2 hb2 hm2 => ?_
        have hone : ∀ y ∈ (Value.agg #[ka, .slice kb kn kd]).cells.toList, y.oneCell' = true := by
          have hku : ∀ {u : List (Nat × List UInt8)} {uss : List (List Value)}, RepU anyB w u uss → ∀ c ∈ uss, ∀ y ∈ c, y.oneCell' = true := by
            intro u uss h
            induction h with
            | nil => simp
            | cons h _ ih =>
              intro c hc y hy
              rcases List.mem_cons.1 hc with rfl | hc
              · simp only [List.mem_cons, List.not_mem_nil, or_false] at hy
                rcases hy with rfl | rfl
                · rfl
                · exact h.one
              · exact ih c hc y hy
          have := hku hu _ (List.mem_of_getElem? hc1)
          rw [ek] at this
          simpa using this
        refine goSt (b := w1.heap.size) (v := .agg #[ka, .slice kb kn kd]) (by simp) (by simp) hb2 (by simp) (by simp) hone fun w3 hb3 hm3 => goEnd ?_
        simp only [thenC]
        have hb3 : Blk w3 w1.heap.size [ka, .slice kb kn kd] := by simpa using hb3
        have hm13 : Mod [] w1 w3 := Mod.drop (b := w1.heap.size) (S := []) (hm2.nil.trans hm3) (Nat.le_refl _)
        have hld3 := cellsAt_of' hb3.cells (show [ka, Value.slice kb kn kd].length = 2 from rfl)
        rw [wpC_seq, wpC_blk]
        refine go1 (v := .agg #[ka, .slice kb kn kd]) rfl (by simp [hld3]) ?_
        refine goCall rfl (vs := [.agg #[ka, .slice kb kn kd]]) (by simp) (zz3_call hm h3) ?_
        rintro e w4 ⟨b, rfl, hm4⟩
        refine ⟨_, rfl, go1 (v := .bool !b) rfl (by simp) (goEnd ?_)⟩
        simp only [thenC]
        have hm04 := (hm1.trans hm13).trans hm4
        cases b with
        | false =>
          rw [wpC_cond_t (by simp), wpC_seq, wpC_blk]
          refine go1 (v := .bool false) rfl (by simp) (goEnd ?_)
          simp only [thenC]
          repeat first | refine retThen ?_ | refine retBlk ?_ | refine retRng ?_
          exact ret1 (v := .bool false) (by simp) ⟨_, rfl, hm04⟩
        | true =>
          rw [wpC_cond_f (by simp), wpC_skip]
          refine ⟨by simp [k10], by simp [k8], by simp, by simp [k9], hm04⟩
    · rintro σ w1 ⟨-, -, -, hm1⟩
      simp only [thenC]
      rw [wpC_seq, wpC_blk]
      refine go1 (v := .bool true) rfl (by simp) (goEnd ?_)
      simp only [thenC]
      exact ret1 (v := .bool true) (by simp) ⟨_, rfl, hm1⟩
theorem zz1_call (hm : P.follows .mixedOrders = true) {f z2 z3 : FuncId} (h : liftF P f = some (zz1Code z2)) (h2 : liftF P z2 = some (zz2Code z3)) (h3 : liftF P z3 = some zz3Code) {w : World} {t : TR} {ts : List Value} (ht : RepT anyB w t ts) :
    Calls P f [.agg ts.toArray].toArray w (BoolR w) := by
  unfold zz1Code at h
  refine call_of h hm (by simp) ?_
  clear h
  cases ht with
  | @mk n s null l u sv lv uv css uss q1 q2 q3 q4 q5 =>
  obtain ⟨b1, c1, e1⟩ := q1.shape
  obtain ⟨b2, c2, e2⟩ := q2.shape
  rw [wpC_seq, wpC_blk]
  refine goBox (v := .agg #[.int .i64 n, sv, .bool null, lv, uv]) (by simp) fun w1 hb1 hm1 => ?_
  have hb1 : Blk w1 w.heap.size [.int .i64 n, sv, .bool null, lv, uv] := by simpa using hb1
  have cc := fun j => hb1.cell j
  refine go1 (v := .bool false) rfl (by simp) (goEnd ?_)
  simp only [thenC]
  rw [wpC_seq, wpC_seq, wpC_blk]
  refine go1 (v := .pointer (some ⟨w.heap.size, 1, none⟩)) rfl (by simp) ?_
  refine go1 (v := sv) rfl (by simp [cc]) ?_
  refine go1 (v := .int .i64 (s.length : Nat)) rfl (by simp [e1]) ?_
  refine go1 (v := .bool (decide ((s.length : Int) > 2147483647))) rfl (by simp) (goEnd ?_)
  simp only [thenC]
  by_cases hc : (s.length : Int) > 2147483647
  · rw [wpC_cond_t (by simp [hc]), wpC_seq, wpC_blk]
    refine go1 (v := .bool false) rfl (by simp) (goEnd ?_)
    simp only [thenC]
    repeat first | refine retThen ?_ | refine retBlk ?_
    exact ret1 (v := .bool false) (by simp) ⟨_, rfl, hm1⟩
  rw [wpC_cond_f (by simp [hc]), wpC_skip]
  simp only [thenC]
  rw [wpC_seq, wpC_seq, wpC_blk]
  refine go1 (v := .pointer (some ⟨w.heap.size, 3, none⟩)) rfl (by simp) ?_
  refine go1 (v := lv) rfl (by simp [cc]) ?_
  refine go1 (v := .int .i64 (l.length : Nat)) rfl (by simp [e2]) ?_
  refine go1 (v := .bool (decide ((l.length : Int) > 2147483647))) rfl (by simp) (goEnd ?_)
  simp only [thenC]
  by_cases hc2 : (l.length : Int) > 2147483647
  · rw [wpC_cond_t (by simp [hc2]), wpC_seq, wpC_blk]
    refine go1 (v := .bool false) rfl (by simp) (goEnd ?_)
    simp only [thenC]
    repeat first | refine retThen ?_ | refine retBlk ?_
    exact ret1 (v := .bool false) (by simp) ⟨_, rfl, hm1⟩
  rw [wpC_cond_f (by simp [hc2]), wpC_skip]
  simp only [thenC]
  rw [wpC_seq, wpC_seq, wpC_blk]
  refine go1 (v := .pointer (some ⟨w.heap.size, 4, none⟩)) rfl (by simp) ?_
  refine go1 (v := uv) rfl (by simp [cc]) ?_
  refine goCall rfl (vs := [uv]) (by simp) (zz2_call hm h2 h3 (q4.keep hm1) (q5.mod hm1 (by simp) fun _ _ _ => trivial)) ?_
  rintro e w2 ⟨b, rfl, hm2⟩
  refine ⟨_, rfl, go1 (v := .bool !b) rfl (by simp) (goEnd ?_)⟩
  simp only [thenC]
  have hm02 := hm1.trans hm2
  cases b with
  | false =>
    rw [wpC_cond_t (by simp), wpC_seq, wpC_blk]
    refine go1 (v := .bool false) rfl (by simp) (goEnd ?_)
    simp only [thenC]
    repeat first | refine retThen ?_ | refine retBlk ?_
    exact ret1 (v := .bool false) (by simp) ⟨_, rfl, hm02⟩
  | true =>
    rw [wpC_cond_f (by simp), wpC_skip]
    simp only [thenC]
    rw [wpC_seq, wpC_blk]
    refine go1 (v := .bool true) rfl (by simp) (goEnd ?_)
    simp only [thenC]
    exact ret1 (v := .bool true) (by simp) ⟨_, rfl, hm02⟩
end
end Go.Msk

namespace Go.Msk
open Go.RowKit
set_option maxRecDepth 100000
abbrev at_ (l : List UInt8) : RS := ⟨l, false, false⟩
theorem wrap_mod_i16 (n : Int) : IntKind.i16.wrap n % 65536 = n % 65536 := by
  simp only [IntKind.wrap, IntKind.bits, IntKind.signed]; simp; split <;> omega
theorem wrap_mod_i32 (n : Int) : IntKind.i32.wrap n % 4294967296 = n % 4294967296 := by
  simp only [IntKind.wrap, IntKind.bits, IntKind.signed]; simp; split <;> omega
theorem wrap_mod_i8 (n : Int) : IntKind.i8.wrap n % 256 = n % 256 := by
  simp only [IntKind.wrap, IntKind.bits, IntKind.signed]; simp; split <;> omega
def kindOk (kind : Int) (nul : Bool) (p : PK) : Bool :=
  match p with
  | .bool => decide (kind = 0)
  | .i8 => decide (kind = 1)
  | .i16 => decide (kind = 2)
  | .u16 => decide (kind = 5)
  | .i32 => decide (kind = 3)
  | .i64 => decide (kind = 4)
  | .uuid => decide (kind = 7)
  | .str => decide (kind = 8) && !nul
  | .nstr => decide (kind = 8)
  | .byt => decide (kind = 9) && !nul
  | _ => false
theorem wholeP_le (l : List UInt8) : (wholeP l).length ≤ 32767 := by simp [wholeP]; omega
end Go.Msk

namespace Go.Msk
open Go.RowKit
set_option maxRecDepth 100000
def unk (u : List (Nat × List UInt8)) : List (Nat × List UInt8) := (u.take 32767).foldl (unkStep 0) []
def tailP (x : Bool) (u : List (Nat × List UInt8)) : List UInt8 := if x then uvE (unk u).length ++ tagsP (unk u) else []
theorem knownP_plain : ∀ (fs : List FD), FD.plainL fs = true → knownP fs = 0 := by
  intro fs h
  unfold knownP
  induction fs with
  | nil => rfl
  | cons f fs ih =>
    simp only [FD.plainL, Bool.and_eq_true] at h
    have ht : f.tag < 0 := by
      have := h.1
      obtain ⟨k, a, b, c, tag, d, e, sub⟩ := f
      simp only [FD.plain, Bool.and_eq_true, decide_eq_true_eq] at this
      exact this.1
    simp only [List.foldl_cons]
    rw [if_neg (by omega)]
    exact ih h.2
theorem unknownP_plain {fs : List FD} (h : FD.plainL fs = true) (u : List (Nat × List UInt8)) : unknownP fs u = unk u := by
  unfold unknownP unk; rw [knownP_plain fs h]
def Ris (l : List (Nat × List UInt8)) : Prop := l.Pairwise (fun a b => a.1 < b.1) ∧ ∀ p ∈ l, p.1 < 4294967296
theorem insU_mem {k : Nat} {b : List UInt8} : ∀ {l : List (Nat × List UInt8)} {p}, p ∈ insU k b l → p = (k, b) ∨ p ∈ l
  | [], p, h => by simp [insU] at h; exact .inl h
  | (k', b') :: r, p, h => by
    simp only [insU] at h
    split at h
    · rcases List.mem_cons.1 h with h | h
      · exact .inr (by simp [h])
      · rcases insU_mem h with h | h
        · exact .inl h
        · exact .inr (by simp [h])
    · split at h
      · exact .inr h
      · rcases List.mem_cons.1 h with h | h
        · exact .inl h
        · exact .inr h
theorem insU_ris {k : Nat} {b : List UInt8} (hk : k < 4294967296) : ∀ {l : List (Nat × List UInt8)}, Ris l → Ris (insU k b l)
  | [], _ => ⟨by simp [insU], by simp [insU]; exact hk⟩
  | (k', b') :: r, h => by
    have hr : Ris r := ⟨(List.pairwise_cons.1 h.1).2, fun p hp => h.2 p (by simp [hp])⟩
    simp only [insU]
    split
    · rename_i hlt
      have ih := insU_ris (b := b) hk hr
      refine ⟨List.pairwise_cons.2 ⟨fun p hp => ?_, ih.1⟩, fun p hp => ?_⟩
      · rcases insU_mem hp with rfl | hp
        · exact hlt
        · exact (List.pairwise_cons.1 h.1).1 p hp
      · rcases List.mem_cons.1 hp with rfl | hp
        · exact h.2 (k', b') (by simp)
        · exact ih.2 p hp
    · split
      · exact h
      · rename_i h1 h2
        refine ⟨List.pairwise_cons.2 ⟨fun p hp => ?_, h.1⟩, fun p hp => ?_⟩
        · rcases List.mem_cons.1 hp with rfl | hp
          · show k < k'; omega
          · have := (List.pairwise_cons.1 h.1).1 p hp
            show k < p.1
            have e : k' < p.1 := this
            omega
        · rcases List.mem_cons.1 hp with rfl | hp
          · exact hk
          · exact h.2 p hp
theorem insU_len {k : Nat} {b : List UInt8} : ∀ l : List (Nat × List UInt8), (insU k b l).length ≤ l.length + 1
  | [] => by simp [insU]
  | (k', b') :: r => by
    have := insU_len (k := k) (b := b) r
    simp only [insU]
    split
    · simp only [List.length_cons]; omega
    · split <;> simp
theorem unk_ok {u : List (Nat × List UInt8)} (h : ∀ p ∈ u, p.1 < 4294967296) : Ris (unk u) ∧ (unk u).length ≤ 32767 := by
  have gen : ∀ (v acc : List (Nat × List UInt8)), (∀ p ∈ v, p.1 < 4294967296) → Ris acc → Ris (v.foldl (unkStep 0) acc) ∧ (v.foldl (unkStep 0) acc).length ≤ acc.length + v.length := by
    intro v
    induction v with
    | nil => intro acc _ ha; exact ⟨ha, by simp⟩
    | cons p v ih =>
      intro acc hv ha
      have e : unkStep 0 acc p = insU p.1 p.2 acc := by unfold unkStep; rw [if_neg (by omega)]
      simp only [List.foldl_cons, e]
      obtain ⟨h1, h2⟩ := ih (insU p.1 p.2 acc) (fun q hq => hv q (by simp [hq])) (insU_ris (hv p (by simp)) ha)
      refine ⟨h1, Nat.le_trans h2 ?_⟩
      have := insU_len (k := p.1) (b := p.2) acc
      simp only [List.length_cons]; omega
  obtain ⟨h1, h2⟩ := gen (u.take 32767) [] (fun p hp => h p (List.mem_of_mem_take hp)) ⟨by simp, by simp⟩
  refine ⟨h1, Nat.le_trans h2 ?_⟩
  simp; omega
def wholeU (u : List (Nat × List UInt8)) : List (Nat × List UInt8) := u.map fun p => (p.1, wholeP p.2)
theorem putTag_new {k : Nat} {b : List UInt8} : ∀ {m : List (Nat × List UInt8)}, (∀ p ∈ m, p.1 < k) → putTag m k b = m ++ [(k, b)]
  | [], _ => rfl
  | (k', b') :: m, h => by
    have h1 : k' < k := h (k', b') (by simp)
    simp only [putTag, List.cons_append]
    rw [if_neg (by omega), putTag_new fun p hp => h p (by simp [hp])]
theorem sortT_ris : ∀ {m : List (Nat × List UInt8)}, m.Pairwise (fun a b => a.1 < b.1) → sortT m = m
  | [], _ => rfl
  | (k, b) :: m, h => by
    have ih := sortT_ris (List.pairwise_cons.1 h).2
    simp only [sortT, ih]
    cases m with
    | nil => rfl
    | cons p m =>
      have : k < p.1 := (List.pairwise_cons.1 h).1 p (by simp)
      simp only [insT]
      rw [if_pos this]
end Go.Msk

namespace Go.Msk
open Go.RowKit
set_option maxRecDepth 100000
def FD.nulB (f : FD) (ver : Int) : Bool := decide (f.null ≥ 0) && decide (ver ≥ f.null)
theorem FD.enc_eq' (ver : Int) (x : Bool) (f : FD) (t : TR) : f.enc ver x t = fieldP x f.kind f.of f.null (f.nullV ver t) (fun y => joinP x (bodyP ver x f.sub 0 y) (unknownP f.sub y.u)) t := by
  obtain ⟨k, a, b, c, tag, d, e, sub⟩ := f; rfl
def fE (ver : Int) (x : Bool) (f : FD) (t : TR) (i : Nat) : List UInt8 := if f.hasV ver = true then f.enc ver x (t.at i) else []
theorem body_cons {ver : Int} {x : Bool} {f : FD} {fs : List FD} {i : Nat} {t : TR} {z : List UInt8} (ht : f.tag < 0) : bodyP ver x (f :: fs) i t ++ z = fE ver x f t i ++ (bodyP ver x fs (i + 1) t ++ z) := by
  simp only [bodyP, fE, ht, true_and, List.append_assoc]
theorem kok_body {ver : Int} {x : Bool} {sub : List FD} {y : TR} (hp : FD.plainL sub = true) : joinP x (bodyP ver x sub 0 y) (unknownP sub y.u) = bodyP ver x sub 0 y ++ tailP x y.u := by
  rw [unknownP_plain hp]; rfl
theorem TR.kok_mem {t y : TR} (h : t.kok) (hy : y ∈ t.l) : y.kok := by
  cases t with
  | mk n s b l u => exact TR.kokL_mem h.2 y hy
theorem take_le (l : List TR) : (l.take 32767).length ≤ 32767 := by simp; omega
end Go.Msk

namespace Go.Msk
open Go.RowKit
set_option maxRecDepth 100000
def PK.eqB (p q : PK) : Bool := decide (p = q)
theorem eqB_of {p q : PK} (h : p.eqB q = true) : p = q := by simpa [PK.eqB] using h
theorem neB_of {p q : PK} (h : (!p.eqB q) = true) : p ≠ q := by simpa [PK.eqB] using h
end Go.Msk

namespace Go.Msk
open Go.RowKit
set_option maxRecDepth 100000
def valM (k : Int) (part : Nat) : Nat := if k = 10 then part else if k = 8 ∨ k = 9 then 32772 else 16
def tagM (x : Bool) : Nat := if x then 5 + 32767 * 32777 else 0
mutual
def FD.maxB (x : Bool) : FD → Nat
  | .mk kind _ _ _ _ _ of sub => if kind = 11 then 5 + 32767 * valM of (FD.maxL x sub + tagM x) else 1 + valM kind (FD.maxL x sub + tagM x)
def FD.maxL (x : Bool) : List FD → Nat
  | [] => 0
  | f :: l => f.maxB x + FD.maxL x l
end
theorem lenU_le (n : Nat) : lenU n ≤ 5 := by unfold lenU; repeat' split
                                             all_goals omega
theorem uvE_le {n : Nat} (h : n < 4294967296) : (uvE n).length ≤ 5 := by rw [uvE_length h]; exact lenU_le n
theorem countedP_le {x nl : Bool} {n k : Nat} (hn : n ≤ 32767) (hk : k ≤ 4) : (countedP x nl n k).length ≤ 5 := by
  have := uvE_le (n := n + 1) (by omega)
  unfold countedP
  cases x <;> cases nl <;> simp [beI_length] <;> omega
theorem valP_le {x nl : Bool} {k : Int} {part : TR → List UInt8} {t : TR} {M : Nat} (hp : (part t).length ≤ M) : (valP x k part nl t).length ≤ valM k M := by
  have hw := wholeP_le t.s
  have hw2 : (if nl = true then [] else wholeP t.s).length ≤ 32767 := by cases nl <;> simp <;> omega
  unfold valP valM
  by_cases h0 : k = 0
  · subst h0; simp
  rw [if_neg h0]
  by_cases h7 : k = 7
  · subst h7; simp [uuidP]; omega
  rw [if_neg h7]
  by_cases h8 : k = 8
  · subst h8
    have := countedP_le (x := x) (nl := nl) (k := 2) hw2 (by omega)
    simp only [if_true, List.length_append]
    rw [if_neg (show ¬ ((8 : Int) = 10) by decide), if_pos (Or.inl trivial)]; omega
  rw [if_neg h8]
  by_cases h9 : k = 9
  · subst h9
    have := countedP_le (x := x) (nl := nl) (k := 4) hw2 (by omega)
    simp only [if_true, List.length_append]
    rw [if_neg (show ¬ ((9 : Int) = 10) by decide), if_pos (Or.inr trivial)]; omega
  rw [if_neg h9]
  by_cases h10 : k = 10
  · subst h10; simp only [if_true]; exact hp
  · rw [if_neg h10, if_neg h10, if_neg (by omega), beI_length]
    have := widthP_le k; omega
theorem flat_le {α : Type} {f : α → List UInt8} {M : Nat} : ∀ {l : List α}, (∀ y ∈ l, (f y).length ≤ M) → (l.flatMap f).length ≤ l.length * M
  | [], _ => by simp
  | y :: l, h => by
    have h1 := h y (by simp)
    have h2 := flat_le (l := l) fun z hz => h z (by simp [hz])
    simp only [List.flatMap_cons, List.length_append, List.length_cons, Nat.add_mul, Nat.one_mul]
    omega
theorem tail_le {x : Bool} {u : List (Nat × List UInt8)} (h : ∀ p ∈ u, p.1 < 4294967296) : (tailP x u).length ≤ tagM x := by
  obtain ⟨h1, h2⟩ := unk_ok h
  cases x with
  | false => simp [tailP, tagM]
  | true =>
    have e1 := uvE_le (n := (unk u).length) (by omega)
    have e2 : (tagsP (unk u)).length ≤ (unk u).length * 32777 := flat_le fun p hp => by
      have a := uvE_le (h1.2 p hp)
      have b := wholeP_le p.2
      have c := uvE_le (n := (wholeP p.2).length) (by omega)
      simp only [List.length_append]; omega
    simp only [tailP, tagM, if_true, List.length_append]
    have : (unk u).length * 32777 ≤ 32767 * 32777 := Nat.mul_le_mul_right _ h2
    omega
theorem TR.kok_u {t : TR} (h : t.kok) : ∀ p ∈ t.u, p.1 < 4294967296 := by cases t; exact h.1
mutual
theorem FD.enc_le (ver : Int) (x : Bool) : ∀ (f : FD) (t : TR), f.plain = true → t.kok → (f.enc ver x t).length ≤ f.maxB x
  | .mk kind frm to null tag dfl of sub, t, hp, hk => by
    simp only [FD.plain, Bool.and_eq_true, decide_eq_true_eq] at hp
    have hpl := hp.2.2
    have part : ∀ y : TR, y.kok → (joinP x (bodyP ver x sub 0 y) (unknownP sub y.u)).length ≤ FD.maxL x sub + tagM x := fun y hy => by
      rw [kok_body hpl, List.length_append]
      have a := FD.bodyP_le ver x sub 0 y hpl hy
      have b := tail_le (x := x) (TR.kok_u hy)
      omega
    rw [FD.enc_eq']
    simp only [FD.kind, FD.of, FD.null, FD.sub, FD.maxB]
    unfold fieldP
    by_cases h11 : kind = 11
    · rw [if_pos h11, if_pos h11, List.length_append]
      have hl : (if FD.nullV (.mk kind frm to null tag dfl of sub) ver t = true then [] else t.l.take 32767).length ≤ 32767 := by
        split
        · simp
        · exact take_le _
      have c := countedP_le (x := x) (nl := FD.nullV (.mk kind frm to null tag dfl of sub) ver t) (k := 4) hl (by omega)
      have f1 : ((if FD.nullV (.mk kind frm to null tag dfl of sub) ver t = true then [] else t.l.take 32767).flatMap (valP x of (fun y => joinP x (bodyP ver x sub 0 y) (unknownP sub y.u)) false)).length ≤ (if FD.nullV (.mk kind frm to null tag dfl of sub) ver t = true then [] else t.l.take 32767).length * valM of (FD.maxL x sub + tagM x) :=
        flat_le fun y hy => valP_le (part y (by
          split at hy
          · simp at hy
          · exact TR.kok_mem hk (List.mem_of_mem_take hy)))
      have := Nat.mul_le_mul_right (valM of (FD.maxL x sub + tagM x)) hl
      omega
    · rw [if_neg h11, if_neg h11]
      split
      · rename_i h10
        have : valM kind (FD.maxL x sub + tagM x) = FD.maxL x sub + tagM x := by unfold valM; rw [if_pos h10.1]
        rw [this]
        split
        · rw [beI_length]; omega
        · rw [List.length_append, beI_length]
          have : ((fun y => joinP x (bodyP ver x sub 0 y) (unknownP sub y.u)) t).length ≤ FD.maxL x sub + tagM x := part t hk
          omega
      · have := valP_le (x := x) (nl := FD.nullV (.mk kind frm to null tag dfl of sub) ver t) (k := kind) (part := fun y => joinP x (bodyP ver x sub 0 y) (unknownP sub y.u)) (part t hk)
        omega
theorem FD.bodyP_le (ver : Int) (x : Bool) : ∀ (l : List FD) (i : Nat) (t : TR), FD.plainL l = true → t.kok → (bodyP ver x l i t).length ≤ FD.maxL x l
  | [], _, _, _, _ => by simp [bodyP]
  | f :: l, i, t, hp, hk => by
    simp only [FD.plainL, Bool.and_eq_true] at hp
    have a := FD.enc_le ver x f (t.at i) hp.1 (hk.at i)
    have b := FD.bodyP_le ver x l (i + 1) t hp.2 hk
    simp only [bodyP, FD.maxL, List.length_append]
    split
    · omega
    · simp; omega
end
theorem writeP_le {m : MD} {ver : Int} {t : TR} {N : Nat} (hp : FD.plainL m.fs = true) (hk : t.kok) (hN : FD.maxL (m.isFlex ver) m.fs + tagM (m.isFlex ver) ≤ N) : (writeP m ver t).length ≤ N := by
  have e : writeP m ver t = bodyP ver (m.isFlex ver) m.fs 0 t ++ tailP (m.isFlex ver) t.u := by
    unfold writeP partP
    rw [unknownP_plain hp]; rfl
  rw [e, List.length_append]
  have a := FD.bodyP_le ver (m.isFlex ver) m.fs 0 t hp hk
  have b := tail_le (x := m.isFlex ver) (TR.kok_u hk)
  omega
end Go.Msk

namespace Go.Msk
set_option maxRecDepth 100000
def wtU : List (Nat × List UInt8) → Nat
  | [] => 0
  | p :: u => 1 + p.2.length + wtU u
mutual
/-- How much a tree holds. -/
def TR.wt : TR → Nat
  | .mk _ s _ l u => 1 + s.length + TR.wtL l + wtU u
def TR.wtL : List TR → Nat
  | [] => 0
  | t :: l => t.wt + TR.wtL l
end
mutual
def FD.kB : FD → Nat
  | .mk _ _ _ _ _ _ _ sub => 60 + FD.kL sub
def FD.kL : List FD → Nat
  | [] => 0
  | f :: l => f.kB + FD.kL l
end
mutual
/-- All numbers have 64 bits. -/
def TR.nok : TR → Prop
  | .mk n _ _ l _ => IntKind.i64.wrap n = n ∧ TR.nokL l
def TR.nokL : List TR → Prop
  | [] => True
  | t :: l => t.nok ∧ TR.nokL l
end
theorem TR.wt_pos (t : TR) : 1 ≤ t.wt := by cases t; simp only [TR.wt]; omega
theorem wtL_mem : ∀ {l : List TR} {y : TR}, y ∈ l → y.wt ≤ TR.wtL l
  | t :: l, y, h => by
    simp only [TR.wtL]
    rcases List.mem_cons.1 h with rfl | h
    · omega
    · have := wtL_mem h; omega
theorem TR.wt_at (t : TR) (i : Nat) : (t.at i).wt ≤ t.wt := by
  unfold TR.at
  cases h : t.l[i]? with
  | none => simp only [Option.getD_none]; have := t.wt_pos; simp [TR.zero, TR.wt, TR.wtL, wtU]; omega
  | some y =>
    simp only [Option.getD_some]
    have := wtL_mem (List.mem_of_getElem? h)
    cases t with
    | mk n s b l u => simp only [TR.wt, TR.l] at this ⊢; omega
theorem wtL_take (l : List TR) (k : Nat) : TR.wtL (l.take k) ≤ TR.wtL l := by
  induction l generalizing k with
  | nil => simp [TR.wtL]
  | cons t l ih =>
    cases k with
    | zero => simp [TR.wtL]
    | succ k => simp only [List.take_succ_cons, TR.wtL]; have := ih k; omega
theorem wtU_take (u : List (Nat × List UInt8)) (k : Nat) : wtU (u.take k) ≤ wtU u := by
  induction u generalizing k with
  | nil => simp [wtU]
  | cons t u ih =>
    cases k with
    | zero => simp [wtU]
    | succ k => simp only [List.take_succ_cons, wtU]; have := ih k; omega
theorem insU_wt (k : Nat) (b : List UInt8) : ∀ l, wtU (insU k b l) ≤ 1 + b.length + wtU l
  | [] => by simp [insU, wtU]
  | (k', b') :: r => by
    have := insU_wt k b r
    simp only [insU]
    split
    · simp only [wtU]; omega
    · split <;> simp only [wtU] <;> omega
theorem unk_wt (u : List (Nat × List UInt8)) : wtU (unk u) ≤ wtU u := by
  have gen : ∀ (v acc : List (Nat × List UInt8)), wtU (v.foldl (unkStep 0) acc) ≤ wtU acc + wtU v := by
    intro v
    induction v with
    | nil => intro acc; simp [wtU]
    | cons p v ih =>
      intro acc
      have e : unkStep 0 acc p = insU p.1 p.2 acc := by unfold unkStep; rw [if_neg (by omega)]
      simp only [List.foldl_cons, e, wtU]
      have a := ih (insU p.1 p.2 acc)
      have b := insU_wt p.1 p.2 acc
      omega
  have a := gen (u.take 32767) []
  have b := wtU_take u 32767
  simp only [wtU] at a
  unfold unk
  omega
theorem tagsP_wt : ∀ {u : List (Nat × List UInt8)}, (∀ p ∈ u, p.1 < 4294967296) → (tagsP u).length ≤ 11 * wtU u
  | [], _ => by simp [tagsP, wtU]
  | p :: u, h => by
    have a := tagsP_wt (u := u) fun q hq => h q (by simp [hq])
    have b := uvE_le (h p (by simp))
    have c := wholeP_le p.2
    have d := uvE_le (n := (wholeP p.2).length) (by omega)
    have e : (wholeP p.2).length ≤ p.2.length := by simp [wholeP]; omega
    have f : tagsP (p :: u) = (uvE p.1 ++ (uvE (wholeP p.2).length ++ wholeP p.2)) ++ tagsP u := by simp [tagsP]
    rw [f]
    simp only [List.length_append, wtU] at *
    omega
theorem tail_wt {x : Bool} {t : TR} (h : t.kok) : (tailP x t.u).length ≤ 16 * t.wt := by
  obtain ⟨h1, h2⟩ := unk_ok (TR.kok_u h)
  have hw : wtU t.u ≤ t.wt := by cases t; simp only [TR.u, TR.wt]; omega
  have hp := t.wt_pos
  cases x with
  | false => simp [tailP]
  | true =>
    have e1 := uvE_le (n := (unk t.u).length) (by omega)
    have e2 := tagsP_wt h1.2
    have e3 := unk_wt t.u
    simp only [tailP, if_true, List.length_append]
    omega
theorem wt_flat {f : TR → List UInt8} {K : Nat} : ∀ {l : List TR}, (∀ y ∈ l, (f y).length ≤ K * y.wt) → (l.flatMap f).length ≤ K * TR.wtL l
  | [], _ => by simp [TR.wtL]
  | y :: l, h => by
    have h1 := h y (by simp)
    have h2 := wt_flat (l := l) fun z hz => h z (by simp [hz])
    simp only [List.flatMap_cons, List.length_append, TR.wtL, Nat.mul_add]
    omega
theorem valP_wt {x nl : Bool} {k : Int} {part : TR → List UInt8} {t : TR} {K : Nat} (hp : (part t).length ≤ K * t.wt) : (valP x k part nl t).length ≤ (20 + K) * t.wt := by
  have h1 := t.wt_pos
  have hs : t.s.length + 1 ≤ t.wt := by cases t; simp only [TR.s, TR.wt]; omega
  have hw := wholeP_le t.s
  have hws : (wholeP t.s).length ≤ t.s.length := by simp [wholeP]; omega
  have hw2 : (if nl = true then [] else wholeP t.s).length ≤ 32767 := by cases nl <;> simp <;> omega
  have hw3 : (if nl = true then [] else wholeP t.s).length ≤ t.s.length := by cases nl <;> simp; omega
  rw [Nat.add_mul]
  have hb : ∀ n, n ≤ 20 → n ≤ 20 * t.wt := fun n hn => by omega
  unfold valP
  by_cases h0 : k = 0
  · rw [if_pos h0]; simp; omega
  rw [if_neg h0]
  by_cases h7 : k = 7
  · rw [if_pos h7]; simp [uuidP]; omega
  rw [if_neg h7]
  by_cases h8 : k = 8
  · rw [if_pos h8]
    have := countedP_le (x := x) (nl := nl) (k := 2) hw2 (by omega)
    simp only [List.length_append]; omega
  rw [if_neg h8]
  by_cases h9 : k = 9
  · rw [if_pos h9]
    have := countedP_le (x := x) (nl := nl) (k := 4) hw2 (by omega)
    simp only [List.length_append]; omega
  rw [if_neg h9]
  by_cases h10 : k = 10
  · rw [if_pos h10]; omega
  · rw [if_neg h10, beI_length]
    have := widthP_le k; omega
end Go.Msk

namespace Go.Msk
open Go.RowKit Go.ChangeShapes Go.WideShapes Go.ChangeAt
set_option maxRecDepth 100000
structure TreeTy (P : Program) (tT ti tS u8 tB tL tU tG tk : TypeId) : Prop where
  hT : ∃ fs : Array Field, P.underlying tT = some (.struct fs) ∧ fs.toList.map (fun f => (f.type, f.offset)) = [(ti, 0), (tS, 1), (tB, 2), (tL, 3), (tU, 4)]
  cT : P.cellsOf tT = 5
  hi : P.underlying ti = some (.int .i64)
  ci : P.cellsOf ti = 1
  hS : P.underlying tS = some (.slice u8)
  cS : P.cellsOf tS = 1
  h8 : P.underlying u8 = some (.int .u8)
  c8 : P.cellsOf u8 = 1
  hB : P.underlying tB = some .bool
  cB : P.cellsOf tB = 1
  hL : P.underlying tL = some (.slice tT)
  cL : P.cellsOf tL = 1
  hU : P.underlying tU = some (.slice tG)
  cU : P.cellsOf tU = 1
  hG : ∃ fs : Array Field, P.underlying tG = some (.struct fs) ∧ fs.toList.map (fun f => (f.type, f.offset)) = [(tk, 0), (tS, 1)]
  cG : P.cellsOf tG = 2
  hk : P.underlying tk = some (.int .u32)
  ck : P.cellsOf tk = 1
structure Bulk {H : Type} (f : DataW H → Nat) (fa : List (DataW H) → Nat) : Prop where
  int : ∀ k n, 1 ≤ f (.lit (.int k n))
  bool : ∀ b, 1 ≤ f (.lit (.bool b))
  none : 1 ≤ f .nil
  slice : ∀ a b, f (.slice a b) = fa a + fa b + 1
  agg : ∀ a, f (.agg a) = fa a + 1
  nil : fa [] = 0
  cons : ∀ d r, fa (d :: r) = f d + fa r
theorem Cells.join {w : World} {B o : Nat} {a b : List Value} (h : Cells w ⟨B, o, none⟩ a) (k : Cells w ⟨B, o + a.length, none⟩ b) : Cells w ⟨B, o, none⟩ (a ++ b) := by
  refine ⟨rfl, fun i v hv => ?_⟩
  by_cases hi : i < a.length
  · rw [List.getElem?_append_left hi] at hv; exact h.2 i v hv
  · rw [List.getElem?_append_right (by omega)] at hv
    have := k.2 _ v hv
    rwa [show o + a.length + (i - a.length) = o + i by omega] at this
theorem Cells.joinAll {w : World} {B sz : Nat} : ∀ {css : List (List Value)} {o : Nat}, (∀ c ∈ css, c.length = sz) → (∀ (i : Nat) (c : List Value), css[i]? = some c → Cells w ⟨B, o + i * sz, none⟩ c) → Cells w ⟨B, o, none⟩ css.flatten
  | [], o, _, _ => ⟨rfl, fun i v hv => by simp at hv⟩
  | c :: css, o, hs, h => by
    rw [List.flatten_cons]
    have h0 := h 0 c rfl
    refine Cells.join (by simpa using h0) ?_
    rw [hs c (by simp)]
    refine Cells.joinAll (fun x hx => hs x (by simp [hx])) fun i x hx => ?_
    have := h (i + 1) x (by simpa using hx)
    rwa [show o + sz + i * sz = o + (i + 1) * sz by rw [Nat.add_mul, Nat.one_mul]; omega]
section
variable {H : Type} {enc : TypeId × Value → H} {P : Program} {w : World}
theorem cells?_spec {a : Addr} {n : Nat} {cs : List Value} (h : w.cells? 0 a n = some cs) : cs.length = n ∧ (0 < n → a.spot = none ∧ a.block < w.heap.size ∧ Cells w a cs) := by
  unfold World.cells? at h
  rw [if_pos (Nat.zero_le _)] at h
  have hl : cs.length = n := by simpa using mapM_some_length h
  refine ⟨hl, fun hn => ?_⟩
  have hg : ∀ i, i < n → w.cell? (a.add i) = cs[i]? := fun i hi => mapM_some_get h i i (by simp [hi])
  have h0 := hg 0 hn
  obtain ⟨v, hv⟩ : ∃ v, cs[0]? = some v := ⟨cs[0], List.getElem?_eq_getElem (by omega)⟩
  rw [hv] at h0
  have hspot : a.spot = none := by simpa [Addr.add] using World.cell?_spot h0
  have hlt : a.block < w.heap.size := by have := World.block_lt_of_cell? w _ h0; simpa [Addr.add] using this
  refine ⟨hspot, hlt, hspot, fun i v hi => ?_⟩
  have hi' : i < n := by rw [← hl]; exact (List.getElem?_eq_some_iff.1 hi).1
  have := hg i hi'
  rw [hi, Addr.add_of hspot] at this
  exact this
theorem slice_things {base : Addr} {len cap sz n : Nat} {e : TypeId} {elems rest : List (DataW H × List MemPlace)} (hsz : P.cellsOf e = sz) (hpos : 0 < sz) (hlen : len ≤ cap) (hel : elems.length = len)
    (he : ∀ i, i < len → (w.cells? 0 (base.add (i * P.cellsOf e)) (P.cellsOf e)).bind (DataW.trod enc P w 0 (fun _ => true) true n e) = elems[i]?)
    (hr : rest.length = cap - len ∧ ∀ j, j < cap - len → (w.cells? 0 (base.add ((len + j) * P.cellsOf e)) (P.cellsOf e)).bind (DataW.trod enc P w 0 (fun _ => true) true n e) = rest[j]?) :
    ∃ css : List (List Value), css.length = len ∧ SlC anyB w (.slice (some base) len cap) len css.flatten ∧ (∀ c ∈ css, c.length = sz) ∧ ∀ (i : Nat) (c : List Value), css[i]? = some c → ∃ y, elems[i]? = some y ∧ DataW.trod enc P w 0 (fun _ => true) true n e c = some y := by
  subst hsz
  have hone : ∀ i, i < len → ∃ cs y, w.cells? 0 (base.add (i * P.cellsOf e)) (P.cellsOf e) = some cs ∧ DataW.trod enc P w 0 (fun _ => true) true n e cs = some y ∧ elems[i]? = some y := by
    intro i hi
    have h := he i hi
    have hg := List.getElem?_eq_getElem (l := elems) (i := i) (by omega)
    rw [hg] at h
    obtain ⟨cs, h1, h2⟩ := Option.bind_eq_some_iff.1 h
    exact ⟨cs, _, h1, h2, hg⟩
  have hb : 0 < cap → base.spot = none ∧ base.block < w.heap.size := by
    intro hc
    by_cases h0 : 0 < len
    · obtain ⟨cs, y, h1, -⟩ := hone 0 h0
      obtain ⟨-, h2⟩ := cells?_spec h1
      obtain ⟨q1, q2, -⟩ := h2 hpos
      exact ⟨by simpa [Addr.add] using q1, by simpa [Addr.add] using q2⟩
    · have h := hr.2 0 (by omega)
      rw [List.getElem?_eq_getElem (by omega)] at h
      obtain ⟨cs, h1, -⟩ := Option.bind_eq_some_iff.1 h
      have e0 : len = 0 := by omega
      subst e0
      obtain ⟨-, h2⟩ := cells?_spec h1
      obtain ⟨q1, q2, -⟩ := h2 hpos
      exact ⟨by simpa [Addr.add] using q1, by simpa [Addr.add] using q2⟩
  let css := (List.range len).map fun i => (w.cells? 0 (base.add (i * P.cellsOf e)) (P.cellsOf e)).getD []
  have hget : ∀ (i : Nat) (c : List Value), css[i]? = some c → i < len ∧ w.cells? 0 (base.add (i * P.cellsOf e)) (P.cellsOf e) = some c := by
    intro i c hc
    have hi : i < len := by have := (List.getElem?_eq_some_iff.1 hc).1; simpa [css] using this
    refine ⟨hi, ?_⟩
    obtain ⟨cs, y, h1, -⟩ := hone i hi
    simp only [css, List.getElem?_map, List.getElem?_range hi, Option.map_some, h1, Option.getD_some, Option.some.injEq] at hc
    rw [h1, hc]
  have hszs : ∀ c ∈ css, c.length = P.cellsOf e := by
    intro c hc
    obtain ⟨i, hi⟩ := List.getElem?_of_mem hc
    exact (cells?_spec (hget i c hi).2).1
  refine ⟨css, by simp [css], ⟨some base, cap, rfl, hlen, by simp, fun a ha hc => ?_⟩, hszs, fun i c hi => ?_⟩
  · simp only [Option.some.injEq] at ha; subst ha
    obtain ⟨h1, h2⟩ := hb hc
    refine ⟨trivial, h2, ?_⟩
    obtain ⟨B, o, s⟩ := base
    simp only at h1
    subst h1
    refine Cells.joinAll hszs fun i c hi => ?_
    obtain ⟨hil, hcs⟩ := hget i c hi
    obtain ⟨-, h3⟩ := cells?_spec hcs
    obtain ⟨-, -, q⟩ := h3 hpos
    rwa [Addr.add_mk] at q
  · obtain ⟨hil, hcs⟩ := hget i c hi
    obtain ⟨cs, y, h1, h2, h3⟩ := hone i hil
    rw [h1] at hcs
    simp only [Option.some.injEq] at hcs
    exact ⟨y, h3, by rw [← hcs]; exact h2⟩
theorem octets_of {t u : TypeId} {n : Nat} {cs : List Value} {x : DataW H × List MemPlace} (ht : P.underlying t = some (.slice u)) (hu : P.underlying u = some (.int .u8)) (hc : P.cellsOf u = 1) (h : DataW.trod enc P w 0 (fun _ => true) true n t cs = some x) :
    ∃ v l, cs = [v] ∧ SlC anyB w v l.length (u8s l) ∧ ∀ f fa, Bulk (H := H) f fa → l.length + 1 ≤ f x.1 := by
  rcases DataW.trod_slice ht h with ⟨rfl, rfl⟩ | ⟨a, len, cap, elems, rest, m, -, rfl, ex, -, hl, -, hel, he, hr, -⟩
  · exact ⟨_, [], rfl, SlC.nil, fun f fa B => B.none⟩
  · obtain ⟨css, k1, k2, k3, k4⟩ := slice_things (sz := 1) hc (by omega) hl hel he (hr rfl)
    have key : ∀ (css : List (List Value)) (es : List (DataW H × List MemPlace)), (∀ (i : Nat) (c : List Value), css[i]? = some c → ∃ y, es[i]? = some y ∧ DataW.trod enc P w 0 (fun _ => true) true m u c = some y) → ∃ l : List UInt8, l.length = css.length ∧ css.flatten = u8s l ∧ ∀ f fa, Bulk (H := H) f fa → l.length ≤ fa (es.map (·.1)) := by
      intro css
      induction css with
      | nil => intro es _; exact ⟨[], rfl, rfl, fun f fa _ => Nat.zero_le _⟩
      | cons c css ih =>
        intro es hh
        obtain ⟨y, h0, hy⟩ := hh 0 c rfl
        obtain ⟨es, rfl⟩ : ∃ r, es = y :: r := by
          cases es with
          | nil => simp at h0
          | cons a r => simp only [List.getElem?_cons_zero, Option.some.injEq] at h0; exact ⟨r, by rw [h0]⟩
        obtain ⟨z, rfl, ey, hw⟩ := DataW.trod_int hu hy
        obtain ⟨l, h1, h2, h3⟩ := ih es fun i x hx => by have := hh (i + 1) x (by simpa using hx); simpa using this
        obtain ⟨z0, z1⟩ := u8_of hw
        refine ⟨UInt8.ofNat z.toNat :: l, by simp [h1], ?_, fun f fa B => by
          have q := h3 f fa B
          have q0 := B.int .u8 z
          rw [List.map_cons, B.cons, ey, List.length_cons]
          show _ ≤ f (.lit (.int .u8 z)) + _
          omega⟩
        have e : ((UInt8.ofNat z.toNat).toNat : Int) = z := by simp; omega
        simp only [List.flatten_cons, h2, u8s, List.map_cons, List.cons_append, List.nil_append]
        rw [e]
    obtain ⟨l, h1, h2, h3⟩ := key css elems k4
    refine ⟨_, l, rfl, ?_, fun f fa B => ?_⟩
    · rw [h1, k1, ← h2]; exact k2
    · have q := h3 f fa B
      rw [ex]
      show _ ≤ f (.slice _ _)
      rw [B.slice]
      omega
theorem u32_of {n : Int} (h : (Lit.int .u32 n).wf = true) : 0 ≤ n ∧ n < 4294967296 := by
  simp only [Lit.wf, Bool.and_eq_true, decide_eq_true_eq] at h
  have h1 : IntKind.u32.min = 0 := by rfl
  have h2 : IntKind.u32.max = 4294967295 := by rfl
  omega
theorem i64_of {n : Int} (h : (Lit.int .i64 n).wf = true) : IntKind.i64.wrap n = n := by
  simp only [Lit.wf, Bool.and_eq_true, decide_eq_true_eq] at h
  have h1 : IntKind.i64.min = -9223372036854775808 := by rfl
  have h2 : IntKind.i64.max = 9223372036854775807 := by rfl
  simp only [IntKind.wrap, IntKind.bits, IntKind.signed]; simp; omega
variable {tT ti tS u8 tB tL tU tG tk : TypeId}
theorem field_at {fs : Array Field} {l : List (TypeId × Nat)} (h : fs.toList.map (fun f => (f.type, f.offset)) = l) {i : Nat} {t : TypeId} {o : Nat} (hi : l[i]? = some (t, o)) : ∃ f, fs[i]? = some f ∧ f.type = t ∧ f.offset = o := by
  rw [← h, List.getElem?_map] at hi
  obtain ⟨f, hf, e⟩ := Option.map_eq_some_iff.1 hi
  simp only [Prod.mk.injEq] at e
  exact ⟨f, by simpa using hf, e.1, e.2⟩
theorem tag_of (T : TreeTy P tT ti tS u8 tB tL tU tG tk) {n : Nat} {cs : List Value} {x : DataW H × List MemPlace} (h : DataW.trod enc P w 0 (fun _ => true) true n tG cs = some x) :
    ∃ (k : Nat) (v : Value) (l : List UInt8), cs = [.int .u32 k, v] ∧ k < 4294967296 ∧ SlC anyB w v l.length (u8s l) ∧ ∀ f fa, Bulk (H := H) f fa → 1 + l.length ≤ f x.1 := by
  obtain ⟨fs, hfs, hl⟩ := T.hG
  obtain ⟨xs, m, -, ex, hlen, hxl, hx⟩ := DataW.trod_struct hfs h
  rw [T.cG] at hlen
  obtain ⟨a, b, rfl⟩ : ∃ a b, cs = [a, b] := by match cs, hlen with | [a, b], _ => exact ⟨a, b, rfl⟩
  have hn : xs.length = 2 := by rw [hxl, ← Array.length_toList, ← List.length_map (f := fun f : Field => (f.type, f.offset)), hl]; rfl
  obtain ⟨f0, g0, g1, g2⟩ := field_at hl (i := 0) rfl
  obtain ⟨f1, k0, k1, k2⟩ := field_at hl (i := 1) rfl
  have q0 := hx 0 f0 g0
  have q1 := hx 1 f1 k0
  rw [g1, g2, T.ck, List.getElem?_eq_getElem (by omega)] at q0
  rw [k1, k2, T.cS, List.getElem?_eq_getElem (by omega)] at q1
  simp only [List.drop_zero, List.take_succ_cons, List.take_zero, List.drop_succ_cons] at q0 q1
  obtain ⟨z, e0, -, hw⟩ := DataW.trod_int T.hk q0
  obtain ⟨v, l, e1, hs, hb⟩ := octets_of T.hS T.h8 T.c8 q1
  simp only [List.cons.injEq, and_true] at e0 e1
  obtain ⟨z0, z1⟩ := u32_of hw
  refine ⟨z.toNat, v, l, ?_, by omega, hs, fun f fa B => ?_⟩
  · rw [e0, e1, Int.toNat_of_nonneg z0]
  · have q := hb f fa B
    obtain ⟨a, b, rfl⟩ : ∃ a b, xs = [a, b] := by match xs, hn with | [a, b], _ => exact ⟨a, b, rfl⟩
    simp only [List.getElem_cons_succ, List.getElem_cons_zero] at q
    rw [ex]
    show _ ≤ f (.agg _)
    rw [B.agg]
    simp only [List.map_cons, B.cons]
    omega
theorem tree_of (T : TreeTy P tT ti tS u8 tB tL tU tG tk) : ∀ (n : Nat) (cs : List Value) (x : DataW H × List MemPlace), DataW.trod enc P w 0 (fun _ => true) true n tT cs = some x → ∃ t : TR, RepT anyB w t cs ∧ t.kok ∧ t.nok ∧ ∀ f fa, Bulk (H := H) f fa → t.wt ≤ f x.1 := by
  intro n
  induction n using Nat.strongRecOn with
  | ind n ih =>
  intro cs x h
  obtain ⟨fs, hfs, hl⟩ := T.hT
  obtain ⟨xs, m, hm, ex, hlen, hxl, hx⟩ := DataW.trod_struct hfs h
  rw [T.cT] at hlen
  obtain ⟨a, b, c, d, e, rfl⟩ : ∃ a b c d e, cs = [a, b, c, d, e] := by match cs, hlen with | [a, b, c, d, e], _ => exact ⟨a, b, c, d, e, rfl⟩
  have hn : xs.length = 5 := by rw [hxl, ← Array.length_toList, ← List.length_map (f := fun f : Field => (f.type, f.offset)), hl]; rfl
  obtain ⟨f0, g0, g1, g2⟩ := field_at hl (i := 0) rfl
  obtain ⟨f1, k0, k1, k2⟩ := field_at hl (i := 1) rfl
  obtain ⟨f2, m0, m1, m2⟩ := field_at hl (i := 2) rfl
  obtain ⟨f3, p0, p1, p2⟩ := field_at hl (i := 3) rfl
  obtain ⟨f4, r0, r1, r2⟩ := field_at hl (i := 4) rfl
  have q0 := hx 0 f0 g0
  have q1 := hx 1 f1 k0
  have q2 := hx 2 f2 m0
  have q3 := hx 3 f3 p0
  have q4 := hx 4 f4 r0
  rw [g1, g2, T.ci, List.getElem?_eq_getElem (by omega)] at q0
  rw [k1, k2, T.cS, List.getElem?_eq_getElem (by omega)] at q1
  rw [m1, m2, T.cB, List.getElem?_eq_getElem (by omega)] at q2
  rw [p1, p2, T.cL, List.getElem?_eq_getElem (by omega)] at q3
  rw [r1, r2, T.cU, List.getElem?_eq_getElem (by omega)] at q4
  simp only [List.drop_zero, List.take_succ_cons, List.take_zero, List.drop_succ_cons] at q0 q1 q2 q3 q4
  obtain ⟨z, e0, -, hwz⟩ := DataW.trod_int T.hi q0
  obtain ⟨sv, s, e1, hs, hsb⟩ := octets_of T.hS T.h8 T.c8 q1
  obtain ⟨nb, e2, -⟩ := DataW.trod_bool T.hB q2
  simp only [List.cons.injEq, and_true] at e0 e1 e2
  -- the tree's own
  have hlist : ∃ (ls : List TR) (css : List (List Value)), SlC anyB w d ls.length css.flatten ∧ RepTL anyB w ls css ∧ TR.kokL ls ∧ TR.nokL ls ∧ ∀ f fa, Bulk (H := H) f fa → TR.wtL ls + 1 ≤ f (xs[3]'(by omega)).1 := by
    rcases DataW.trod_slice T.hL q3 with ⟨e3, e4⟩ | ⟨ad, len, cap, elems, rest, mm, hmm, e3, e4, -, hle, -, hel, he, hr, -⟩
    · simp only [List.cons.injEq, and_true] at e3
      subst e3
      exact ⟨[], [], SlC.nil, .nil, trivial, trivial, fun f fa B => by rw [e4]; exact B.none⟩
    · simp only [List.cons.injEq, and_true] at e3
      subst e3
      obtain ⟨css, u1, u2, -, u4⟩ := slice_things (sz := 5) T.cT (by omega) hle hel he (hr rfl)
      have key : ∀ (css : List (List Value)) (es : List (DataW H × List MemPlace)), (∀ (i : Nat) (c : List Value), css[i]? = some c → ∃ y, es[i]? = some y ∧ DataW.trod enc P w 0 (fun _ => true) true mm tT c = some y) → ∃ ls : List TR, ls.length = css.length ∧ RepTL anyB w ls css ∧ TR.kokL ls ∧ TR.nokL ls ∧ ∀ f fa, Bulk (H := H) f fa → TR.wtL ls ≤ fa (es.map (·.1)) := by
        intro css
        induction css with
        | nil => intro es _; exact ⟨[], rfl, .nil, trivial, trivial, fun f fa _ => Nat.zero_le _⟩
        | cons c css ihc =>
          intro es hh
          obtain ⟨y, h0, hy⟩ := hh 0 c rfl
          obtain ⟨es, rfl⟩ : ∃ r, es = y :: r := by
            cases es with
            | nil => simp at h0
            | cons a r => simp only [List.getElem?_cons_zero, Option.some.injEq] at h0; exact ⟨r, by rw [h0]⟩
          obtain ⟨t, ht, hk, hno, hb⟩ := ih mm (by omega) c y hy
          obtain ⟨ls, v1, v2, v3, v5, v4⟩ := ihc es fun i x hx => by have := hh (i + 1) x (by simpa using hx); simpa using this
          exact ⟨t :: ls, by simp [v1], .cons ht v2, ⟨hk, v3⟩, ⟨hno, v5⟩, fun f fa B => by
            have q1 := hb f fa B
            have q2 := v4 f fa B
            rw [List.map_cons, B.cons]
            simp only [TR.wtL]
            omega⟩
      obtain ⟨ls, v1, v2, v3, v5, v4⟩ := key css elems u4
      exact ⟨ls, css, by rw [v1, u1]; exact u2, v2, v3, v5, fun f fa B => by
        have q := v4 f fa B
        rw [e4]
        show _ ≤ f (.slice _ _)
        rw [B.slice]
        omega⟩
  have htags : ∃ (u : List (Nat × List UInt8)) (uss : List (List Value)), SlC anyB w e u.length uss.flatten ∧ RepU anyB w u uss ∧ (∀ p ∈ u, p.1 < 4294967296) ∧ ∀ f fa, Bulk (H := H) f fa → wtU u + 1 ≤ f (xs[4]'(by omega)).1 := by
    rcases DataW.trod_slice T.hU q4 with ⟨e3, e4⟩ | ⟨ad, len, cap, elems, rest, mm, hmm, e3, e4, -, hle, -, hel, he, hr, -⟩
    · simp only [List.cons.injEq, and_true] at e3
      subst e3
      exact ⟨[], [], SlC.nil, .nil, by simp, fun f fa B => by rw [e4]; exact B.none⟩
    · simp only [List.cons.injEq, and_true] at e3
      subst e3
      obtain ⟨css, u1, u2, -, u4⟩ := slice_things (sz := 2) T.cG (by omega) hle hel he (hr rfl)
      have key : ∀ (css : List (List Value)) (es : List (DataW H × List MemPlace)), (∀ (i : Nat) (c : List Value), css[i]? = some c → ∃ y, es[i]? = some y ∧ DataW.trod enc P w 0 (fun _ => true) true mm tG c = some y) → ∃ u : List (Nat × List UInt8), u.length = css.length ∧ RepU anyB w u css ∧ (∀ p ∈ u, p.1 < 4294967296) ∧ ∀ f fa, Bulk (H := H) f fa → wtU u ≤ fa (es.map (·.1)) := by
        intro css
        induction css with
        | nil => intro es _; exact ⟨[], rfl, .nil, by simp, fun f fa _ => Nat.zero_le _⟩
        | cons c css ihc =>
          intro es hh
          obtain ⟨y, h0, hy⟩ := hh 0 c rfl
          obtain ⟨es, rfl⟩ : ∃ r, es = y :: r := by
            cases es with
            | nil => simp at h0
            | cons a r => simp only [List.getElem?_cons_zero, Option.some.injEq] at h0; exact ⟨r, by rw [h0]⟩
          obtain ⟨k, v, l, rfl, hk, hv, hb⟩ := tag_of T hy
          obtain ⟨u, v1, v2, v3, v4⟩ := ihc es fun i x hx => by have := hh (i + 1) x (by simpa using hx); simpa using this
          refine ⟨(k, l) :: u, by simp [v1], .cons hv v2, fun p hp => ?_, fun f fa B => ?_⟩
          · rcases List.mem_cons.1 hp with rfl | hp
            · exact hk
            · exact v3 p hp
          · have q1 := hb f fa B
            have q2 := v4 f fa B
            rw [List.map_cons, B.cons]
            simp only [wtU]
            omega
      obtain ⟨u, v1, v2, v3, v4⟩ := key css elems u4
      exact ⟨u, css, by rw [v1, u1]; exact u2, v2, v3, fun f fa B => by
        have q := v4 f fa B
        rw [e4]
        show _ ≤ f (.slice _ _)
        rw [B.slice]
        omega⟩
  obtain ⟨ls, css, l1, l2, l3, l5, l4⟩ := hlist
  obtain ⟨u, uss, w1, w2, w3, w4⟩ := htags
  subst e0; subst e1; subst e2
  refine ⟨.mk z s nb ls u, .mk hs l1 l2 w1 w2, ⟨w3, l3⟩, ⟨i64_of hwz, l5⟩, fun f fa B => ?_⟩
  have a1 := hsb f fa B
  have a2 := l4 f fa B
  have a3 := w4 f fa B
  obtain ⟨x0, x1, x2, x3, x4, rfl⟩ : ∃ a b c d e, xs = [a, b, c, d, e] := by match xs, hn with | [a, b, c, d, e], _ => exact ⟨a, b, c, d, e, rfl⟩
  simp only [List.getElem_cons_succ, List.getElem_cons_zero] at a1 a2 a3
  rw [ex]
  show _ ≤ f (.agg _)
  rw [B.agg]
  simp only [List.map_cons, B.cons, TR.wt]
  omega
theorem open_tree (T : TreeTy P tT ti tS u8 tB tL tU tG tk) (hl : laidOutB P = true) (hrd : P.readableRec tT = true) (hrow : tT < P.types.size) {v : Value} {d : DataW H} {p : List MemPlace} {base : Nat} (hv : Value.okWide P w .any base tT v)
    (h : DataW.Trod enc P w 0 (fun _ => true) true tT v d p) :
    ∃ (t : TR) (ts : List Value), v = .agg ts.toArray ∧ RepT anyB w t ts ∧ t.kok ∧ t.nok ∧ (∀ f fa, Bulk (H := H) f fa → t.wt ≤ f d) ∧ ∀ W', Mod [] w W' → DataW.Trod enc P W' 0 (fun b => decide (b < w.heap.size)) true tT v d p := by
  obtain ⟨fs, hfs, -⟩ := T.hT
  simp only [Value.okWide, hfs] at hv
  obtain ⟨cs, rfl, -, -⟩ := hv
  obtain ⟨n, hn⟩ := id h
  obtain ⟨t, ht, hk, hno, hb⟩ := tree_of T n _ _ hn
  have ec : (Value.agg cs).cells.toList = cs.toList := rfl
  rw [ec] at ht
  have hlt : ∀ q ∈ p, q.block < w.heap.size := fun q hq => DataW.trod_lt n tT _ _ hn q hq
  refine ⟨t, cs.toList, by simp, ht, hk, hno, hb, fun W' hm => ?_⟩
  refine Go.WideElems.Trod_stays hl hrd hrow h (fun q hq => ?_) fun q hq => by simpa using hlt q hq
  have hq := hlt q hq
  cases q with
  | cell b off => exact World.cell?_of_block (hm.block b hq (by simp))
  | map b => exact hm.block b hq (by simp)
end
end Go.Msk

namespace Go.Msk
open Go.RowKit Go.ChangeShapes Go.WideShapes Go.ChangeAt
section
variable {H : Type} {enc : TypeId × Value → H}
theorem witness_cond {C : Checked} {os : Os} {f : FuncId} {fn : Func} {s : OpenSpec} {k : (H : Type) → List (DataW H) → Bool} (hk : s.cond = some k) {apart : Bool} {X : World → Array Value → Prop} (w0 : World) (args : Array Value) (fuel : Nat) (hos : w0.os = os)
    (hsh : (w0.forCall (fun _ _ => 0) ⟨#[], args, []⟩).Shaped C.prog)
    (hok : Input.okWideB C.prog (w0.forCall (fun _ _ => 0) ⟨#[], args, []⟩) f ⟨#[], args, []⟩ = true)
    (hpre : ((DataW.whole enc C.prog (w0.forCall (fun _ _ => 0) ⟨#[], args, []⟩).memory fn.params.toList s.vars apart args.toList fuel).any fun x => k H (x.1 ++ x.2.1)) = true)
    (hsz : s.bare.sizedB enc C.prog fn apart (w0.forCall (fun _ _ => 0) ⟨#[], args, []⟩).memory args fuel = true)
    (hx : X (w0.forCall (fun _ _ => 0) ⟨#[], args, []⟩).memory args) :
    ∃ (w : World) (tape : Tape) (i : Input), w.os = os ∧ (w.forCall tape i).Shaped C.prog ∧ i.vars = [] ∧ Input.okWide C.prog (w.forCall tape i) .any w.heap.size f i ∧
      ((s.pre enc C.prog fn [] apart (w.forCall tape i).memory i.args ∧ X (w.forCall tape i).memory i.args) ∧ sizedMet enc C.prog fn s apart (w.forCall tape i).memory i.args) ∧ ({} : Assume).holds C.prog (lone (Frame.enter C.prog f i.args .normal) [] (w.forCall tape i)) := by
  refine ⟨w0, fun _ _ => 0, ⟨#[], args, []⟩, hos, hsh, (Input.okWide_of_okWideB (base := 0) hok).1, (Input.okWide_of_okWideB hok).2, ⟨⟨?_, hx⟩, sizedMet_of_sizedB hsz⟩, ?_⟩
  · rw [Option.any_eq_true] at hpre
    obtain ⟨x, h1, h2⟩ := hpre
    exact (OpenSpec.pre_some hk [] apart _ _).2 ⟨x.1, x.2.1, x.2.2, DataW.Whole_of_whole h1, rfl, h2⟩
  · simp only [Assume.holds]
    exact ⟨by simp, by simp, fun _ => Modest.zero, by simp, by simp⟩
end
end Go.Msk

namespace Go.Msk
set_option maxRecDepth 100000
mutual
theorem FD.enc_wt (ver : Int) (x : Bool) : ∀ (f : FD) (t : TR), f.plain = true → t.kok → (f.enc ver x t).length ≤ f.kB * t.wt
  | .mk kind frm to null tag dfl of sub, t, hp, hk => by
    simp only [FD.plain, Bool.and_eq_true, decide_eq_true_eq] at hp
    have hpl := hp.2.2
    have h1 := t.wt_pos
    have part : ∀ y : TR, y.kok → (joinP x (bodyP ver x sub 0 y) (unknownP sub y.u)).length ≤ (FD.kL sub + 16) * y.wt := fun y hy => by
      rw [kok_body hpl, List.length_append, Nat.add_mul]
      have a := FD.bodyP_wt ver x sub 0 y hpl hy
      have b := tail_wt (x := x) hy
      omega
    rw [FD.enc_eq']
    simp only [FD.kind, FD.of, FD.null, FD.sub, FD.kB]
    have e60 : (60 + FD.kL sub) * t.wt = 60 * t.wt + FD.kL sub * t.wt := Nat.add_mul _ _ _
    unfold fieldP
    by_cases h11 : kind = 11
    · rw [if_pos h11, List.length_append]
      have hl : (if FD.nullV (.mk kind frm to null tag dfl of sub) ver t = true then [] else t.l.take 32767).length ≤ 32767 := by
        split
        · simp
        · exact take_le _
      have c := countedP_le (x := x) (nl := FD.nullV (.mk kind frm to null tag dfl of sub) ver t) (k := 4) hl (by omega)
      have hw : TR.wtL (if FD.nullV (.mk kind frm to null tag dfl of sub) ver t = true then [] else t.l.take 32767) + 1 ≤ t.wt := by
        split
        · simp only [TR.wtL]; omega
        · have := wtL_take t.l 32767
          cases t with
          | mk n s b l u => simp only [TR.l, TR.wt] at this ⊢; omega
      have f1 : ((if FD.nullV (.mk kind frm to null tag dfl of sub) ver t = true then [] else t.l.take 32767).flatMap (valP x of (fun y => joinP x (bodyP ver x sub 0 y) (unknownP sub y.u)) false)).length ≤ (20 + (FD.kL sub + 16)) * TR.wtL (if FD.nullV (.mk kind frm to null tag dfl of sub) ver t = true then [] else t.l.take 32767) :=
        wt_flat fun y hy => valP_wt (part y (by
          split at hy
          · simp at hy
          · exact TR.kok_mem hk (List.mem_of_mem_take hy)))
      have f2 : (20 + (FD.kL sub + 16)) * TR.wtL (if FD.nullV (.mk kind frm to null tag dfl of sub) ver t = true then [] else t.l.take 32767) ≤ (20 + (FD.kL sub + 16)) * t.wt := Nat.mul_le_mul_left _ (by omega)
      have f3 : (20 + (FD.kL sub + 16)) * t.wt = 36 * t.wt + FD.kL sub * t.wt := by rw [← Nat.add_mul]; congr 1; omega
      omega
    · rw [if_neg h11]
      have hpt : ((fun y => joinP x (bodyP ver x sub 0 y) (unknownP sub y.u)) t).length ≤ (FD.kL sub + 16) * t.wt := part t hk
      rw [Nat.add_mul] at hpt
      split
      · split
        · rw [beI_length]; omega
        · rw [List.length_append, beI_length]
          omega
      · have := valP_wt (x := x) (nl := FD.nullV (.mk kind frm to null tag dfl of sub) ver t) (k := kind) (part := fun y => joinP x (bodyP ver x sub 0 y) (unknownP sub y.u)) (part t hk)
        have f3 : (20 + (FD.kL sub + 16)) * t.wt = 36 * t.wt + FD.kL sub * t.wt := by rw [← Nat.add_mul]; congr 1; omega
        omega
theorem FD.bodyP_wt (ver : Int) (x : Bool) : ∀ (l : List FD) (i : Nat) (t : TR), FD.plainL l = true → t.kok → (bodyP ver x l i t).length ≤ FD.kL l * t.wt
  | [], _, _, _, _ => by simp [bodyP]
  | f :: l, i, t, hp, hk => by
    simp only [FD.plainL, Bool.and_eq_true] at hp
    have a := FD.enc_wt ver x f (t.at i) hp.1 (hk.at i)
    have a2 : f.kB * (t.at i).wt ≤ f.kB * t.wt := Nat.mul_le_mul_left _ (t.wt_at i)
    have b := FD.bodyP_wt ver x l (i + 1) t hp.2 hk
    simp only [bodyP, FD.kL, List.length_append, Nat.add_mul]
    split
    · omega
    · simp; omega
end
theorem writeP_wt {m : MD} {ver : Int} {t : TR} (hp : FD.plainL m.fs = true) (hk : t.kok) : (writeP m ver t).length ≤ (FD.kL m.fs + 16) * t.wt := by
  have e : writeP m ver t = bodyP ver (m.isFlex ver) m.fs 0 t ++ tailP (m.isFlex ver) t.u := by
    unfold writeP partP
    rw [unknownP_plain hp]; rfl
  rw [e, List.length_append, Nat.add_mul]
  have a := FD.bodyP_wt ver (m.isFlex ver) m.fs 0 t hp hk
  have b := tail_wt (x := m.isFlex ver) hk
  omega
end Go.Msk

namespace Go.Msk
open Go.RowKit
set_option maxRecDepth 100000
inductive FX where
  | mk (ps : List (Nat × Int)) (f : Option FuncId) (subs : List FX)
  deriving Inhabited
def applyPs (a : Nat → Int) : List (Nat × Int) → Nat → Int
  | [] => a
  | (o, n) :: r => applyPs (fun j => if j = o then n else a j) r
def cells8 (a : Nat → Int) (sv : Value) : List Value := [.int .i64 (a 0), .int .i64 (a 1), .int .i64 (a 2), .int .i64 (a 3), .int .i64 (a 4), .int .i64 (a 5), .int .i64 (a 6), sv]
mutual
def FX.fd : FX → FD
  | .mk ps _ subs => .mk (applyPs (fun _ => 0) ps 0) (applyPs (fun _ => 0) ps 1) (applyPs (fun _ => 0) ps 2) (applyPs (fun _ => 0) ps 3) (applyPs (fun _ => 0) ps 4) (applyPs (fun _ => 0) ps 5) (applyPs (fun _ => 0) ps 6) (FX.fds subs)
def FX.fds : List FX → List FD
  | [] => []
  | x :: l => x.fd :: FX.fds l
end
theorem FX.fds_length : ∀ l : List FX, (FX.fds l).length = l.length
  | [] => rfl
  | x :: l => by simp [FX.fds, FX.fds_length l]
def FX.cnt : FX → Nat
  | .mk _ none _ => 1
  | .mk _ (some _) _ => 2
def FX.slot (t : Nat) (x : FX) : Nat := t + x.cnt - 1
def FX.ops (t : Nat) : FX → List RI
  | .mk ps none _ => [⟨some t, .build fzero (ps.map fun p => (p.1, 1, .const (.int .i64 p.2))), none⟩]
  | .mk ps (some f) _ => [⟨some t, .call f [], none⟩, ⟨some (t + 1), .build fzero (ps.map (fun p => (p.1, 1, Operand.const (.int .i64 p.2))) ++ [(7, 1, .tmp t)]), none⟩]
def FX.gen (t : Nat) : List FX → List RI
  | [] => []
  | x :: l => x.ops t ++ FX.gen (t + x.cnt) l
def FX.cnts : List FX → Nat
  | [] => 0
  | x :: l => x.cnt + FX.cnts l
def FX.prts (o t : Nat) : List FX → List (Nat × Nat × Operand)
  | [] => []
  | x :: l => (o, 8, .tmp (x.slot t)) :: FX.prts (o + 8) (t + x.cnt) l
def FX.genSub (l : List FX) : IC × List RV × Nat :=
  (.seq (.blk [⟨some 0, .mv (.const (.slice none 0 0)), none⟩])
    (.seq (.blk (FX.gen 1 l ++ [⟨some (1 + FX.cnts l), .bslice l.length fzero (FX.prts 0 1 l), none⟩, ⟨some 0, .mv (.tmp (1 + FX.cnts l)), none⟩])) .ret), [.tmp 0], 2 + FX.cnts l)
def FX.genMsg (l : List FX) (flex : Int) : IC × List RV × Nat :=
  (.seq (.blk [⟨some 0, .alloc [.slice none 0 0, .int .i64 0], none⟩])
    (.seq (.blk (FX.gen 1 l ++ [⟨some (1 + FX.cnts l), .bslice l.length fzero (FX.prts 0 1 l), none⟩,
      ⟨some (2 + FX.cnts l), .build [.slice none 0 0, .int .i64 0] [(1, 1, .const (.int .i64 flex)), (0, 1, .tmp (1 + FX.cnts l))], none⟩, ⟨none, .st (.tmp 0) 2 (.tmp (2 + FX.cnts l)), none⟩])) .ret), [.cells 0 2], 3 + FX.cnts l)
mutual
/-- What is asked of the functions called, and of the places. -/
def FX.Ok (P : Program) : FX → Prop
  | .mk ps f subs => (ps.all fun p => Nat.blt p.1 7) = true ∧ (match f with | some f => liftF P f = some (FX.genSub subs) | none => subs = []) ∧ FX.OkL P subs
def FX.OkL (P : Program) : List FX → Prop
  | [] => True
  | x :: l => x.Ok P ∧ FX.OkL P l
end
theorem fill_ps (sv : Value) (σ : Sl) : ∀ (ps : List (Nat × Int)) (a : Nat → Int) (q : List (Nat × Nat × Value)), (ps.all fun p => Nat.blt p.1 7) = true →
    fillL (cells8 a sv) ((ps.map fun p => ((p.1, 1, Operand.const (.int .i64 p.2)) : Nat × Nat × Operand)).map (fun p => (p.1, p.2.1, ev σ p.2.2)) ++ q) = fillL (cells8 (applyPs a ps) sv) q
  | [], a, q, _ => rfl
  | (o, n) :: ps, a, q, h => by
    simp only [List.all_cons, Bool.and_eq_true] at h
    have ho : o < 7 := Nat.lt_of_succ_le (Nat.le_of_ble_eq_true h.1)
    simp only [List.map_cons, List.cons_append, fillL, ev, applyPs]
    rw [if_pos ⟨rfl, by simp [cells8]; omega⟩]
    have e : splice (cells8 a sv) o (Value.int .i64 n).cells.toList = cells8 (fun j => if j = o then n else a j) sv := by
      rcases (by omega : o = 0 ∨ o = 1 ∨ o = 2 ∨ o = 3 ∨ o = 4 ∨ o = 5 ∨ o = 6) with rfl | rfl | rfl | rfl | rfl | rfl | rfl <;> simp [splice, cells8, Value.cells]
    rw [e]
    exact fill_ps sv σ ps _ q h.2
theorem fill_parts : ∀ (css : List (List Value)) (pre : List Value), (∀ c ∈ css, c.length = 8) →
    fillL (pre ++ zrep css.length fzero) ((css.zipIdx 0).map fun p => (pre.length + p.2 * 8, 8, Value.agg p.1.toArray)) = some (pre ++ css.flatten) := by
  intro css
  have gen : ∀ (css : List (List Value)) (pre : List Value) (k : Nat) (o : Nat), (∀ c ∈ css, c.length = 8) → o + k * 8 = pre.length →
      fillL (pre ++ zrep css.length fzero) ((css.zipIdx k).map fun p => (o + p.2 * 8, 8, Value.agg p.1.toArray)) = some (pre ++ css.flatten) := by
    intro css
    induction css with
    | nil => intro pre k o _ _; simp [fillL, zrep]
    | cons c css ih =>
      intro pre k o h ho
      have hc := h c List.mem_cons_self
      simp only [List.zipIdx_cons, List.map_cons, fillL, List.length_cons]
      have ez : zrep (css.length + 1) fzero = fzero ++ zrep css.length fzero := by simp [zrep, List.replicate_succ]
      rw [ez, if_pos ⟨by simpa [Value.cells] using hc, by simp [fzero]; omega⟩]
      have : splice (pre ++ (fzero ++ zrep css.length fzero)) (o + k * 8) (Value.agg c.toArray).cells.toList = (pre ++ c) ++ zrep css.length fzero := by
        have e := splice_mid (pre := pre) (old := fzero) (post := zrep css.length fzero) (vs := c) ho.symm (by rw [hc]; rfl)
        simpa [Value.cells] using e
      rw [this, ih (pre ++ c) (k + 1) o (fun x hx => h x (List.mem_cons_of_mem _ hx)) (by simp; omega)]
      simp
  intro pre h
  exact gen css pre 0 pre.length h (by simp)
abbrev fromB (N : Nat) : Nat → Prop := fun b => N ≤ b
theorem SlC.fresh {N M : Nat} {w : World} {v : Value} {n : Nat} {cs : List Value} (h : SlC (fromB M) w v n cs) (hN : N ≤ M) : SlC (fromB N) w v n cs := h.mod (Mod.refl [] w) (by simp) fun _ _ h => Nat.le_trans hN h
theorem RepFL.fresh {N M : Nat} {w : World} {l : List FD} {cs : List (List Value)} (h : RepFL (fromB M) w l cs) (hN : N ≤ M) : RepFL (fromB N) w l cs := h.mod (Mod.refl [] w) (by simp) fun _ _ h => Nat.le_trans hN h
theorem SlC.hold {ok : Nat → Prop} {w w' : World} {v : Value} {n : Nat} {cs : List Value} (h : SlC ok w v n cs) (hm : Mod [] w w') : SlC ok w' v n cs := h.mod hm (by simp) fun _ _ h => h
theorem RepFL.hold {ok : Nat → Prop} {w w' : World} {l : List FD} {cs : List (List Value)} (h : RepFL ok w l cs) (hm : Mod [] w w') : RepFL ok w' l cs := h.mod hm (by simp) fun _ _ h => h
section
variable {P : Program}
attribute [local simp] gOk updo upd ev RK.val? isShift intBin Addr.add_mk args0 Value.cells undef
def SlotsR (N : Nat) (w : World) (σ : Sl) : List FX → Nat → List (List Value) → Prop
  | [], _, css => css = []
  | x :: l, t, css => ∃ cs r, css = cs :: r ∧ σ (x.slot t) = .agg cs.toArray ∧ RepF (fromB N) w x.fd cs ∧ SlotsR N w σ l (t + x.cnt) r
theorem SlotsR.rep {N : Nat} {w : World} {σ : Sl} : ∀ {l : List FX} {t : Nat} {css : List (List Value)}, SlotsR N w σ l t css → RepFL (fromB N) w (FX.fds l) css
  | [], _, _, h => by subst h; simp [FX.fds]; exact .nil
  | x :: l, t, _, ⟨cs, r, e1, e2, e3, e4⟩ => by subst e1; simp only [FX.fds]; exact .cons e3 e4.rep
theorem SlotsR.prts {N : Nat} {w : World} {σ : Sl} : ∀ {l : List FX} {t o k : Nat} {css : List (List Value)}, SlotsR N w σ l t css →
    (FX.prts (o + k * 8) t l).map (fun p => (p.1, p.2.1, ev σ p.2.2)) = (css.zipIdx k).map fun p => (o + p.2 * 8, 8, Value.agg p.1.toArray)
  | [], _, _, _, _, h => by subst h; rfl
  | x :: l, t, o, k, _, ⟨cs, r, e1, e2, e3, e4⟩ => by
    subst e1
    simp only [FX.prts, List.map_cons, List.zipIdx_cons, ev, e2]
    congr 1
    have := e4.prts (o := o) (k := k + 1)
    rw [show o + k * 8 + 8 = o + (k + 1) * 8 by omega]
    exact this
def SubC (P : Program) (f : FuncId) (l : List FX) : Prop :=
  ∀ w : World, Calls P f #[] w fun e w' => ∃ v css, e = .returned v ∧ SlC (fromB w.heap.size) w' v (FX.fds l).length css.flatten ∧ RepFL (fromB w.heap.size) w' (FX.fds l) css ∧ Mod [] w w'
def FX.SubsC (P : Program) : List FX → Prop
  | [] => True
  | .mk ps f subs :: l => (ps.all fun p => Nat.blt p.1 7) = true ∧ (match f with | some f => SubC P f subs | none => subs = []) ∧ FX.SubsC P l
theorem FX.gen_wp (N : Nat) : ∀ (l : List FX) (t : Nat) (σ : Sl) (w : World) (rest : List RI) (Q : Sl → World → Prop), FX.SubsC P l → 1 ≤ t → N ≤ w.heap.size →
    (∀ σ' w' css, (∀ s, s < t → σ' s = σ s) → Mod [] w w' → SlotsR N w' σ' l t css → wpR P rest σ' w' Q) → wpR P (FX.gen t l ++ rest) σ w Q
  | [], t, σ, w, rest, Q, _, _, _, hQ => hQ σ w [] (fun _ _ => rfl) (Mod.refl _ _) rfl
  | .mk ps f subs :: l, t, σ, w, rest, Q, hs, ht, hN, hQ => by
    obtain ⟨hps, hf, hl⟩ := hs
    simp only [FX.gen, List.append_assoc]
    cases f with
    | none =>
      simp only at hf
      subst hf
      simp only [FX.ops, List.cons_append, List.nil_append, FX.cnt]
      have hfill := fill_ps (.slice none 0 0) σ ps (fun _ => 0) [] hps
      simp only [List.append_nil] at hfill
      refine go1 (v := .agg (cells8 (applyPs (fun _ => 0) ps) (.slice none 0 0)).toArray) rfl (by
        simp only [RK.val?]
        rw [show fzero = cells8 (fun _ => 0) (.slice none 0 0) from rfl, hfill]; rfl) ?_
      refine FX.gen_wp N l (t + 1) _ w rest Q hl (by omega) hN fun σ' w' css hfr hm hsl => ?_
      refine hQ σ' w' (cells8 (applyPs (fun _ => 0) ps) (.slice none 0 0) :: css) (fun s h => by rw [hfr s (by omega)]; simp only [updo]; exact upd_ne _ _ (by omega)) hm ⟨_, _, rfl, ?_, ?_, hsl⟩
      · simp only [FX.slot, FX.cnt]
        rw [show t + 1 - 1 = t by omega, hfr t (by omega)]; simp only [updo]; exact upd_same _ _ _
      · rw [FX.fd]; simp only [FX.fds]; exact .mk (css := []) SlC.nil .nil
    | some f =>
      simp only at hf
      simp only [FX.ops, List.cons_append, List.nil_append, FX.cnt]
      refine goCall rfl (vs := []) rfl (hf w) ?_
      rintro e w1 ⟨v, css1, rfl, h1, h2, hm1⟩
      refine ⟨v, rfl, ?_⟩
      have hv1 : v.cells.size = 1 ∧ v.cells.toList = [v] := by obtain ⟨b, c, rfl⟩ := h1.shape; exact ⟨rfl, rfl⟩
      have hfill := fill_ps (.slice none 0 0) (upd σ t v) ps (fun _ => 0) [(7, 1, v)] hps
      refine go1 (v := .agg (cells8 (applyPs (fun _ => 0) ps) v).toArray) rfl (by
        simp only [RK.val?, List.map_append, List.map_cons, List.map_nil, updo]
        rw [show ev (upd σ t v) (.tmp t) = v from upd_same _ _ _, show fzero = cells8 (fun _ => 0) (.slice none 0 0) from rfl, hfill]
        simp only [fillL]
        rw [if_pos ⟨hv1.1, by simp [cells8]⟩, hv1.2]
        simp [splice, cells8]) ?_
      refine FX.gen_wp N l (t + 2) _ w1 rest Q hl (by omega) (Nat.le_trans hN hm1.size) fun σ' w' css hfr hm hsl => ?_
      refine hQ σ' w' (cells8 (applyPs (fun _ => 0) ps) v :: css) (fun s h => by rw [hfr s (by omega)]; simp only [updo, upd]; rw [if_neg (by omega), if_neg (by omega)]) (hm1.trans hm) ⟨_, _, rfl, ?_, ?_, hsl⟩
      · simp only [FX.slot, FX.cnt]
        rw [show t + 2 - 1 = t + 1 by omega, hfr (t + 1) (by omega)]; simp only [updo]; exact upd_same _ _ _
      · rw [FX.fd]; exact .mk ((h1.fresh hN).hold hm) ((h2.fresh hN).hold hm)
theorem FX.row_wp {N : Nat} {l : List FX} {css : List (List Value)} {σ : Sl} {w : World} {d : Nat} {rest : List RI} {Q : Sl → World → Prop} (hs : SlotsR N w σ l 1 css) (hN : N ≤ w.heap.size)
    (h : ∀ w', SlC (fromB N) w' (.slice (some ⟨w.heap.size, 0, none⟩) l.length l.length) (FX.fds l).length css.flatten → RepFL (fromB N) w' (FX.fds l) css → Mod [] w w' → wpR P rest (upd σ d (.slice (some ⟨w.heap.size, 0, none⟩) l.length l.length)) w' Q) :
    wpR P (⟨some d, .bslice l.length fzero (FX.prts 0 1 l), none⟩ :: rest) σ w Q := by
  refine wpR_run ?_
  have hrep := hs.rep
  have hlen : l.length = css.length := by rw [← FX.fds_length, hrep.length]
  have e1 := hs.prts (o := 0) (k := 0)
  have e2 := fill_parts css [] hrep.eight
  simp only [List.nil_append, List.length_nil, Nat.zero_add, Nat.zero_mul] at e1 e2
  simp only [RK.run, hlen]
  rw [e1, e2]
  intro T
  have hb := Blk.new w css.flatten T
  have hm : Mod [] w (w.alloc (.cells css.flatten.toArray T)) := Mod.alloc _ _ _
  have hsl : SlC (fromB N) (w.alloc (.cells css.flatten.toArray T)) (.slice (some ⟨w.heap.size, 0, none⟩) l.length l.length) (FX.fds l).length css.flatten :=
    ⟨_, _, by rw [FX.fds_length], by rw [FX.fds_length]; exact Nat.le_refl _, fun h => by simp at h, fun a ha _ => by
      simp only [Option.some.injEq] at ha; subst ha
      exact ⟨hN, hb.lt, hb.cells⟩⟩
  have := h _ hsl (hrep.hold hm) hm
  rw [hlen] at this
  exact this
theorem sub_call (hm : P.follows .mixedOrders = true) {f : FuncId} {l : List FX} (h : liftF P f = some (FX.genSub l)) (hs : FX.SubsC P l) : SubC P f l := by
  intro w
  unfold FX.genSub at h
  refine call_of (args := []) h hm (by simp) ?_
  clear h
  rw [wpC_seq, wpC_blk]
  refine go1 rfl rfl (wpR_done ?_)
  rw [wpC_seq, wpC_blk]
  refine FX.gen_wp w.heap.size l 1 _ w _ _ hs (Nat.le_refl _) (Nat.le_refl _) fun σ1 w1 css hfr hm1 hsl => ?_
  refine FX.row_wp hsl hm1.size fun w2 h1 h2 hm2 => ?_
  refine go1 (v := .slice (some ⟨w1.heap.size, 0, none⟩) l.length l.length) rfl (by simp) (wpR_done ?_)
  exact ret1 (v := .slice (some ⟨w1.heap.size, 0, none⟩) l.length l.length) (by simp) ⟨_, css, rfl, h1, h2, hm1.trans hm2⟩
mutual
theorem FX.okSub (hm : P.follows .mixedOrders = true) : ∀ x : FX, x.Ok P → (match x with | .mk ps f subs => (ps.all fun p => Nat.blt p.1 7) = true ∧ (match f with | some f => SubC P f subs | none => subs = []))
  | .mk ps f subs, h => by
    simp only [FX.Ok] at h
    refine ⟨h.1, ?_⟩
    cases f with
    | none => exact h.2.1
    | some f => exact sub_call hm h.2.1 (FX.okSubs hm subs h.2.2)
theorem FX.okSubs (hm : P.follows .mixedOrders = true) : ∀ l : List FX, FX.OkL P l → FX.SubsC P l
  | [], _ => trivial
  | .mk ps f subs :: l, h => by
    simp only [FX.OkL] at h
    have h1 := FX.okSub hm (.mk ps f subs) h.1
    exact ⟨h1.1, h1.2, FX.okSubs hm l h.2⟩
end
theorem msg_call (hm : P.follows .mixedOrders = true) {f : FuncId} {l : List FX} {flex : Int} (h : liftF P f = some (FX.genMsg l flex)) (hs : FX.OkL P l) {w : World} :
    Calls P f #[] w fun e w' => ∃ cs, e = .returned (.agg cs.toArray) ∧ RepM anyB w' ⟨FX.fds l, flex⟩ cs ∧ Mod [] w w' := by
  unfold FX.genMsg at h
  refine call_of (args := []) h hm (by simp) ?_
  clear h
  rw [wpC_seq, wpC_blk]
  refine goAlloc fun w0 hb0 hm0 => wpR_done ?_
  rw [wpC_seq, wpC_blk]
  refine FX.gen_wp w0.heap.size l 1 _ w0 _ _ (FX.okSubs hm l hs) (Nat.le_refl _) (Nat.le_refl _) fun σ1 w1 css hfr hm1 hsl => ?_
  refine FX.row_wp hsl hm1.size fun w2 h1 h2 hm2 => ?_
  refine go1 (v := .agg #[.slice (some ⟨w1.heap.size, 0, none⟩) l.length l.length, .int .i64 flex]) rfl (by
    simp only [RK.val?, List.map_cons, List.map_nil, ev, upd_same, fillL]
    simp [splice, Value.cells]) ?_
  have hb2 := hb0.mod (hm1.trans hm2) (by simp)
  refine goSt (b := w.heap.size) (v := .agg #[.slice (some ⟨w1.heap.size, 0, none⟩) l.length l.length, .int .i64 flex]) ?_ (by simp) hb2 rfl rfl (by simp [Value.cells, Value.oneCell']) fun w3 hb3 hm3 => ?_
  · simp only [ev, updo, upd]
    rw [if_neg (by omega), if_neg (by omega), hfr 0 (by omega)]
    simp
  have hm23 : Mod [] w w3 := Mod.drop (b := w.heap.size) (S := []) (((hm0.trans hm1).trans hm2).nil.trans hm3) (Nat.le_refl _)
  refine wpR_done (retN (cs := [.slice (some ⟨w1.heap.size, 0, none⟩) l.length l.length, .int .i64 flex]) (b := w.heap.size) ?_ (by simpa using hb3) rfl ⟨_, rfl, ?_, hm23⟩)
  · simp only [updo, upd]
    rw [if_neg (by omega), if_neg (by omega), hfr 0 (by omega)]
    simp
  · have hlt := hb0.lt
    exact .mk (h1.mod hm3 (by simp; omega) fun _ _ _ => trivial) (h2.mod hm3 (by simp; omega) fun _ _ _ => trivial)
end
end Go.Msk

namespace Go.Msk
open Go.RowKit
set_option maxRecDepth 100000
section
variable {flex : Int}
theorem md_len {fds : List FD} (hp : FD.plainL fds = true) (size : Nat.ble (FD.maxL (decide (flex ≥ 0)) fds + tagM (decide (flex ≥ 0))) 70368744176664 = true) (sizef : Nat.ble (FD.maxL false fds + tagM false) 70368744176664 = true) {t : TR} (hk : t.kok) (v : Int) : (writeP ⟨fds, flex⟩ v t).length + 1000 ≤ lim := by
  suffices (writeP ⟨fds, flex⟩ v t).length ≤ 70368744176664 by unfold lim; omega
  refine writeP_le hp hk ?_
  cases hf : MD.isFlex ⟨fds, flex⟩ v with
  | false => exact Nat.le_of_ble_eq_true sizef
  | true =>
    have hx : decide (flex ≥ 0) = true := by
      simp only [MD.isFlex, Bool.and_eq_true] at hf; exact hf.1
    have := Nat.le_of_ble_eq_true size
    rwa [hx] at this
theorem md_lenW {fds : List FD} (hp : FD.plainL fds = true) (size : Nat.ble (FD.kL fds) 1000000 = true) {t : TR} (hk : t.kok) (hw : t.wt ≤ 1048576) (v : Int) : (writeP ⟨fds, flex⟩ v t).length + 1000 ≤ lim := by
  have a := writeP_wt (m := ⟨fds, flex⟩) (ver := v) hp hk
  have b := Nat.le_of_ble_eq_true size
  have c : (FD.kL fds + 16) * t.wt ≤ 1000016 * 1048576 := Nat.mul_le_mul (by omega) hw
  have d : (FD.kL (MD.fs ⟨fds, flex⟩) + 16) * t.wt = (FD.kL fds + 16) * t.wt := rfl
  unfold lim
  omega
theorem i16_of {ver : Int} {most : Nat} (h0 : 0 ≤ ver) (h1 : ver ≤ most) (hm : most < 32768) : IntKind.i16.wrap ver = ver := by
  simp only [IntKind.wrap, IntKind.bits, IntKind.signed]; simp; omega
end
end Go.Msk
