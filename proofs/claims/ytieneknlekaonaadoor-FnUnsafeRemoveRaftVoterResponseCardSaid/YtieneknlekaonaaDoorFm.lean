/- A small language of resolved operations, and what the generic and the generated functions do in it (part 13). -/
import Derived.Test.YtieneknlekaonaaDoorFl

/-! laws.got: the whole. -/
namespace Go.Msk
open Go.RowKit
set_option maxRecDepth 100000

mutual
/-- Lists within what Go can hold. -/
def TR.small : TR → Prop
  | .mk _ s _ l u => s.length ≤ 2147483647 ∧ l.length ≤ 2147483647 ∧ u.length ≤ 2147483647 ∧ (∀ x ∈ u, x.2.length ≤ 2147483647) ∧ TR.smallL l
def TR.smallL : List TR → Prop
  | [] => True
  | t :: l => t.small ∧ TR.smallL l
end

theorem TR.smallL_mem : ∀ {l : List TR}, TR.smallL l → ∀ t ∈ l, t.small
  | [], _, t, h => by simp at h
  | a :: l, hs, t, h => by
    simp only [TR.smallL] at hs
    rcases List.mem_cons.1 h with rfl | h
    · exact hs.1
    · exact TR.smallL_mem hs.2 t h

section
variable {P : Program} {F : Nat → Nat}

theorem LRaw.slc {w : World} {n0 : Nat} {lv : Value} {css : List (List Value)} (h : LRaw w n0 lv css) {ok : Nat → Prop} (hok : ∀ b, n0 ≤ b → ok b) : SlC ok w lv css.length css.flatten := by
  rcases h.sl with ⟨rfl, rfl⟩ | ⟨BA, cap, rest, rfl, q2, q3, q4, q5⟩
  · exact SlC.nil
  · refine ⟨some ⟨BA, 0, none⟩, cap, rfl, q2, fun h => by simp at h, fun a ha => ?_⟩
    simp only [Option.some.injEq] at ha; subst ha
    refine ⟨hok _ q3, q4.lt, ?_⟩
    have := q4.cells.take css.flatten.length
    rwa [List.take_left] at this

theorem LRaw2.slc {w : World} {n0 : Nat} {lv : Value} {css : List (List Value)} (h : LRaw2 w n0 lv css) {ok : Nat → Prop} (hok : ∀ b, n0 ≤ b → ok b) : SlC ok w lv css.length css.flatten := by
  rcases h.sl with ⟨rfl, rfl⟩ | ⟨BA, cap, rest, rfl, q2, q3, q4, q5⟩
  · exact SlC.nil
  · refine ⟨some ⟨BA, 0, none⟩, cap, rfl, q2, fun h => by simp at h, fun a ha => ?_⟩
    simp only [Option.some.injEq] at ha; subst ha
    refine ⟨hok _ q3, q4.lt, ?_⟩
    have := q4.cells.take css.flatten.length
    rwa [List.take_left] at this

theorem got_one (hm : P.follows .mixedOrders = true) (h : liftF P (F lGot) = some (ir_lGot F)) {n : Int} {s : List UInt8} {null : Bool} {l : List TR} {u : List (Nat × List UInt8)} (hf : ∀ t ∈ l, GotAt P (F lGot) t)
    (hl : l.length ≤ 2147483647) (hul : u.length ≤ 2147483647) : GotAt P (F lGot) (.mk n s null l u) := by
  intro N w cs hN hrep
  obtain ⟨sv, lv0, uv0, css, uss, rfl, h1, h2, h3, h4, h5⟩ : ∃ sv lv0 uv0 css uss, cs = [.int .i64 n, sv, .bool null, lv0, uv0] ∧ SlC (fun b => b < N) w sv s.length (u8s s) ∧ SlC (fun b => b < N) w lv0 l.length css.flatten ∧ RepTL (fun b => b < N) w l css ∧
      SlC (fun b => b < N) w uv0 u.length uss.flatten ∧ RepU (fun b => b < N) w u uss := by
    cases hrep with | mk h1 h2 h3 h4 h5 => exact ⟨_, _, _, _, _, rfl, h1, h2, h3, h4, h5⟩
  refine call_of h hm (by simp) ?_
  have a0 : args0 [.agg [.int .i64 n, sv, .bool null, lv0, uv0].toArray] 0 = .agg [.int .i64 n, sv, .bool null, lv0, uv0].toArray := rfl
  generalize args0 [.agg [.int .i64 n, sv, .bool null, lv0, uv0].toArray] = σ0 at a0 ⊢
  rw [wpC_seq, wpC_blk]
  refine wpR_run ?_
  have ec : (Value.agg [.int .i64 n, sv, .bool null, lv0, uv0].toArray).cells.toList = [.int .i64 n, sv, .bool null, lv0, uv0] := rfl
  simp only [RK.run, ev, a0, ec]
  intro T1
  have b1 := Blk.new w [.int .i64 n, sv, .bool null, lv0, uv0] T1
  have m1 : Mod [] w (w.alloc (.cells [.int .i64 n, sv, .bool null, lv0, uv0].toArray T1)) := Mod.alloc _ _ _
  have z1 : (w.alloc (.cells [.int .i64 n, sv, .bool null, lv0, uv0].toArray T1)).heap.size = w.heap.size + 1 := by simp
  generalize w.alloc (.cells [.int .i64 n, sv, .bool null, lv0, uv0].toArray T1) = w1 at b1 m1 z1 ⊢
  refine wpR_run ?_
  have hz : ([Value.int .i64 0, .slice none 0 0, .bool false, .slice none 0 0, .slice none 0 0] : List Value) = tzero := rfl
  rw [hz]
  simp only [RK.run]
  intro T2
  have b2 := Blk.new w1 tzero T2
  have m2 : Mod [] w1 (w1.alloc (.cells tzero.toArray T2)) := Mod.alloc _ _ _
  have z2 : (w1.alloc (.cells tzero.toArray T2)).heap.size = w1.heap.size + 1 := by simp
  generalize w1.alloc (.cells tzero.toArray T2) = w2 at b2 m2 z2 ⊢
  simp only [wpR, thenC]
  rw [wpC_seq, wpC_blk]
  have b12 := b1.mod m2 (by simp)
  have s1 : ∀ x y, updo (updo σ0 (some 1) x) (some 2) y 1 = x := fun x y => by simp [updo, upd]
  have c0 := b12.cell 0
  have c1 := b12.cell 1
  have c2 := b12.cell 2
  simp only [List.getElem?_cons_zero, List.getElem?_cons_succ] at c0 c1 c2
  obtain ⟨svb, svc, esv⟩ := h1.shape
  refine wpR_step (v := .pointer (some ⟨w.heap.size, 0, none⟩)) (by simp [RK.val?, ev, updo, upd, Addr.add_mk]) ?_
  refine wpR_step (v := .int .i64 n) (by simp only [RK.val?, ev, updo, upd_same, c0]) ?_
  refine wpR_step (v := .pointer (some ⟨w.heap.size, 1, none⟩)) (by simp [RK.val?, ev, updo, upd, Addr.add_mk]) ?_
  refine wpR_step (v := sv) (by simp only [RK.val?, ev, updo, upd_same, c1]) ?_
  refine wpR_step (v := .pointer (some ⟨w.heap.size, 2, none⟩)) (by simp [RK.val?, ev, updo, upd, Addr.add_mk]) ?_
  refine wpR_step (v := .bool null) (by simp only [RK.val?, ev, updo, upd_same, c2]) ?_
  refine wpR_step (v := .agg [.int .i64 n, sv, .bool null, .slice none 0 0, .slice none 0 0].toArray) (by simp [RK.val?, ev, updo, upd, tzero, fillL, splice, Value.cells, esv]) ?_
  refine wpR_run ?_
  simp only [RK.run]
  intro T3
  obtain ⟨q1, q2, q3⟩ := new_put w2 tzero [.int .i64 n, sv, .bool null, .slice none 0 0, .slice none 0 0] T3 rfl (by rw [esv]; simp [Value.oneCell'])
  refine wpR_run ?_
  have ec2 : (Value.agg [.int .i64 n, sv, .bool null, .slice none 0 0, .slice none 0 0].toArray).cells.toList = [.int .i64 n, sv, .bool null, .slice none 0 0, .slice none 0 0] := rfl
  simp only [RK.run, ev, updo, upd]
  simp only [if_true, show (14 : Nat) ≠ 3 by decide, if_false, ec2]
  refine ⟨rfl, q1, ?_⟩
  have hsz3 : (putCells (w2.alloc (.cells tzero.toArray T3)) ⟨w2.heap.size, 0, none⟩ 0 [.int .i64 n, sv, .bool null, .slice none 0 0, .slice none 0 0]).heap.size = w2.heap.size + 1 := by rw [size_putCells]; simp
  generalize putCells (w2.alloc (.cells tzero.toArray T3)) ⟨w2.heap.size, 0, none⟩ 0 [.int .i64 n, sv, .bool null, .slice none 0 0, .slice none 0 0] = w3 at q2 q3 hsz3
  have m03 : Mod [] w w3 := (m1.trans m2).trans q3
  simp only [wpR, thenC]
  rw [wpC_seq]
  refine got_loop1 (Pb := w.heap.size) (b2 := w1.heap.size) (Ob := w2.heap.size) (n := n) (sv := sv) (null := null) hf m03 hN h2 h3 hl q2 (by omega) (by simp [upd]) (by simp [upd]) (by simp [upd]) ((b12.mod q3 (by simp)).cell 3) fun σ4 w4 lv tcs t1 t2 t3 hgs hln => ?_
  simp only [thenC]
  rw [wpC_seq]
  have m04 : Mod [w2.heap.size] w w4 := m03.nil.trans hgs.mod
  have nO : ∀ b ∈ [w2.heap.size], ¬ b < N := fun b hb => by simp only [List.mem_singleton] at hb; omega
  refine got_loop2 (Pb := w.heap.size) (b2 := w1.heap.size) (Ob := w2.heap.size) (n := n) (sv := sv) (null := null) (.inr m04) hN h4 h5 hul hgs.ob (by omega) t1 t2 t3 (((b12.mod q3 (by simp)).mod hgs.mod (by simp; omega)).cell 4) fun σ5 w5 uv ucs r2 r3 hgu hun => ?_
  simp only [thenC]
  rw [wpC_seq, wpC_blk]
  refine wpR_step (v := .agg [.int .i64 n, sv, .bool null, lv, uv].toArray) (by simp only [RK.val?, ev, r3, cellsAt_of' hgu.ob.cells (n := 5) rfl, Option.map_some]) ?_
  have m05 : Mod [w2.heap.size] w w5 := m04.trans hgu.mod
  have m45 := hgu.mod
  have own_ne : ∀ b, own lv = some b → w3.heap.size ≤ b := fun b hb => (hgs.raw.own hb).1
  have hraw5 : LRaw w5 w3.heap.size lv tcs := hgs.raw.mod m45 (fun b hb => by have := own_ne b hb; simp; omega)
  have hrep5 : RepTL (fun b => b < N ∨ (w3.heap.size ≤ b ∧ own lv ≠ some b)) w5 l tcs := hgs.rep.mod m45 (fun b hb hc => by
    simp only [List.mem_singleton] at hb
    rcases hc with hc | hc <;> omega) fun _ _ h => h
  have hb25 : Blk w5 w1.heap.size tzero := ((b2.mod q3 (by simp)).mod hgs.mod (by simp; omega)).mod m45 (by simp; omega)
  have hs5 := h1.mod (ok' := fun b => b < N) m05 nO fun _ _ h => h
  have hfin : RepT (fun b => (b < N ∨ w.heap.size ≤ b) ∧ b ≠ w1.heap.size) w5 (.mk n s null l u) [.int .i64 n, sv, .bool null, lv, uv] := by
    refine .mk (css := tcs) (uss := ucs) (hs5.mod (Mod.refl [] _) (by simp) fun b _ hb => ⟨.inl hb, by omega⟩) ?_ (hrep5.mod (Mod.refl [] _) (by simp) fun b _ hb => ?_) ?_ (hgu.rep.mod (Mod.refl [] _) (by simp) fun b _ hb => ⟨.inl hb, by omega⟩)
    · rw [← hln]; exact hraw5.slc fun b hb => ⟨.inr (by omega), by omega⟩
    · rcases hb with hb | hb
      · exact ⟨.inl hb, by omega⟩
      · exact ⟨.inr (by omega), by omega⟩
    · rw [← hun]; exact hgu.raw.slc fun b hb => ⟨.inr (by have := hgs.mod.size; omega), by have := hgs.mod.size; omega⟩
  have hput : Mod [w1.heap.size] w5 (putCells w5 ⟨w1.heap.size, 0, none⟩ 0 [.int .i64 n, sv, .bool null, lv, uv]) := Mod.put (by simp)
  have hp := hb25.put (o := 0) (vs := [.int .i64 n, sv, .bool null, lv, uv]) (by simp [tzero])
  rw [splice_all (by rfl)] at hp
  refine wpR_run ?_
  have ec3 : (Value.agg [.int .i64 n, sv, .bool null, lv, uv].toArray).cells.toList = [.int .i64 n, sv, .bool null, lv, uv] := rfl
  simp only [RK.run, ev, updo, upd]
  simp only [show (2 : Nat) ≠ 48 by decide, if_false, if_true, r2, ec3]
  refine ⟨rfl, stOk_many hb25 (by simp [tzero]) hfin.oneCell, ?_⟩
  simp only [wpR, wpC, thenC, postC, rvals, List.mapM_cons, List.mapM_nil, RV.val, upd, show (2 : Nat) ≠ 48 by decide, if_false, r2, cellsAt_of' hp.cells (n := 5) rfl, Option.bind_eq_bind, Option.map_some, Option.bind_some, Option.pure_def, tup_one]
  refine ⟨_, rfl, hfin.mod hput (fun b hb hc => by simp only [List.mem_singleton] at hb; exact hc.2 hb) (fun b _ hb => hb.1), ?_⟩
  refine Mod.drop (b := w1.heap.size) (S := []) ?_ (by omega)
  refine Mod.drop (b := w2.heap.size) (S := [w1.heap.size]) ?_ (by omega)
  exact (m05.mono (by simp)).trans (hput.mono (by simp))

theorem got_call (hm : P.follows .mixedOrders = true) (h : liftF P (F lGot) = some (ir_lGot F)) : ∀ t : TR, t.small → GotAt P (F lGot) t := by
  intro t
  refine TR.rec (motive_1 := fun t => t.small → GotAt P (F lGot) t) (motive_2 := fun l => ∀ t ∈ l, t.small → GotAt P (F lGot) t) ?_ ?_ ?_ t
  · intro n s null l u ih hs
    simp only [TR.small] at hs
    exact got_one hm h (fun t ht => ih t ht (TR.smallL_mem hs.2.2.2.2 t ht)) hs.2.1 hs.2.2.1
  · intro t ht; simp at ht
  · intro a l ih1 ih2 t ht
    rcases List.mem_cons.1 ht with rfl | ht
    · exact ih1
    · exact ih2 t ht

end
end Go.Msk

/-! spec.SameTree: of a tree twice in memory it says true. -/
namespace Go.Msk
open Go.RowKit
set_option maxRecDepth 100000

def SameAt (P : Program) (f : FuncId) (t : TR) : Prop :=
  ∀ (w : World) (cs1 cs2 : List Value), RepT (fun _ => True) w t cs1 → RepT (fun _ => True) w t cs2 →
    Calls P f [.agg cs1.toArray, .agg cs2.toArray].toArray w fun e w' => e = .returned (.bool true) ∧ Mod [] w w'

/-- A pair of cells in a row of pairs. -/
theorem SlC.pair {ok : Nat → Prop} {w : World} {v : Value} {n j : Nat} {css : List (List Value)} {a b : Value} (h : SlC ok w v n css.flatten) (hn : n = css.length) (hsz : ∀ c ∈ css, c.length = 2) (hj : css[j]? = some [a, b]) :
    ∃ p c, v = .slice (some p) n c ∧ j < n ∧ w.cell? ((p.add (j * 2)).add 0) = some a ∧ w.cell? ((p.add (j * 2)).add 1) = some b := by
  have hjl : j < css.length := by
    rcases Nat.lt_or_ge j css.length with h | h
    · exact h
    · rw [List.getElem?_eq_none h] at hj; simp at hj
  obtain ⟨base, cap, rfl, h2, h3, h4⟩ := h
  cases base with
  | none => have := h3 rfl; omega
  | some p =>
    obtain ⟨-, -, hc⟩ := h4 p rfl
    have hcl := flat_cells hc hsz hj
    refine ⟨p, cap, rfl, by omega, ?_, ?_⟩
    · rw [Addr.add_of hc.1]; exact hcl.nth (i := 0) rfl
    · rw [Addr.add_of hc.1]; exact hcl.nth (i := 1) rfl

section
variable {P : Program} {F : Nat → Nat}



attribute [local simp] bnd wpC wpR RI.wp gOk RK.run thenC inBlockC updo upd ev args0 postC rvals RV.val tup_one isShift

/-- The first test: nothing differs. -/
theorem same_head (hS : ∀ (w : World) (v1 v2 : Value) (l : List UInt8), SlC (fun _ => True) w v1 l.length (u8s l) → SlC (fun _ => True) w v2 l.length (u8s l) → l.length ≤ 2147483647 →
      Calls P (F sSame) [v1, v2].toArray w fun e w' => e = .returned (.bool true) ∧ Mod [] w w')
    {w : World} {p1 p2 : Nat} {n : Int} {null : Bool} {s : List UInt8} {nl nu : Nat} {sv1 sv2 : Value} {lb1 lb2 ub1 ub2 : Option Addr} {lc1 lc2 uc1 uc2 : Nat} {σ : Sl} {Q : Exit → Sl → World → Prop} (hs : s.length ≤ 2147483647)
    (b1 : Blk w p1 [.int .i64 n, sv1, .bool null, .slice lb1 nl lc1, .slice ub1 nu uc1]) (b2 : Blk w p2 [.int .i64 n, sv2, .bool null, .slice lb2 nl lc2, .slice ub2 nu uc2]) (h1 : SlC (fun _ => True) w sv1 s.length (u8s s)) (h2 : SlC (fun _ => True) w sv2 s.length (u8s s))
    (s2 : σ 2 = .pointer (some ⟨p1, 0, none⟩)) (s3 : σ 3 = .pointer (some ⟨p2, 0, none⟩)) (hQ : ∀ σ' w', σ' 2 = .pointer (some ⟨p1, 0, none⟩) → σ' 3 = .pointer (some ⟨p2, 0, none⟩) → Mod [] w w' → Q .normal σ' w') :
    wpC P (.seq (.blk [⟨some 7, .fad (.tmp 2) 0, none⟩, ⟨some 8, .ld (.tmp 7), none⟩, ⟨some 9, .fad (.tmp 3) 0, none⟩, ⟨some 10, .ld (.tmp 9), none⟩, ⟨some 11, .bin .neq (.tmp 8) (.tmp 10), none⟩, ⟨some 12, .mv (.tmp 11), none⟩,
        ⟨some 13, .fad (.tmp 2) 2, some (12, false)⟩, ⟨some 14, .ld (.tmp 13), some (12, false)⟩, ⟨some 15, .fad (.tmp 3) 2, some (12, false)⟩, ⟨some 16, .ld (.tmp 15), some (12, false)⟩, ⟨some 17, .beq true (.tmp 14) (.tmp 16), some (12, false)⟩,
        ⟨some 18, .pick (.tmp 12) (.const (.bool true)) (.tmp 17), none⟩, ⟨some 19, .mv (.tmp 18), none⟩,
        ⟨some 20, .fad (.tmp 2) 1, some (19, false)⟩, ⟨some 21, .ld (.tmp 20), some (19, false)⟩, ⟨some 22, .fad (.tmp 3) 1, some (19, false)⟩, ⟨some 23, .ld (.tmp 22), some (19, false)⟩, ⟨some 24, .call (F sSame) [.tmp 21, .tmp 23], some (19, false)⟩,
        ⟨some 25, .lnot (.tmp 24), some (19, false)⟩, ⟨some 26, .pick (.tmp 19) (.const (.bool true)) (.tmp 25), none⟩, ⟨some 27, .mv (.tmp 26), none⟩,
        ⟨some 28, .fad (.tmp 2) 3, some (27, false)⟩, ⟨some 29, .ld (.tmp 28), some (27, false)⟩, ⟨some 30, .len (.tmp 29), some (27, false)⟩, ⟨some 31, .fad (.tmp 3) 3, some (27, false)⟩, ⟨some 32, .ld (.tmp 31), some (27, false)⟩,
        ⟨some 33, .len (.tmp 32), some (27, false)⟩, ⟨some 34, .bin .neq (.tmp 30) (.tmp 33), some (27, false)⟩, ⟨some 35, .pick (.tmp 27) (.const (.bool true)) (.tmp 34), none⟩, ⟨some 36, .mv (.tmp 35), none⟩,
        ⟨some 37, .fad (.tmp 2) 4, some (36, false)⟩, ⟨some 38, .ld (.tmp 37), some (36, false)⟩, ⟨some 39, .len (.tmp 38), some (36, false)⟩, ⟨some 40, .fad (.tmp 3) 4, some (36, false)⟩, ⟨some 41, .ld (.tmp 40), some (36, false)⟩,
        ⟨some 42, .len (.tmp 41), some (36, false)⟩, ⟨some 43, .bin .neq (.tmp 39) (.tmp 42), some (36, false)⟩, ⟨some 44, .pick (.tmp 36) (.const (.bool true)) (.tmp 43), none⟩])
      (.cond (.tmp 44) (.seq (.blk [⟨some 4, .mv (.const (.bool false)), none⟩]) .ret) .skip)) Q σ w := by
  have c1 := fun k => b1.cell k
  have c2 := fun k => b2.cell k
  rw [wpC_seq, wpC_blk]
  refine wpR_step (v := .pointer (some ⟨p1, 0, none⟩)) (by simp [RK.val?, s2, Addr.add_mk]) ?_
  refine wpR_step (v := .int .i64 n) (by simp [RK.val?, c1]) ?_
  refine wpR_step (v := .pointer (some ⟨p2, 0, none⟩)) (by simp [RK.val?, s3, Addr.add_mk]) ?_
  refine wpR_step (v := .int .i64 n) (by simp [RK.val?, c2]) ?_
  refine wpR_step (v := .bool false) (by simp [RK.val?, intBin]) ?_
  refine wpR_step (v := .bool false) (by simp [RK.val?]) ?_
  refine wpR_stepG (v := .pointer (some ⟨p1, 2, none⟩)) (by simp) (by simp [RK.val?, s2, Addr.add_mk]) ?_
  refine wpR_stepG (v := .bool null) (by simp) (by simp [RK.val?, c1]) ?_
  refine wpR_stepG (v := .pointer (some ⟨p2, 2, none⟩)) (by simp) (by simp [RK.val?, s3, Addr.add_mk]) ?_
  refine wpR_stepG (v := .bool null) (by simp) (by simp [RK.val?, c2]) ?_
  refine wpR_stepG (v := .bool false) (by simp) (by simp [RK.val?]) ?_
  refine wpR_step (v := .bool false) (by simp [RK.val?]) ?_
  refine wpR_step (v := .bool false) (by simp [RK.val?]) ?_
  refine wpR_stepG (v := .pointer (some ⟨p1, 1, none⟩)) (by simp) (by simp [RK.val?, s2, Addr.add_mk]) ?_
  refine wpR_stepG (v := sv1) (by simp) (by simp [RK.val?, c1]) ?_
  refine wpR_stepG (v := .pointer (some ⟨p2, 1, none⟩)) (by simp) (by simp [RK.val?, s3, Addr.add_mk]) ?_
  refine wpR_stepG (v := sv2) (by simp) (by simp [RK.val?, c2]) ?_
  refine wpR_runG (by simp) ?_
  have hcall := hS w sv1 sv2 s h1 h2 hs
  simp only [RK.run, List.map_cons, List.map_nil, ev, updo, upd]
  simp only [show (21 : Nat) ≠ 23 by decide, show (21 : Nat) ≠ 22 by decide, if_true, if_false]
  refine hcall.mono ?_
  rintro e w' ⟨rfl, hm⟩
  refine ⟨_, rfl, ?_⟩
  have d1 := fun k => (b1.mod hm (by simp)).cell k
  have d2 := fun k => (b2.mod hm (by simp)).cell k
  refine wpR_stepG (v := .bool false) (by simp) (by simp [RK.val?]) ?_
  refine wpR_step (v := .bool false) (by simp [RK.val?]) ?_
  refine wpR_step (v := .bool false) (by simp [RK.val?]) ?_
  refine wpR_stepG (v := .pointer (some ⟨p1, 3, none⟩)) (by simp) (by simp [RK.val?, s2, Addr.add_mk]) ?_
  refine wpR_stepG (v := .slice lb1 nl lc1) (by simp) (by simp [RK.val?, d1]) ?_
  refine wpR_stepG (v := .int .i64 nl) (by simp) (by simp [RK.val?]) ?_
  refine wpR_stepG (v := .pointer (some ⟨p2, 3, none⟩)) (by simp) (by simp [RK.val?, s3, Addr.add_mk]) ?_
  refine wpR_stepG (v := .slice lb2 nl lc2) (by simp) (by simp [RK.val?, d2]) ?_
  refine wpR_stepG (v := .int .i64 nl) (by simp) (by simp [RK.val?]) ?_
  refine wpR_stepG (v := .bool false) (by simp) (by simp [RK.val?, intBin]) ?_
  refine wpR_step (v := .bool false) (by simp [RK.val?]) ?_
  refine wpR_step (v := .bool false) (by simp [RK.val?]) ?_
  refine wpR_stepG (v := .pointer (some ⟨p1, 4, none⟩)) (by simp) (by simp [RK.val?, s2, Addr.add_mk]) ?_
  refine wpR_stepG (v := .slice ub1 nu uc1) (by simp) (by simp [RK.val?, d1]) ?_
  refine wpR_stepG (v := .int .i64 nu) (by simp) (by simp [RK.val?]) ?_
  refine wpR_stepG (v := .pointer (some ⟨p2, 4, none⟩)) (by simp) (by simp [RK.val?, s3, Addr.add_mk]) ?_
  refine wpR_stepG (v := .slice ub2 nu uc2) (by simp) (by simp [RK.val?, d2]) ?_
  refine wpR_stepG (v := .int .i64 nu) (by simp) (by simp [RK.val?]) ?_
  refine wpR_stepG (v := .bool false) (by simp) (by simp [RK.val?, intBin]) ?_
  refine wpR_step (v := .bool false) (by simp [RK.val?]) ?_
  simp only [wpR, thenC]
  rw [wpC_cond_f (by simp), wpC_skip]
  refine hQ _ w' ?_ ?_ hm
  · simp [s2]
  · simp [s3]

theorem same_loop1 {w : World} {p1 p2 : Nat} {n : Int} {null : Bool} {l : List TR} {sv1 sv2 lv1 lv2 uv1 uv2 : Value} {css1 css2 : List (List Value)} {σ : Sl} {Q : Exit → Sl → World → Prop} (hf : ∀ t ∈ l, SameAt P (F sSameTree) t) (hlen : l.length ≤ 2147483647)
    (b1 : Blk w p1 [.int .i64 n, sv1, .bool null, lv1, uv1]) (b2 : Blk w p2 [.int .i64 n, sv2, .bool null, lv2, uv2])
    (h1 : SlC (fun _ => True) w lv1 l.length css1.flatten) (r1 : RepTL (fun _ => True) w l css1) (h2 : SlC (fun _ => True) w lv2 l.length css2.flatten) (r2 : RepTL (fun _ => True) w l css2)
    (s2 : σ 2 = .pointer (some ⟨p1, 0, none⟩)) (s3 : σ 3 = .pointer (some ⟨p2, 0, none⟩)) (hQ : ∀ σ' w', σ' 2 = .pointer (some ⟨p1, 0, none⟩) → σ' 3 = .pointer (some ⟨p2, 0, none⟩) → Mod [] w w' → Q .normal σ' w') :
    wpC P (.seq (.blk [⟨some 45, .fad (.tmp 2) 3, none⟩, ⟨some 46, .ld (.tmp 45), none⟩, ⟨some 47, .len (.tmp 46), none⟩, ⟨some 48, .mv (.const (.int .i64 0)), none⟩])
      (.block 0 (.loop (.seq (.blk [⟨some 49, .bin .lss (.tmp 48) (.tmp 47), none⟩]) (.seq (.cond (.tmp 49) .skip (.exit 0))
        (.seq (.block 1 (.seq (.blk [⟨some 50, .mv (.tmp 48), none⟩, ⟨some 5, .mv (.tmp 50), none⟩])
          (.seq (.drw [⟨⟨some 51, .fad (.tmp 2) 3, none⟩, false, []⟩, ⟨⟨some 52, .ld (.tmp 51), none⟩, false, []⟩, ⟨⟨some 53, .mv (.tmp 5), none⟩, false, []⟩, ⟨⟨some 54, .iad (.tmp 52) (.tmp 53) 5, none⟩, false, []⟩, ⟨⟨some 55, .ldn (.tmp 54) 5, none⟩, false, []⟩,
                ⟨⟨some 56, .fad (.tmp 3) 3, none⟩, false, []⟩, ⟨⟨some 57, .ld (.tmp 56), none⟩, false, []⟩, ⟨⟨some 58, .mv (.tmp 5), none⟩, false, []⟩, ⟨⟨some 59, .iad (.tmp 57) (.tmp 58) 5, none⟩, false, []⟩, ⟨⟨some 60, .ldn (.tmp 59) 5, none⟩, false, []⟩,
                ⟨⟨some 61, .call (F sSameTree) [.tmp 55, .tmp 60], none⟩, true, []⟩, ⟨⟨some 62, .lnot (.tmp 61), none⟩, false, [10]⟩] [])
            (.cond (.tmp 62) (.seq (.blk [⟨some 4, .mv (.const (.bool false)), none⟩]) .ret) .skip))))
          (.blk [⟨some 63, .bin .add (.tmp 48) (.const (.int .i64 1)), none⟩, ⟨some 48, .mv (.tmp 63), none⟩])))))))
      Q σ w := by
  obtain ⟨lb1, lc1, e1⟩ := h1.shape
  rw [wpC_seq, wpC_blk]
  refine wpR_step (v := .pointer (some ⟨p1, 3, none⟩)) (by simp [RK.val?, s2, Addr.add_mk]) ?_
  refine wpR_step (v := lv1) (by simp [RK.val?, b1.cell]) ?_
  refine wpR_step (v := .int .i64 l.length) (by simp [RK.val?, e1]) ?_
  refine wpR_step (v := .int .i64 0) (by simp [RK.val?]) ?_
  simp only [wpR, thenC]
  rw [wpC_block, wpC_loop]
  refine ⟨fun σ1 w1 => ∃ j, j ≤ l.length ∧ σ1 2 = .pointer (some ⟨p1, 0, none⟩) ∧ σ1 3 = .pointer (some ⟨p2, 0, none⟩) ∧ σ1 47 = .int .i64 l.length ∧ σ1 48 = .int .i64 j ∧ Mod [] w w1,
    fun σ1 _ => l.length - (match σ1 48 with | .int _ j => j.toNat | _ => 0), ⟨0, Nat.zero_le _, by simp [s2], by simp [s3], by simp, by simp, Mod.refl _ _⟩, ?_⟩
  rintro σ1 w1 ⟨j, hj, t2, t3, t47, t48, hm1⟩
  rw [wpC_seq, wpC_blk]
  refine wpR_step (v := .bool (decide ((j : Int) < l.length))) (by simp [RK.val?, t47, t48, intBin]) ?_
  simp only [wpR, thenC]
  rw [wpC_seq]
  by_cases hlt : j < l.length
  · rw [wpC_cond_t (by simp [hlt]), wpC_skip]
    simp only [thenC]
    rw [wpC_seq, wpC_block, wpC_seq, wpC_blk]
    refine wpR_step (v := .int .i64 j) (by simp [RK.val?, t48]) ?_
    refine wpR_step (v := .int .i64 j) (by simp [RK.val?]) ?_
    simp only [wpR, thenC]
    obtain ⟨tj, htj⟩ : ∃ t, l[j]? = some t := ⟨l[j], List.getElem?_eq_getElem hlt⟩
    have hmd : Mod [] w w1.drew := hm1.trans (Mod.drew _ _)
    have g1 := fun k => (b1.mod hmd (by simp)).cell k
    have g2 := fun k => (b2.mod hmd (by simp)).cell k
    have r1d := r1.mod (ok' := fun _ => True) hmd (by simp) fun _ _ h => h
    have r2d := r2.mod (ok' := fun _ => True) hmd (by simp) fun _ _ h => h
    obtain ⟨c1, hc1, hr1⟩ := r1d.nth htj
    obtain ⟨c2, hc2, hr2⟩ := r2d.nth htj
    obtain ⟨pa1, pc1, ep1, -, hcells1⟩ := (h1.mod (ok' := fun _ => True) hmd (by simp) fun _ _ h => h).flat r1.length r1.five hc1
    obtain ⟨pa2, pc2, ep2, -, hcells2⟩ := (h2.mod (ok' := fun _ => True) hmd (by simp) fun _ _ h => h).flat r2.length r2.five hc2
    rw [wpC_seq]
    show wpD P _ _ _ w1.drew _
    refine wpD_one (.bool true) ?_
    refine walkB_step (v := .pointer (some ⟨p1, 3, none⟩)) (by simp [RK.val?, t2, Addr.add_mk]) ?_
    refine walkB_step (v := lv1) (by simp [RK.val?, g1]) ?_
    refine walkB_step (v := .int .i64 j) (by simp [RK.val?]) ?_
    refine walkB_step (v := .pointer (some (pa1.add (j * 5)))) (by simp [RK.val?, ep1, hlt]) ?_
    refine walkB_step (v := .agg c1.toArray) (by simp [RK.val?, hcells1]) ?_
    refine walkB_step (v := .pointer (some ⟨p2, 3, none⟩)) (by simp [RK.val?, t3, Addr.add_mk]) ?_
    refine walkB_step (v := lv2) (by simp [RK.val?, g2]) ?_
    refine walkB_step (v := .int .i64 j) (by simp [RK.val?]) ?_
    refine walkB_step (v := .pointer (some (pa2.add (j * 5)))) (by simp [RK.val?, ep2, hlt]) ?_
    refine walkB_step (v := .agg c2.toArray) (by simp [RK.val?, hcells2]) ?_
    refine walkB_node (fun w5 hm5 _ => ?_) fun u hu => ?_
    · have := hf tj (List.mem_of_getElem? htj) w5 c1 c2 (hr1.mod hm5 (by simp) fun _ _ h => h) (hr2.mod hm5 (by simp) fun _ _ h => h)
      simp only [RK.run, List.map_cons, List.map_nil, ev, updo, upd]
      simp only [show (55 : Nat) ≠ 60 by decide, show (55 : Nat) ≠ 59 by decide, show (55 : Nat) ≠ 58 by decide, show (55 : Nat) ≠ 57 by decide, show (55 : Nat) ≠ 56 by decide, if_true, if_false]
      refine this.mono ?_
      rintro e w6 ⟨rfl, hm6⟩
      exact ⟨_, rfl, hm6, rfl⟩
    obtain ⟨wu, rfl⟩ := hu
    refine walkB_step (v := .bool false) (by simp [RK.val?]) ?_
    simp only [walkB]
    intro w5 hm5
    simp only [wpR, thenC]
    rw [wpC_cond_f (by simp), wpC_skip]
    simp only [inBlockC, thenC]
    have hw : IntKind.i64.wrap ((j : Int) + 1) = ((j + 1 : Nat) : Int) := by
      simp only [IntKind.wrap, IntKind.bits, IntKind.signed]; simp; omega
    rw [wpC_blk]
    refine wpR_step (v := .int .i64 ((j + 1 : Nat) : Int)) (by simp [RK.val?, intBin, t48, hw]) ?_
    refine wpR_step (v := .int .i64 ((j + 1 : Nat) : Int)) (by simp [RK.val?]) ?_
    simp only [wpR, thenC]
    refine ⟨⟨j + 1, hlt, by simp [t2], by simp [t3], by simp [t47], by simp, hmd.trans hm5⟩, ?_⟩
    simp [t48]; show l.length - (j + 1) < l.length - j; omega
  · rw [wpC_cond_f (by simp; omega)]
    simp only [wpC, inBlockC, thenC, if_true]
    exact hQ _ w1 (by simp [t2]) (by simp [t3]) hm1



theorem same_loop2 (hS : ∀ (w : World) (v1 v2 : Value) (l : List UInt8), SlC (fun _ => True) w v1 l.length (u8s l) → SlC (fun _ => True) w v2 l.length (u8s l) → l.length ≤ 2147483647 →
      Calls P (F sSame) [v1, v2].toArray w fun e w' => e = .returned (.bool true) ∧ Mod [] w w')
    {w : World} {p1 p2 : Nat} {n : Int} {null : Bool} {u : List (Nat × List UInt8)} {sv1 sv2 lv1 lv2 uv1 uv2 : Value} {us1 us2 : List (List Value)} {σ : Sl} {Q : Exit → Sl → World → Prop} (hu : ∀ x ∈ u, x.2.length ≤ 2147483647) (hlen : u.length ≤ 2147483647)
    (b1 : Blk w p1 [.int .i64 n, sv1, .bool null, lv1, uv1]) (b2 : Blk w p2 [.int .i64 n, sv2, .bool null, lv2, uv2])
    (h1 : SlC (fun _ => True) w uv1 u.length us1.flatten) (r1 : RepU (fun _ => True) w u us1) (h2 : SlC (fun _ => True) w uv2 u.length us2.flatten) (r2 : RepU (fun _ => True) w u us2)
    (s2 : σ 2 = .pointer (some ⟨p1, 0, none⟩)) (s3 : σ 3 = .pointer (some ⟨p2, 0, none⟩)) (hQ : ∀ σ' w', Mod [] w w' → Q .normal σ' w') :
    wpC P (.seq (.blk [⟨some 64, .fad (.tmp 2) 4, none⟩, ⟨some 65, .ld (.tmp 64), none⟩, ⟨some 66, .len (.tmp 65), none⟩, ⟨some 67, .mv (.const (.int .i64 0)), none⟩])
      (.block 2 (.loop (.seq (.blk [⟨some 68, .bin .lss (.tmp 67) (.tmp 66), none⟩]) (.seq (.cond (.tmp 68) .skip (.exit 2))
        (.seq (.block 3 (.seq (.blk [⟨some 69, .mv (.tmp 67), none⟩, ⟨some 6, .mv (.tmp 69), none⟩])
          (.seq (.drw [⟨⟨some 70, .fad (.tmp 2) 4, none⟩, false, []⟩, ⟨⟨some 71, .ld (.tmp 70), none⟩, false, []⟩, ⟨⟨some 72, .mv (.tmp 6), none⟩, false, []⟩, ⟨⟨some 73, .iad (.tmp 71) (.tmp 72) 2, none⟩, false, []⟩, ⟨⟨some 74, .fad (.tmp 73) 0, none⟩, false, []⟩, ⟨⟨some 75, .ld (.tmp 74), none⟩, false, []⟩,
                ⟨⟨some 76, .fad (.tmp 3) 4, none⟩, false, []⟩, ⟨⟨some 77, .ld (.tmp 76), none⟩, false, []⟩, ⟨⟨some 78, .mv (.tmp 6), none⟩, false, []⟩, ⟨⟨some 79, .iad (.tmp 77) (.tmp 78) 2, none⟩, false, []⟩, ⟨⟨some 80, .fad (.tmp 79) 0, none⟩, false, []⟩, ⟨⟨some 81, .ld (.tmp 80), none⟩, false, []⟩,
                ⟨⟨some 82, .bin .neq (.tmp 75) (.tmp 81), none⟩, false, []⟩, ⟨⟨some 83, .mv (.tmp 82), none⟩, false, []⟩,
                ⟨⟨some 84, .fad (.tmp 2) 4, some (83, false)⟩, false, []⟩, ⟨⟨some 85, .ld (.tmp 84), some (83, false)⟩, false, []⟩, ⟨⟨some 86, .mv (.tmp 6), some (83, false)⟩, false, []⟩, ⟨⟨some 87, .iad (.tmp 85) (.tmp 86) 2, some (83, false)⟩, false, []⟩, ⟨⟨some 88, .fad (.tmp 87) 1, some (83, false)⟩, false, []⟩, ⟨⟨some 89, .ld (.tmp 88), some (83, false)⟩, false, []⟩,
                ⟨⟨some 90, .fad (.tmp 3) 4, some (83, false)⟩, false, []⟩, ⟨⟨some 91, .ld (.tmp 90), some (83, false)⟩, false, []⟩, ⟨⟨some 92, .mv (.tmp 6), some (83, false)⟩, false, []⟩, ⟨⟨some 93, .iad (.tmp 91) (.tmp 92) 2, some (83, false)⟩, false, []⟩, ⟨⟨some 94, .fad (.tmp 93) 1, some (83, false)⟩, false, []⟩, ⟨⟨some 95, .ld (.tmp 94), some (83, false)⟩, false, []⟩,
                ⟨⟨some 96, .call (F sSame) [.tmp 89, .tmp 95], some (83, false)⟩, true, []⟩, ⟨⟨some 97, .lnot (.tmp 96), some (83, false)⟩, false, [26]⟩, ⟨⟨some 98, .pick (.tmp 83) (.const (.bool true)) (.tmp 97), none⟩, false, [26]⟩] [])
            (.cond (.tmp 98) (.seq (.blk [⟨some 4, .mv (.const (.bool false)), none⟩]) .ret) .skip))))
          (.blk [⟨some 99, .bin .add (.tmp 67) (.const (.int .i64 1)), none⟩, ⟨some 67, .mv (.tmp 99), none⟩])))))))
      Q σ w := by
  obtain ⟨lb1, lc1, e1⟩ := h1.shape
  rw [wpC_seq, wpC_blk]
  refine wpR_step (v := .pointer (some ⟨p1, 4, none⟩)) (by simp [RK.val?, s2, Addr.add_mk]) ?_
  refine wpR_step (v := uv1) (by simp [RK.val?, b1.cell]) ?_
  refine wpR_step (v := .int .i64 u.length) (by simp [RK.val?, e1]) ?_
  refine wpR_step (v := .int .i64 0) (by simp [RK.val?]) ?_
  simp only [wpR, thenC]
  rw [wpC_block, wpC_loop]
  refine ⟨fun σ1 w1 => ∃ j, j ≤ u.length ∧ σ1 2 = .pointer (some ⟨p1, 0, none⟩) ∧ σ1 3 = .pointer (some ⟨p2, 0, none⟩) ∧ σ1 66 = .int .i64 u.length ∧ σ1 67 = .int .i64 j ∧ Mod [] w w1,
    fun σ1 _ => u.length - (match σ1 67 with | .int _ j => j.toNat | _ => 0), ⟨0, Nat.zero_le _, by simp [s2], by simp [s3], by simp, by simp, Mod.refl _ _⟩, ?_⟩
  rintro σ1 w1 ⟨j, hj, t2, t3, t47, t48, hm1⟩
  rw [wpC_seq, wpC_blk]
  refine wpR_step (v := .bool (decide ((j : Int) < u.length))) (by simp [RK.val?, t47, t48, intBin]) ?_
  simp only [wpR, thenC]
  rw [wpC_seq]
  by_cases hlt : j < u.length
  · rw [wpC_cond_t (by simp [hlt]), wpC_skip]
    simp only [thenC]
    rw [wpC_seq, wpC_block, wpC_seq, wpC_blk]
    refine wpR_step (v := .int .i64 j) (by simp [RK.val?, t48]) ?_
    refine wpR_step (v := .int .i64 j) (by simp [RK.val?]) ?_
    simp only [wpR, thenC]
    obtain ⟨tj, htj⟩ : ∃ t, u[j]? = some t := ⟨u[j], List.getElem?_eq_getElem hlt⟩
    have hmd : Mod [] w w1.drew := hm1.trans (Mod.drew _ _)
    have g1 := fun k => (b1.mod hmd (by simp)).cell k
    have g2 := fun k => (b2.mod hmd (by simp)).cell k
    have r1d := r1.mod (ok' := fun _ => True) hmd (by simp) fun _ _ h => h
    have r2d := r2.mod (ok' := fun _ => True) hmd (by simp) fun _ _ h => h
    obtain ⟨v1, hc1, hr1⟩ := r1d.nth htj
    obtain ⟨v2, hc2, hr2⟩ := r2d.nth htj
    obtain ⟨pa1, pc1, ep1, hp1, q1, q2⟩ := (h1.mod (ok' := fun _ => True) hmd (by simp) fun _ _ h => h).pair r1d.length r1d.two hc1
    obtain ⟨pa2, pc2, ep2, hp2, q3, q4⟩ := (h2.mod (ok' := fun _ => True) hmd (by simp) fun _ _ h => h).pair r2d.length r2d.two hc2
    rw [wpC_seq]
    show wpD P _ _ _ w1.drew _
    refine wpD_one (.bool true) ?_
    refine walkB_step (v := .pointer (some ⟨p1, 4, none⟩)) (by simp [RK.val?, t2, Addr.add_mk]) ?_
    refine walkB_step (v := uv1) (by simp [RK.val?, g1]) ?_
    refine walkB_step (v := .int .i64 j) (by simp [RK.val?]) ?_
    refine walkB_step (v := .pointer (some (pa1.add (j * 2)))) (by simp [RK.val?, ep1, hlt]) ?_
    refine walkB_step (v := .pointer (some ((pa1.add (j * 2)).add 0))) (by simp [RK.val?]) ?_
    refine walkB_step (v := .int .u32 tj.1) (by simp [RK.val?, q1]) ?_
    refine walkB_step (v := .pointer (some ⟨p2, 4, none⟩)) (by simp [RK.val?, t3, Addr.add_mk]) ?_
    refine walkB_step (v := uv2) (by simp [RK.val?, g2]) ?_
    refine walkB_step (v := .int .i64 j) (by simp [RK.val?]) ?_
    refine walkB_step (v := .pointer (some (pa2.add (j * 2)))) (by simp [RK.val?, ep2, hlt]) ?_
    refine walkB_step (v := .pointer (some ((pa2.add (j * 2)).add 0))) (by simp [RK.val?]) ?_
    refine walkB_step (v := .int .u32 tj.1) (by simp [RK.val?, q3]) ?_
    refine walkB_step (v := .bool false) (by simp [RK.val?, intBin]) ?_
    refine walkB_step (v := .bool false) (by simp [RK.val?]) ?_
    refine walkB_stepG (v := .pointer (some ⟨p1, 4, none⟩)) (by simp) (by simp [RK.val?, t2, Addr.add_mk]) ?_
    refine walkB_stepG (v := uv1) (by simp) (by simp [RK.val?, g1]) ?_
    refine walkB_stepG (v := .int .i64 j) (by simp) (by simp [RK.val?]) ?_
    refine walkB_stepG (v := .pointer (some (pa1.add (j * 2)))) (by simp) (by simp [RK.val?, ep1, hlt]) ?_
    refine walkB_stepG (v := .pointer (some ((pa1.add (j * 2)).add 1))) (by simp) (by simp [RK.val?]) ?_
    refine walkB_stepG (v := v1) (by simp) (by simp [RK.val?, q2]) ?_
    refine walkB_stepG (v := .pointer (some ⟨p2, 4, none⟩)) (by simp) (by simp [RK.val?, t3, Addr.add_mk]) ?_
    refine walkB_stepG (v := uv2) (by simp) (by simp [RK.val?, g2]) ?_
    refine walkB_stepG (v := .int .i64 j) (by simp) (by simp [RK.val?]) ?_
    refine walkB_stepG (v := .pointer (some (pa2.add (j * 2)))) (by simp) (by simp [RK.val?, ep2, hlt]) ?_
    refine walkB_stepG (v := .pointer (some ((pa2.add (j * 2)).add 1))) (by simp) (by simp [RK.val?]) ?_
    refine walkB_stepG (v := v2) (by simp) (by simp [RK.val?, q4]) ?_
    refine walkB_nodeG (by simp) (fun w5 hm5 _ => ?_) fun x hx => ?_
    · have := hS w5 v1 v2 tj.2 (hr1.mod hm5 (by simp) fun _ _ h => h) (hr2.mod hm5 (by simp) fun _ _ h => h) (hu tj (List.mem_of_getElem? htj))
      have e1 : ∀ σ : Sl, σ 89 = v1 → σ 95 = v2 → (RK.call (F sSame) [.tmp 89, .tmp 95]).run P σ w5 fun v w' => Mod [] w5 w' ∧ v = .bool true := by
        intro σ a1 a2
        simp only [RK.run, List.map_cons, List.map_nil, ev, a1, a2]
        refine this.mono ?_
        rintro e w6 ⟨rfl, hm6⟩
        exact ⟨_, rfl, hm6, rfl⟩
      exact e1 _ (by simp) (by simp)
    obtain ⟨wu, rfl⟩ := hx
    refine walkB_stepG (v := .bool false) (by simp) (by simp [RK.val?]) ?_
    refine walkB_step (v := .bool false) (by simp [RK.val?]) ?_
    simp only [walkB]
    intro w5 hm5
    simp only [wpR, thenC]
    rw [wpC_cond_f (by simp), wpC_skip]
    simp only [inBlockC, thenC]
    have hw : IntKind.i64.wrap ((j : Int) + 1) = ((j + 1 : Nat) : Int) := by
      simp only [IntKind.wrap, IntKind.bits, IntKind.signed]; simp; omega
    rw [wpC_blk]
    refine wpR_step (v := .int .i64 ((j + 1 : Nat) : Int)) (by simp [RK.val?, intBin, t48, hw]) ?_
    refine wpR_step (v := .int .i64 ((j + 1 : Nat) : Int)) (by simp [RK.val?]) ?_
    simp only [wpR, thenC]
    refine ⟨⟨j + 1, hlt, by simp [t2], by simp [t3], by simp [t47], by simp, hmd.trans hm5⟩, ?_⟩
    simp [t48]; show u.length - (j + 1) < u.length - j; omega
  · rw [wpC_cond_f (by simp; omega)]
    simp only [wpC, inBlockC, thenC, if_true]
    exact hQ _ w1 hm1

end
end Go.Msk

/-! spec.SameTree: the whole. -/
namespace Go.Msk
open Go.RowKit
set_option maxRecDepth 100000

section
variable {P : Program} {F : Nat → Nat}

theorem sameTree_one (hm : P.follows .mixedOrders = true) (h : liftF P (F sSameTree) = some (ir_sSameTree F)) (hs : liftF P (F sSame) = some (ir_sSame F)) {n : Int} {s : List UInt8} {null : Bool} {l : List TR} {u : List (Nat × List UInt8)}
    (hf : ∀ t ∈ l, SameAt P (F sSameTree) t) (hsl : s.length ≤ 2147483647) (hl : l.length ≤ 2147483647) (hul : u.length ≤ 2147483647) (hu : ∀ x ∈ u, x.2.length ≤ 2147483647) : SameAt P (F sSameTree) (.mk n s null l u) := by
  intro w cs1 cs2 hr1 hr2
  have hS : ∀ (w : World) (v1 v2 : Value) (l : List UInt8), SlC (fun _ => True) w v1 l.length (u8s l) → SlC (fun _ => True) w v2 l.length (u8s l) → l.length ≤ 2147483647 →
      Calls P (F sSame) [v1, v2].toArray w fun e w' => e = .returned (.bool true) ∧ Mod [] w w' := fun w v1 v2 l g1 g2 g3 =>
    (same_call hm hs g1 g2 (by omega)).mono fun e w' ⟨k1, k2⟩ => ⟨by rw [k1]; simp, k2⟩
  obtain ⟨sv1, lv1, uv1, css1, uss1, rfl, a1, a2, a3, a4, a5⟩ : ∃ sv lv uv css uss, cs1 = [.int .i64 n, sv, .bool null, lv, uv] ∧ SlC (fun _ => True) w sv s.length (u8s s) ∧ SlC (fun _ => True) w lv l.length css.flatten ∧ RepTL (fun _ => True) w l css ∧
      SlC (fun _ => True) w uv u.length uss.flatten ∧ RepU (fun _ => True) w u uss := by
    cases hr1 with | mk h1 h2 h3 h4 h5 => exact ⟨_, _, _, _, _, rfl, h1, h2, h3, h4, h5⟩
  obtain ⟨sv2, lv2, uv2, css2, uss2, rfl, c1, c2, c3, c4, c5⟩ : ∃ sv lv uv css uss, cs2 = [.int .i64 n, sv, .bool null, lv, uv] ∧ SlC (fun _ => True) w sv s.length (u8s s) ∧ SlC (fun _ => True) w lv l.length css.flatten ∧ RepTL (fun _ => True) w l css ∧
      SlC (fun _ => True) w uv u.length uss.flatten ∧ RepU (fun _ => True) w u uss := by
    cases hr2 with | mk h1 h2 h3 h4 h5 => exact ⟨_, _, _, _, _, rfl, h1, h2, h3, h4, h5⟩
  refine call_of h hm (by simp) ?_
  have g0 : args0 [.agg [.int .i64 n, sv1, .bool null, lv1, uv1].toArray, .agg [.int .i64 n, sv2, .bool null, lv2, uv2].toArray] 0 = .agg [.int .i64 n, sv1, .bool null, lv1, uv1].toArray := rfl
  have g1 : args0 [.agg [.int .i64 n, sv1, .bool null, lv1, uv1].toArray, .agg [.int .i64 n, sv2, .bool null, lv2, uv2].toArray] 1 = .agg [.int .i64 n, sv2, .bool null, lv2, uv2].toArray := rfl
  generalize args0 [.agg [.int .i64 n, sv1, .bool null, lv1, uv1].toArray, .agg [.int .i64 n, sv2, .bool null, lv2, uv2].toArray] = σ0 at g0 g1 ⊢
  have k1 : (Value.agg [.int .i64 n, sv1, .bool null, lv1, uv1].toArray).cells.toList = [.int .i64 n, sv1, .bool null, lv1, uv1] := rfl
  have k2 : (Value.agg [.int .i64 n, sv2, .bool null, lv2, uv2].toArray).cells.toList = [.int .i64 n, sv2, .bool null, lv2, uv2] := rfl
  rw [wpC_seq, wpC_blk]
  refine wpR_run ?_
  simp only [RK.run, ev, g0, k1]
  intro T1
  have b1 := Blk.new w [.int .i64 n, sv1, .bool null, lv1, uv1] T1
  have m1 : Mod [] w (w.alloc (.cells [.int .i64 n, sv1, .bool null, lv1, uv1].toArray T1)) := Mod.alloc _ _ _
  generalize w.alloc (.cells [.int .i64 n, sv1, .bool null, lv1, uv1].toArray T1) = w1 at b1 m1 ⊢
  refine wpR_run ?_
  have g1' : ∀ x, updo σ0 (some 2) x 1 = .agg [.int .i64 n, sv2, .bool null, lv2, uv2].toArray := fun x => by simp [updo, upd, g1]
  simp only [RK.run, ev, g1', k2]
  intro T2
  have b2 := Blk.new w1 [.int .i64 n, sv2, .bool null, lv2, uv2] T2
  have m2 : Mod [] w1 (w1.alloc (.cells [.int .i64 n, sv2, .bool null, lv2, uv2].toArray T2)) := Mod.alloc _ _ _
  generalize w1.alloc (.cells [.int .i64 n, sv2, .bool null, lv2, uv2].toArray T2) = w2 at b2 m2 ⊢
  refine wpR_step (v := .bool false) (by simp [RK.val?, ev]) ?_
  have m02 := m1.trans m2
  have b12 := b1.mod m2 (by simp)
  have up : ∀ {v : Value} {k : Nat} {cs : List Value} {w' : World}, Mod [] w2 w' → SlC (fun _ => True) w v k cs → SlC (fun _ => True) w' v k cs := fun hm h => h.mod (m02.trans hm) (by simp) fun _ _ h => h
  obtain ⟨x1, x2, rfl⟩ := a2.shape
  obtain ⟨x3, x4, rfl⟩ := c2.shape
  obtain ⟨x5, x6, rfl⟩ := a4.shape
  obtain ⟨x7, x8, rfl⟩ := c4.shape
  simp only [wpR, thenC]
  rw [wpC_seq]
  refine same_head hS hsl b12 b2 (up (Mod.refl _ _) a1) (up (Mod.refl _ _) c1) (by simp [updo, upd]) (by simp [updo, upd]) fun σ3 w3 t2 t3 m3 => ?_
  simp only [thenC]
  rw [wpC_seq]
  refine same_loop1 hf hl (b12.mod m3 (by simp)) (b2.mod m3 (by simp)) (up m3 a2) (a3.mod (m02.trans m3) (by simp) fun _ _ h => h) (up m3 c2) (c3.mod (m02.trans m3) (by simp) fun _ _ h => h) t2 t3 fun σ4 w4 r2 r3 m4 => ?_
  have m34 := m3.trans m4
  simp only [thenC]
  rw [wpC_seq]
  refine same_loop2 hS hu hul (b12.mod m34 (by simp)) (b2.mod m34 (by simp)) (up m34 a4) (a5.mod (m02.trans m34) (by simp) fun _ _ h => h) (up m34 c4) (c5.mod (m02.trans m34) (by simp) fun _ _ h => h) r2 r3 fun σ5 w5 m5 => ?_
  simp only [thenC]
  rw [wpC_seq, wpC_blk]
  refine wpR_step (v := .bool true) (by simp [RK.val?, ev]) ?_
  simp only [wpR, wpC, thenC, postC, rvals, List.mapM_cons, List.mapM_nil, RV.val, updo, upd_same, Option.bind_eq_bind, Option.bind_some, Option.pure_def, tup_one]
  exact ⟨trivial, m02.trans (m34.trans m5)⟩

theorem sameTree_call (hm : P.follows .mixedOrders = true) (h : liftF P (F sSameTree) = some (ir_sSameTree F)) (hs : liftF P (F sSame) = some (ir_sSame F)) : ∀ t : TR, t.small → SameAt P (F sSameTree) t := by
  intro t
  refine TR.rec (motive_1 := fun t => t.small → SameAt P (F sSameTree) t) (motive_2 := fun l => ∀ t ∈ l, t.small → SameAt P (F sSameTree) t) ?_ ?_ ?_ t
  · intro n s null l u ih hsm
    simp only [TR.small] at hsm
    exact sameTree_one hm h hs (fun t ht => ih t ht (TR.smallL_mem hsm.2.2.2.2 t ht)) hsm.1 hsm.2.1 hsm.2.2.1 hsm.2.2.2.1
  · intro t ht; simp at ht
  · intro a l ih1 ih2 t ht
    rcases List.mem_cons.1 ht with rfl | ht
    · exact ih1
    · exact ih2 t ht

end
end Go.Msk

/-! The law that both ways of reading tell the same. -/
namespace Go.Msk
open Go.RowKit
set_option maxRecDepth 100000

/-- A door is called and its two results are kept. -/
def pairF (b d ver f : FuncId) : List RI :=
  [⟨some b, .mv (.tmp 0), none⟩, ⟨some (b + 1), .mv (.tmp 5), none⟩, ⟨some (b + 2), .call ver [.tmp b, .tmp (b + 1)], none⟩, ⟨some (b + 3), .mv (.tmp 1), none⟩, ⟨some (b + 4), .call f [.tmp (b + 2), .tmp (b + 3)], none⟩,
   ⟨some (b - 1), .mv (.tmp (b + 4)), none⟩, ⟨some (b + 5), .ext (.tmp (b - 1)) 0, none⟩, ⟨some (b + 6), .ext (.tmp (b - 1)) 1, none⟩, ⟨some d, .alloc tzero, none⟩, ⟨none, .st (.tmp d) 5 (.tmp (b + 5)), none⟩, ⟨some (d + 1), .mv (.tmp (b + 6)), none⟩]

def unsTail (got same : FuncId) : List DI :=
  [⟨⟨some 35, .mv (.tmp 7), none⟩, false, []⟩, ⟨⟨some 36, .mv (.tmp 9), none⟩, false, []⟩, ⟨⟨some 37, .beq false (.tmp 35) (.tmp 36), none⟩, false, []⟩, ⟨⟨some 38, .mv (.tmp 37), none⟩, false, []⟩,
   ⟨⟨some 39, .mv (.tmp 7), some (38, true)⟩, false, []⟩, ⟨⟨some 40, .lnot (.tmp 39), some (38, true)⟩, false, []⟩, ⟨⟨some 41, .mv (.tmp 40), some (38, true)⟩, false, []⟩,
   ⟨⟨some 42, .ldn (.tmp 6) 5, some (41, false)⟩, false, []⟩, ⟨⟨some 43, .call got [.tmp 42], some (41, false)⟩, true, []⟩,
   ⟨⟨some 44, .ldn (.tmp 8) 5, some (41, false)⟩, false, []⟩, ⟨⟨some 45, .call got [.tmp 44], some (41, false)⟩, true, [8]⟩,
   ⟨⟨some 46, .call same [.tmp 43, .tmp 45], some (41, false)⟩, true, [8, 10]⟩,
   ⟨⟨some 47, .pick (.tmp 41) (.const (.bool true)) (.tmp 46), some (38, true)⟩, false, [8, 10, 11]⟩,
   ⟨⟨some 48, .pick (.tmp 38) (.tmp 47) (.const (.bool false)), none⟩, false, [8, 10, 11]⟩,
   ⟨⟨some 4, .mv (.tmp 48), none⟩, false, [8, 10, 11]⟩]

def unsCode (mx ver tell uns got same : FuncId) : IC × List RV × Nat :=
  (.seq (.blk [⟨some 4, .mv (.const (.bool false)), none⟩])
  (.seq (.seq (.blk [⟨some 10, .mv (.tmp 1), none⟩, ⟨some 11, .len (.tmp 10), none⟩, ⟨some 12, .bin .gtr (.tmp 11) (.const (.int .i64 2147483647)), none⟩])
    (.cond (.tmp 12) (.seq (.blk [⟨some 4, .mv (.const (.bool true)), none⟩]) .ret) .skip))
  (.seq (.blk [⟨some 13, .call mx [], none⟩, ⟨some 5, .mv (.tmp 13), none⟩])
  (.seq (.seq (.blk [⟨some 14, .mv (.tmp 5), none⟩, ⟨some 15, .bin .lss (.tmp 14) (.const (.int .i64 0)), none⟩])
    (.cond (.tmp 15) (.seq (.blk [⟨some 4, .mv (.const (.bool false)), none⟩]) .ret) .skip))
  (.seq (.seq (.blk [⟨some 16, .mv (.tmp 1), none⟩, ⟨some 17, .len (.tmp 16), none⟩, ⟨some 18, .bin .gtr (.tmp 17) (.const (.int .i64 1000)), none⟩])
    (.cond (.tmp 18) (.seq (.blk [⟨some 4, .mv (.const (.bool true)), none⟩]) .ret) .skip))
  (.seq (.blk (pairF 20 6 ver tell))
  (.seq (.blk (pairF 28 8 ver uns))
  (.seq (.drw (unsTail got same) [])
  .ret))))))), [.tmp 4], 49)

/-- What a door that reads gives. -/
def TellOf (P : Program) (f : FuncId) (g : Nat) (Te : TypeId) (ve : Value) (res : Int → List UInt8 → Option TR) (most : Int) : Prop :=
  ∀ (w : World) (ver : Int) (v : Value) (src : List UInt8), 0 ≤ ver → ver ≤ most → src.length ≤ 1000 → SlC (fun _ => True) w v src.length (u8s src) → GErr g w Te ve →
    Calls P f [.int .i64 ver, v].toArray w fun e w' => Mod [] w w' ∧ ∃ cs, RepT (fun b => w.heap.size ≤ b) w' ((res ver src).getD .zero) cs ∧ e = .returned (.tuple #[.agg cs.toArray, .bool (res ver src).isSome])

section
variable {P : Program}

theorem pair_wp {b d ver f g : Nat} {Te : TypeId} {ve : Value} {res : Int → List UInt8 → Option TR} {most n : Int} {src : List UInt8} {v : Value} (hf : TellOf P f g Te ve res most)
    (hver : ∀ w, Calls P ver [.int .u8 n, .int .i64 most].toArray w fun e w' => e = .returned (.int .i64 (n % (most + 1))) ∧ w' = w) (_hn : 0 ≤ n) (hm : 0 ≤ most) (hl : src.length ≤ 1000)
    {σ : Sl} {w : World} {rest : Sl → World → Prop} (h0 : σ 0 = .int .u8 n) (h5 : σ 5 = .int .i64 most) (h1 : σ 1 = v) (hv : SlC (fun _ => True) w v src.length (u8s src)) (hg : GErr g w Te ve) (hd : 5 < d) (hdb : d + 1 < b - 1)
    (hQ : ∀ σ' w' p cs, (∀ j, j < b - 1 → j ≠ d → j ≠ d + 1 → σ' j = σ j) → σ' d = .pointer (some ⟨p, 0, none⟩) → σ' (d + 1) = .bool (res (n % (most + 1)) src).isSome → Blk w' p cs → w.heap.size ≤ p →
      RepT (fun b => w.heap.size ≤ b ∧ b ≠ p) w' ((res (n % (most + 1)) src).getD .zero) cs → Mod [] w w' → rest σ' w') :
    wpR P (pairF b d ver f) σ w rest := by
  obtain ⟨c, rfl⟩ : ∃ c, b = c + 1 := ⟨b - 1, by omega⟩
  simp only [Nat.add_sub_cancel] at *
  have q1 : 0 ≤ n % (most + 1) := Int.emod_nonneg _ (by omega)
  have q2 : n % (most + 1) < most + 1 := Int.emod_lt_of_pos _ (by omega)
  unfold pairF
  simp only [Nat.add_sub_cancel]
  refine wpR_step (v := .int .u8 n) (congrArg some h0) ?_
  refine wpR_step (v := .int .i64 most) (by simp only [RK.val?, ev, updo, upd, show (5 : Nat) ≠ c + 1 by omega, if_false, h5]) ?_
  refine wpR_call (vs := [.int .u8 n, .int .i64 most]) (by simp only [List.map_cons, List.map_nil, ev, updo, upd, show c + 1 ≠ c + 1 + 1 by omega, if_false, if_true]) (hver w) ?_
  rintro e w1 ⟨rfl, rfl⟩
  refine ⟨_, rfl, ?_⟩
  refine wpR_step (v := v) (by simp only [RK.val?, ev, updo, upd, show (1 : Nat) ≠ c + 1 by omega, show (1 : Nat) ≠ c + 1 + 1 by omega, show (1 : Nat) ≠ c + 1 + 2 by omega, if_false, h1]) ?_
  refine wpR_call (vs := [.int .i64 (n % (most + 1)), v]) (by simp only [List.map_cons, List.map_nil, ev, updo, upd, show c + 1 + 2 ≠ c + 1 + 3 by omega, if_false, if_true]) (hf w1 _ v src q1 (by omega) hl hv hg) ?_
  rintro e w2 ⟨m12, cs, hrep, rfl⟩
  refine ⟨_, rfl, ?_⟩
  generalize hr : res (n % (most + 1)) src = r at *
  generalize hT : Value.tuple #[.agg cs.toArray, .bool r.isSome] = T
  refine wpR_step (v := T) (by simp only [RK.val?, ev, updo, upd, if_true]) ?_
  refine wpR_step (v := .agg cs.toArray) (by subst hT; simp only [RK.val?, ev, updo, upd, if_true]; rfl) ?_
  refine wpR_step (v := .bool r.isSome) (by subst hT; simp only [RK.val?, ev, updo, upd, show c ≠ c + 1 + 5 by omega, if_false, if_true]; rfl) ?_
  refine wpR_run ?_
  intro Tn
  have h5c := hrep.five
  obtain ⟨k1, k2, k3⟩ := new_put w2 tzero cs Tn (by rw [h5c]; rfl) hrep.oneCell
  generalize hw3 : w2.alloc (.cells tzero.toArray Tn) = w3 at k1 k2 k3 ⊢
  refine wpR_run ?_
  have ec : (Value.agg cs.toArray).cells = cs.toArray := rfl
  simp only [RK.run, ev, updo, upd, if_true, show c + 1 + 5 ≠ d by omega, show c + 1 + 5 ≠ c + 1 + 6 by omega, if_false, ec]
  refine ⟨by simp [h5c], by simpa using k1, ?_⟩
  refine wpR_step (v := .bool r.isSome) (by simp only [RK.val?, ev, upd, show c + 1 + 6 ≠ d by omega, if_false, if_true]) ?_
  simp only [wpR]
  refine hQ _ _ w2.heap.size cs ?_ ?_ ?_ k2 m12.size ?_ (m12.trans k3)
  · intro j hj hjd hjd1
    simp only [updo, upd, hjd, hjd1, show j ≠ c + 1 by omega, show j ≠ c + 1 + 1 by omega, show j ≠ c + 1 + 2 by omega, show j ≠ c + 1 + 3 by omega, show j ≠ c + 1 + 4 by omega, show j ≠ c by omega, show j ≠ c + 1 + 5 by omega, show j ≠ c + 1 + 6 by omega, if_false]
  · simp only [updo, upd, show d ≠ d + 1 by omega, if_false, if_true]
  · simp only [updo, upd, if_true]
  · exact hrep.mod k3 (by simp) fun b hb hx => ⟨hx, by omega⟩


/-- What the nodes of the last region give. -/
def UPhi (t : TR) : Nat → Value → World → Prop := fun k v w => if k = 11 then v = .bool true else ∃ cs, v = .agg cs.toArray ∧ RepT (fun _ => True) w t cs

theorem uns_tail {got same : FuncId} {t : TR} {o : Bool} (hgot : GotAt P got t) (hsame : SameAt P same t) {σ : Sl} {w : World} {p1 p2 : Nat} {cs1 cs2 : List Value} {R : Ending → World → Prop}
    (h6 : σ 6 = .pointer (some ⟨p1, 0, none⟩)) (h8 : σ 8 = .pointer (some ⟨p2, 0, none⟩)) (h7 : σ 7 = .bool o) (h9 : σ 9 = .bool o) (hb1 : Blk w p1 cs1) (hb2 : Blk w p2 cs2) (hr1 : RepT (fun b => b < w.heap.size) w t cs1) (hr2 : RepT (fun b => b < w.heap.size) w t cs2)
    (hQ : ∀ σ' w', Mod [] w w' → σ' 4 = .bool true → wpC P .ret (postC [.tmp 4] R) σ' w') :
    wpC P (.seq (.drw (unsTail got same) []) .ret) (postC [.tmp 4] R) σ w := by
  rw [wpC_seq]
  show wpD P (unsTail got same) [] σ w.drew _
  have hb1' : Blk w.drew p1 cs1 := hb1.of_heap rfl
  have hb2' : Blk w.drew p2 cs2 := hb2.of_heap rfl
  have hr1' : RepT (fun b => b < w.heap.size) w.drew t cs1 := hr1.mod (Mod.drew [] w) (by simp) fun _ _ h => h
  have hr2' : RepT (fun b => b < w.heap.size) w.drew t cs2 := hr2.mod (Mod.drew [] w) (by simp) fun _ _ h => h
  have hmd : Mod [] w w.drew := Mod.drew [] w
  have hsz : w.drew.heap.size = w.heap.size := rfl
  generalize w.drew = wd at hb1' hb2' hr1' hr2' hmd hsz ⊢
  refine wpD_of_B (UPhi t) (fun j v w1 w2 h hm => ?_) ?_
  · unfold UPhi at h ⊢
    split at h
    · rename_i hj; rw [if_pos hj]; exact h
    · rename_i hj; rw [if_neg hj]
      obtain ⟨cs, h1, h2⟩ := h
      exact ⟨cs, h1, h2.mod hm (by simp) fun _ _ h => h⟩
  generalize hE : (fun σ' => ∀ w, Mod [] wd w → known (unsTail got same) (UPhi t) (List.range (unsTail got same).length) σ' w → wpR P [] σ' w _) = E
  have hfin : ∀ σ', σ' 4 = .bool true → E σ' := by
    intro σ' h4; subst hE
    intro w' hm' _
    exact hQ σ' w' (hmd.trans hm') h4
  unfold unsTail
  refine walkB_step (v := .bool o) (congrArg some h7) ?_
  refine walkB_step (v := .bool o) (by simp only [RK.val?, ev, updo, upd]; simp [h9]) ?_
  refine walkB_step (v := .bool true) (by simp only [RK.val?, ev, updo, upd]; simp) ?_
  refine walkB_step (v := .bool true) (by simp only [RK.val?, ev, updo, upd, if_true]) ?_
  refine walkB_stepG (v := .bool o) (by simp only [updo, upd, if_true]) (by simp only [RK.val?, ev, updo, upd]; simp [h7]) ?_
  refine walkB_stepG (v := .bool !o) (by simp only [updo, upd]; simp) (by simp only [RK.val?, ev, updo, upd, if_true]) ?_
  refine walkB_stepG (v := .bool !o) (by simp only [updo, upd]; simp) (by simp only [RK.val?, ev, updo, upd, if_true]) ?_
  simp only [updo]
  generalize hσ1 : upd (upd (upd (upd (upd (upd (upd σ 35 (.bool o)) 36 (.bool o)) 37 (.bool true)) 38 (.bool true)) 39 (.bool o)) 40 (.bool !o)) 41 (.bool !o) = σ1
  have s41 : σ1 41 = .bool !o := by subst hσ1; simp only [upd, if_true]
  have s38 : σ1 38 = .bool true := by subst hσ1; simp [upd]
  have s6 : σ1 6 = .pointer (some ⟨p1, 0, none⟩) := by subst hσ1; simp [upd, h6]
  have s8 : σ1 8 = .pointer (some ⟨p2, 0, none⟩) := by subst hσ1; simp [upd, h8]
  clear hσ1
  cases o with
  | false =>
    refine walkB_offG (by simpa using s41) ?_
    refine walkB_offG (by simp only [updo, upd]; simpa using s41) ?_
    refine walkB_offG (by simp only [updo, upd]; simpa using s41) ?_
    refine walkB_offG (by simp only [updo, upd]; simpa using s41) ?_
    refine walkB_offG (by simp only [updo, upd]; simpa using s41) ?_
    refine walkB_stepG (v := .bool true) (by simp only [updo, upd]; simpa using s38) (by simp only [RK.val?, ev, updo, upd]; simp [s41]) ?_
    refine walkB_step (v := .bool true) (by simp only [RK.val?, ev, updo, upd]; simp [s38]) ?_
    refine walkB_step (v := .bool true) (by simp only [RK.val?, ev, updo, upd, if_true]) ?_
    exact hfin _ (by simp only [updo, upd, if_true])
  | true =>
    have s41 : σ1 41 = .bool false := s41
    refine walkB_stepG (v := .agg cs1.toArray) s41 (by simp only [RK.val?, ev, s6, cellsAt_of' hb1'.cells hr1.five, Option.map_some]) ?_
    refine walkB_nodeG (by simp only [updo, upd]; simpa using s41) (fun w1 hm1 _ => ?_) fun v1 hv1 => ?_
    · have hs := hm1.size
      refine (show Calls P got _ w1 _ from hgot w.heap.size w1 cs1 (by omega) (hr1'.mod hm1 (by simp) fun _ _ h => h)).mono ?_
      rintro e w2 ⟨cs', rfl, h2, h3⟩
      refine ⟨_, rfl, h3, ?_⟩
      unfold UPhi; rw [if_neg (by decide)]
      exact ⟨cs', rfl, h2.mod (Mod.refl [] _) (by simp) fun _ _ _ => trivial⟩
    refine walkB_stepG (v := .agg cs2.toArray) (by simp only [updo, upd]; simpa using s41) (by simp only [RK.val?, ev, updo, upd]; simp [s8, cellsAt_of' hb2'.cells hr2.five]) ?_
    refine walkB_nodeG (by simp only [updo, upd]; simpa using s41) (fun w1 hm1 _ => ?_) fun v2 hv2 => ?_
    · have hs := hm1.size
      refine (show Calls P got _ w1 _ from hgot w.heap.size w1 cs2 (by omega) (hr2'.mod hm1 (by simp) fun _ _ h => h)).mono ?_
      rintro e w2 ⟨cs', rfl, h2, h3⟩
      refine ⟨_, rfl, h3, ?_⟩
      unfold UPhi; rw [if_neg (by decide)]
      exact ⟨cs', rfl, h2.mod (Mod.refl [] _) (by simp) fun _ _ _ => trivial⟩
    refine walkB_nodeG (by simp only [updo, upd]; simpa using s41) (fun w1 hm1 hk => ?_) fun v3 hv3 => ?_
    · have k8 := hk 8 (by simp) _ rfl rfl (by simp only [gOk, updo, upd]; simp [s41]) 43 rfl
      have k10 := hk 10 (by simp) _ rfl rfl (by simp only [gOk, updo, upd]; simp [s41]) 45 rfl
      unfold UPhi at k8 k10
      rw [if_neg (by decide)] at k8 k10
      obtain ⟨c1, e1, q1⟩ := k8
      obtain ⟨c2, e2, q2⟩ := k10
      have a1 : ([.tmp 43, .tmp 45] : List Operand).map (ev (updo (updo (updo (updo σ1 (some 42) (.agg cs1.toArray)) (some 43) v1) (some 44) (.agg cs2.toArray)) (some 45) v2)) = [.agg c1.toArray, .agg c2.toArray] := by
        rw [← e1, ← e2]; rfl
      simp only [RK.run, a1]
      refine (hsame w1 c1 c2 q1 q2).mono ?_
      rintro e w2 ⟨rfl, h3⟩
      refine ⟨_, rfl, h3, ?_⟩
      unfold UPhi; rw [if_pos rfl]
    obtain ⟨w3, hw3⟩ := hv3
    have e3 : v3 = .bool true := by unfold UPhi at hw3; rwa [if_pos rfl] at hw3
    subst e3
    refine walkB_stepG (v := .bool true) (by simp only [updo, upd]; simpa using s38) (by simp only [RK.val?, ev, updo, upd]; simp [s41]) ?_
    refine walkB_step (v := .bool true) (by simp only [RK.val?, ev, updo, upd]; simp [s38]) ?_
    refine walkB_step (v := .bool true) (by simp only [RK.val?, ev, updo, upd, if_true]) ?_
    exact hfin _ (by simp only [updo, upd, if_true])

theorem uns_call (hm : P.follows .mixedOrders = true) {f mx ver tell uns got same g : FuncId} (h : liftF P f = some (unsCode mx ver tell uns got same)) {most : Int} (hmost : 0 ≤ most ∧ most < 32768)
    (hmx : ∀ w, Calls P mx #[] w fun e w' => e = .returned (.int .i64 most) ∧ Mod [] w w') (hver : ∀ w n, 0 ≤ n ∧ n < 256 → Calls P ver [.int .u8 n, .int .i64 most].toArray w fun e w' => e = .returned (.int .i64 (n % (most + 1))) ∧ w' = w)
    {Te : TypeId} {ve : Value} {res : Int → List UInt8 → Option TR} (htell : TellOf P tell g Te ve res most) (huns : TellOf P uns g Te ve res most)
    (hsmall : ∀ ver src t, src.length ≤ 1000 → res ver src = some t → t.small) (hgot : ∀ t : TR, t.small → GotAt P got t) (hsame : ∀ t : TR, t.small → SameAt P same t)
    {w : World} {n : Int} (hn : 0 ≤ n ∧ n < 256) {v : Value} {src : List UInt8} (hv : SlC (fun _ => True) w v src.length (u8s src)) (hg : GErr g w Te ve) :
    Calls P f [.int .u8 n, v].toArray w fun e w' => e = .returned (.bool true) ∧ Mod [] w w' := by
  unfold unsCode at h
  refine call_of h hm (by simp) ?_
  have a0 : args0 [.int .u8 n, v] 0 = .int .u8 n := rfl
  have a1 : args0 [.int .u8 n, v] 1 = v := rfl
  generalize args0 [.int .u8 n, v] = σ0 at a0 a1 ⊢
  obtain ⟨base, cap, hvv, -⟩ := id hv
  have fin : ∀ (σ : Sl) (w' : World), Mod [] w w' → σ 4 = .bool true → wpC P .ret (postC [.tmp 4] fun e w' => e = .returned (.bool true) ∧ Mod [] w w') σ w' := by
    intro σ w' hm' h4
    simp only [wpC, postC, rvals, List.mapM_cons, List.mapM_nil, RV.val, h4, Option.bind_eq_bind, Option.bind_some, Option.pure_def, tup_one]
    exact ⟨trivial, hm'⟩
  rw [wpC_seq, wpC_blk]
  refine wpR_step (v := .bool false) rfl ?_
  refine wpR_done ?_
  rw [wpC_seq, wpC_seq, wpC_blk]
  refine wpR_step (v := v) (by simp only [RK.val?, ev, updo, upd]; simp [a1]) ?_
  refine wpR_step (v := .int .i64 src.length) (by simp only [RK.val?, ev, updo, upd, if_true, hvv]) ?_
  refine wpR_step (v := .bool (decide ((src.length : Int) > 2147483647))) (by simp only [RK.val?, ev, updo, upd, if_true, isShift, decide_true, Bool.or_true, intBin]) ?_
  refine wpR_done ?_
  by_cases hbig : (src.length : Int) > 2147483647
  · rw [wpC_cond_t (by simp only [ev, updo, upd, if_true, hbig, decide_true]), wpC_seq, wpC_blk]
    refine wpR_step (v := .bool true) rfl ?_
    refine wpR_done ?_
    exact fin _ _ (Mod.refl _ _) rfl
  rw [wpC_cond_f (by simp only [ev, updo, upd, if_true, hbig, decide_false]), wpC_skip]
  simp only [thenC]
  rw [wpC_seq, wpC_blk]
  refine wpR_call (vs := []) rfl (hmx w) ?_
  rintro e w1 ⟨rfl, m1⟩
  refine ⟨_, rfl, ?_⟩
  refine wpR_step (v := .int .i64 most) rfl ?_
  refine wpR_done ?_
  rw [wpC_seq, wpC_seq, wpC_blk]
  refine wpR_step (v := .int .i64 most) rfl ?_
  refine wpR_step (v := .bool false) (by simp only [RK.val?, ev, updo, upd, if_true, isShift, decide_true, Bool.or_true, intBin]; simp; omega) ?_
  refine wpR_done ?_
  rw [wpC_cond_f rfl, wpC_skip]
  simp only [thenC]
  rw [wpC_seq, wpC_seq, wpC_blk]
  refine wpR_step (v := v) (by simp only [RK.val?, ev, updo, upd]; simp [a1]) ?_
  refine wpR_step (v := .int .i64 src.length) (by simp only [RK.val?, ev, updo, upd, if_true, hvv]) ?_
  refine wpR_step (v := .bool (decide ((src.length : Int) > 1000))) (by simp only [RK.val?, ev, updo, upd, if_true, isShift, decide_true, Bool.or_true, intBin]) ?_
  refine wpR_done ?_
  by_cases hbig2 : (src.length : Int) > 1000
  · rw [wpC_cond_t (by simp only [ev, updo, upd, if_true, hbig2, decide_true]), wpC_seq, wpC_blk]
    refine wpR_step (v := .bool true) rfl ?_
    refine wpR_done ?_
    exact fin _ _ m1 rfl
  rw [wpC_cond_f (by simp only [ev, updo, upd, if_true, hbig2, decide_false]), wpC_skip]
  simp only [thenC]
  rw [wpC_seq, wpC_blk]
  have hg1 : GErr g w1 Te ve := cell_mod hg m1 (by simp)
  have hv1 := hv.mod (ok' := fun _ => True) m1 (by simp) fun _ _ h => h
  refine pair_wp (n := n) (most := most) (src := src) (v := v) htell (fun w => hver w n hn) hn.1 hmost.1 (by omega) (by simp only [updo, upd]; simp [a0]) (by simp only [updo, upd]; simp) (by simp only [updo, upd]; simp [a1]) hv1 hg1 (by omega) (by omega) ?_
  intro σ2 w2 p1 cs1 a2 q6 q7 hb1 hp1 hr1 m2
  have g2 : ∀ j, j < 6 → j ≠ 4 → σ2 j = (if j = 5 then .int .i64 most else σ0 j) := by
    intro j hj h4
    rw [a2 j (by omega) (by omega) (by omega)]
    simp only [updo, upd, h4, show j ≠ 13 by omega, show j ≠ 14 by omega, show j ≠ 15 by omega, show j ≠ 16 by omega, show j ≠ 17 by omega, show j ≠ 18 by omega, show j ≠ 10 by omega, show j ≠ 11 by omega, show j ≠ 12 by omega, if_false]
  simp only [thenC]
  rw [wpC_seq, wpC_blk]
  refine pair_wp (n := n) (most := most) (src := src) (v := v) huns (fun w => hver w n hn) hn.1 hmost.1 (by omega) (by rw [g2 0 (by omega) (by omega)]; exact a0) (by rw [g2 5 (by omega) (by omega)]; rfl) (by rw [g2 1 (by omega) (by omega)]; exact a1)
    (hv1.mod (ok' := fun _ => True) m2 (by simp) fun _ _ h => h) (cell_mod hg1 m2 (by simp)) (by omega) (by omega) ?_
  intro σ3 w3 p2 cs2 a3 q8 q9 hb2 hp2 hr2 m3
  simp only [thenC]
  have hsm : ((res (n % (most + 1)) src).getD .zero).small := by
    cases hr : res (n % (most + 1)) src with
    | none => simp [TR.zero, TR.small, TR.smallL]
    | some t => exact hsmall _ _ _ (by omega) hr
  refine uns_tail (hgot _ hsm) (hsame _ hsm) (by rw [a3 6 (by omega) (by omega) (by omega)]; exact q6) q8 (by rw [a3 7 (by omega) (by omega) (by omega)]; exact q7) q9 (hb1.mod m3 (by simp)) hb2
    (hr1.mod m3 (by simp) fun b hb _ => Nat.lt_of_lt_of_le hb m3.size) (hr2.mod (Mod.refl [] _) (by simp) fun b hb _ => hb) fun σ' w' hm' h4 => fin σ' w' ((m1.trans m2).trans (m3.trans hm')) h4

end
end Go.Msk

/-! What is read is small; the standard readers are as typing asks. -/
namespace Go.Msk
open Go.RowKit
set_option maxRecDepth 100000

theorem TR.smallL_of {l : List TR} (h : ∀ t ∈ l, t.small) : TR.smallL l := by
  induction l with
  | nil => trivial
  | cons t l ih => exact ⟨h t List.mem_cons_self, ih fun x hx => h x (List.mem_cons_of_mem _ hx)⟩

/-- A value is small, unknown tags too. -/
def GV.sm (g : GV) : Prop := g.told.small ∧ ∀ m, g = .tag m → m.length ≤ 2147483647 ∧ ∀ p ∈ m, p.2.length ≤ 2147483647

def Dec.Small (D : Dec) : Prop := ∀ (p : PK) (x : Bool) (s : RS), s.src.length ≤ 2147483647 → (D.prim p x s).1.sm

def Df.smallB : Df → Bool
  | .str l => decide (l.length ≤ 1000)
  | _ => true

theorem Df.small {d : Df} (h : d.smallB = true) : d.gv.sm := by
  refine ⟨?_, fun m e => by cases d <;> simp [Df.gv] at e⟩
  cases d with
  | str l =>
    simp only [Df.smallB, decide_eq_true_eq] at h
    simp only [Df.gv, Msk.str, GV.told, TR.small, TR.smallL]
    simp; omega
  | _ => simp [Df.gv, GV.told, TR.small, TR.smallL]

/-- How many fields. -/
def Sc.len : Sc → Nat
  | .nil => 0
  | .prm _ _ _ _ _ rest => rest.len + 1
  | .enm _ _ _ _ _ rest => rest.len + 1
  | .lsp _ _ _ _ _ _ _ rest => rest.len + 1
  | .lss _ _ _ _ _ _ rest => rest.len + 1
  | .sub _ _ _ rest => rest.len + 1
  | .tags _ => 1
  | .uid _ _ rest => rest.len + 1

def Sc.smallB : Sc → Bool
  | .nil => true
  | .prm _ _ _ _ d rest => d.smallB && rest.smallB
  | .enm _ _ _ _ d rest => d.smallB && rest.smallB
  | .lsp _ _ _ _ _ _ _ rest => rest.smallB
  | .lss _ _ _ _ _ body rest => decide (body.len ≤ 1000) && body.smallB && rest.smallB
  | .sub _ _ body rest => decide (body.len ≤ 1000) && body.smallB && rest.smallB
  | .tags _ => true
  | .uid _ _ rest => rest.smallB

theorem Sc.dgv_len : ∀ sc : Sc, sc.dgv.length = sc.len := by
  intro sc
  induction sc with
  | nil => rfl
  | _ => simp [Sc.dgv, Sc.len, *]

theorem arr_sm {l : List UInt8} (h : l.length ≤ 2147483647) : (GV.arr l).sm := by
  refine ⟨?_, fun m e => by simp at e⟩
  simp only [GV.told, TR.small, TR.smallL]
  simpa using h

theorem toldF_len (gs : List GV) : (GV.toldF gs).length ≤ gs.length := by
  induction gs with
  | nil => simp [GV.toldF]
  | cons g gs ih => cases g <;> simp only [GV.toldF, List.length_cons] <;> omega

theorem toldF_small {gs : List GV} (h : ∀ g ∈ gs, g.sm) : TR.smallL (GV.toldF gs) := by
  induction gs with
  | nil => simp [GV.toldF, TR.smallL]
  | cons g gs ih =>
    have h1 := (h g List.mem_cons_self).1
    have h2 := ih fun x hx => h x (List.mem_cons_of_mem _ hx)
    cases g with
    | tag m => simpa only [GV.toldF] using h2
    | _ => simp only [GV.toldF]; exact ⟨h1, h2⟩

theorem tagsF_small {gs : List GV} (h : ∀ g ∈ gs, g.sm) : (GV.tagsF gs).length ≤ 2147483647 ∧ ∀ p ∈ GV.tagsF gs, p.2.length ≤ 2147483647 := by
  induction gs with
  | nil => simp [GV.tagsF]
  | cons g gs ih =>
    have h2 := ih fun x hx => h x (List.mem_cons_of_mem _ hx)
    cases g with
    | tag m =>
      obtain ⟨k1, k2⟩ := (h _ List.mem_cons_self).2 m rfl
      have hp := sortT_perm m
      exact ⟨by rw [GV.tagsF, hp.length_eq]; exact k1, fun p hx => k2 p (hp.mem_iff.1 hx)⟩
    | _ => exact h2

theorem rcd_small {gs : List GV} (h1 : gs.length ≤ 1000) (h2 : ∀ g ∈ gs, g.sm) : (GV.rcd gs).sm := by
  refine ⟨?_, fun m e => by simp at e⟩
  simp only [GV.told, TR.small]
  have := toldF_len gs
  have k := tagsF_small h2
  exact ⟨by simp, by omega, k.1, k.2, toldF_small h2⟩

theorem Sc.dgv_small : ∀ sc : Sc, sc.smallB = true → ∀ g ∈ sc.dgv, g.sm := by
  intro sc
  have l0 : (GV.lst true 0 []).sm := ⟨by simp [GV.told, GV.toldL, TR.small, TR.smallL], fun m e => by simp at e⟩
  induction sc with
  | nil => intro _ g hg; simp [Sc.dgv] at hg
  | prm vc i r p d rest ih =>
    intro h g hg
    simp only [Sc.smallB, Bool.and_eq_true] at h
    rcases List.mem_cons.1 hg with rfl | hg
    · exact Df.small h.1
    · exact ih h.2 g hg
  | enm vc i r p d rest ih =>
    intro h g hg
    simp only [Sc.smallB, Bool.and_eq_true] at h
    rcases List.mem_cons.1 hg with rfl | hg
    · exact Df.small h.1
    · exact ih h.2 g hg
  | lsp vc l b d i r p rest ih =>
    intro h g hg
    rcases List.mem_cons.1 hg with rfl | hg
    · exact l0
    · exact ih h g hg
  | lss vc l b z d body rest ihb ih =>
    intro h g hg
    simp only [Sc.smallB, Bool.and_eq_true] at h
    rcases List.mem_cons.1 hg with rfl | hg
    · exact l0
    · exact ih h.2 g hg
  | sub vc d body rest ihb ih =>
    intro h g hg
    simp only [Sc.smallB, Bool.and_eq_true, decide_eq_true_eq] at h
    rcases List.mem_cons.1 hg with rfl | hg
    · exact rcd_small (by rw [Sc.dgv_len]; exact h.1.1) (ihb h.1.2)
    · exact ih h.2 g hg
  | uid vc f rest ih =>
    intro h g hg
    rcases List.mem_cons.1 hg with rfl | hg
    · exact arr_sm (by simp)
    · exact ih h g hg
  | tags f =>
    intro h g hg
    simp only [Sc.dgv, List.mem_singleton] at hg
    subst hg
    exact ⟨by simp [GV.told, TR.small, TR.smallL, TR.zero], fun m e => by simp only [GV.tag.injEq] at e; subst e; simp⟩

theorem lst_small {b : Bool} {z : Nat} {l : List GV} (h1 : l.length ≤ 2147483647) (h2 : ∀ g ∈ l, g.sm) : (GV.lst b z l).sm := by
  refine ⟨?_, fun m e => by simp at e⟩
  simp only [GV.told, TR.small]
  refine ⟨by simp, by rw [GV.toldL_map]; simp; omega, by simp, by simp, TR.smallL_of fun t ht => ?_⟩
  rw [GV.toldL_map] at ht
  obtain ⟨g, hg, rfl⟩ := List.mem_map.1 ht
  exact (h2 g hg).1

theorem dec_small {D : Dec} (hD : D.Ok) (hS : D.Small) {ver : Int} {x : Bool} : ∀ (sc : Sc) (s s' : RS) (gs : List GV), sc.smallB = true → s.src.length ≤ 2147483647 → sc.dec D ver x s = some (gs, s') →
    gs.length = sc.len ∧ (∀ g ∈ gs, g.sm) ∧ s'.src.length ≤ s.src.length := by
  intro sc
  have l0 : (GV.lst true 0 []).sm := ⟨by simp [GV.told, GV.toldL, TR.small, TR.smallL], fun m e => by simp at e⟩
  have prim : ∀ (vc : VC) (p : PK) (d : Df) (s s1 : RS) (g : GV), d.smallB = true → s.src.length ≤ 2147483647 → (if vc.holds ver then some (D.prim p x s) else some (d.gv, s)) = some (g, s1) → g.sm ∧ s1.src.length ≤ s.src.length := by
    intro vc p d s s1 g hd hs h
    split at h
    · simp only [Option.some.injEq] at h
      have e1 := hS p x s hs
      have e2 := hD.prle p x s
      rw [h] at e1 e2
      exact ⟨e1, e2⟩
    · simp only [Option.some.injEq, Prod.mk.injEq] at h
      obtain ⟨rfl, rfl⟩ := h
      exact ⟨Df.small hd, Nat.le_refl _⟩
  have cons : ∀ {g : GV} {l : List GV}, g.sm → (∀ y ∈ l, y.sm) → ∀ y ∈ g :: l, y.sm := fun h1 h2 y hy => by
    rcases List.mem_cons.1 hy with rfl | hy
    · exact h1
    · exact h2 y hy
  induction sc with
  | nil =>
    intro s s' gs _ hs h
    simp only [Sc.dec, Option.some.injEq, Prod.mk.injEq] at h
    obtain ⟨rfl, rfl⟩ := h
    exact ⟨rfl, by simp, Nat.le_refl _⟩
  | prm vc i r p d rest ih =>
    intro s s' gs hb hs h
    simp only [Sc.smallB, Bool.and_eq_true] at hb
    obtain ⟨g, s1, l, h1, h2, rfl⟩ := consD_some h
    obtain ⟨k1, k2⟩ := prim vc p d s s1 g hb.1 hs h1
    obtain ⟨k3, k4, k5⟩ := ih s1 s' l hb.2 (by omega) h2
    exact ⟨by simp [Sc.len, k3], cons k1 k4, by omega⟩
  | enm vc i r p d rest ih =>
    intro s s' gs hb hs h
    simp only [Sc.smallB, Bool.and_eq_true] at hb
    obtain ⟨g, s1, l, h1, h2, rfl⟩ := consD_some h
    obtain ⟨k1, k2⟩ := prim vc p d s s1 g hb.1 hs h1
    obtain ⟨k3, k4, k5⟩ := ih s1 s' l hb.2 (by omega) h2
    exact ⟨by simp [Sc.len, k3], cons k1 k4, by omega⟩
  | lsp vc len b d i r p rest ih =>
    intro s s' gs hb hs h
    simp only [Sc.smallB] at hb
    obtain ⟨g, s1, l, h1, h2, rfl⟩ := consD_some h
    have : g.sm ∧ s1.src.length ≤ s.src.length := by
      split at h1
      · obtain ⟨⟨b, z, y, rfl, q1, q2, -⟩, q3⟩ := decLst_ty hD (T := fun g => g.sm) (fun s g s' hs h => by
          simp only [Option.some.injEq] at h
          have e1 := hS p x s hs
          have e2 := hD.prle p x s
          rw [h] at e1 e2
          exact ⟨e1, e2⟩) hs h1
        exact ⟨lst_small q2 q1, q3⟩
      · simp only [Option.some.injEq, Prod.mk.injEq] at h1
        obtain ⟨rfl, rfl⟩ := h1
        exact ⟨l0, Nat.le_refl _⟩
    obtain ⟨k3, k4, k5⟩ := ih s1 s' l hb (by omega) h2
    exact ⟨by simp [Sc.len, k3], cons this.1 k4, by omega⟩
  | lss vc len b z dfl body rest ihb ih =>
    intro s s' gs hb hs h
    simp only [Sc.smallB, Bool.and_eq_true, decide_eq_true_eq] at hb
    obtain ⟨g, s1, l, h1, h2, rfl⟩ := consD_some h
    have : g.sm ∧ s1.src.length ≤ s.src.length := by
      split at h1
      · obtain ⟨⟨b, z, y, rfl, q1, q2, -⟩, q3⟩ := decLst_ty hD (T := fun g => g.sm) (fun s g s' hs h => by
          unfold rcdD at h
          cases hd : body.dec D ver x s with
          | none => rw [hd] at h; simp at h
          | some q =>
            obtain ⟨gl, s2⟩ := q
            rw [hd] at h
            simp only [Option.some.injEq, Prod.mk.injEq] at h
            obtain ⟨rfl, rfl⟩ := h
            obtain ⟨k1, k2, k3⟩ := ihb s s2 gl hb.1.2 hs hd
            exact ⟨rcd_small (by omega) k2, k3⟩) hs h1
        exact ⟨lst_small q2 q1, q3⟩
      · simp only [Option.some.injEq, Prod.mk.injEq] at h1
        obtain ⟨rfl, rfl⟩ := h1
        exact ⟨l0, Nat.le_refl _⟩
    obtain ⟨k3, k4, k5⟩ := ih s1 s' l hb.2 (by omega) h2
    exact ⟨by simp [Sc.len, k3], cons this.1 k4, by omega⟩
  | sub vc dfl body rest ihb ih =>
    intro s s' gs hb hs h
    simp only [Sc.smallB, Bool.and_eq_true, decide_eq_true_eq] at hb
    obtain ⟨g, s1, l, h1, h2, rfl⟩ := consD_some h
    have : g.sm ∧ s1.src.length ≤ s.src.length := by
      split at h1
      · unfold rcdD at h1
        cases hd : body.dec D ver x s with
        | none => rw [hd] at h1; simp at h1
        | some q =>
          obtain ⟨gl, s2⟩ := q
          rw [hd] at h1
          simp only [Option.some.injEq, Prod.mk.injEq] at h1
          obtain ⟨rfl, rfl⟩ := h1
          obtain ⟨k1, k2, k3⟩ := ihb s s2 gl hb.1.2 hs hd
          exact ⟨rcd_small (by omega) k2, k3⟩
      · simp only [Option.some.injEq, Prod.mk.injEq] at h1
        obtain ⟨rfl, rfl⟩ := h1
        exact ⟨rcd_small (by rw [Sc.dgv_len]; exact hb.1.1) (Sc.dgv_small body hb.1.2), Nat.le_refl _⟩
    obtain ⟨k3, k4, k5⟩ := ih s1 s' l hb.2 (by omega) h2
    exact ⟨by simp [Sc.len, k3], cons this.1 k4, by omega⟩

  | uid vc f rest ih =>
    intro s s' gs hb hs h
    simp only [Sc.smallB] at hb
    obtain ⟨g, s1, l, h1, h2, rfl⟩ := consD_some h
    have : g.sm ∧ s1.src.length ≤ s.src.length := by
      split at h1
      · simp only [Option.some.injEq] at h1
        have e1 := hS .uuid x s hs
        have e2 := hD.prle .uuid x s
        rw [h1] at e1 e2
        exact ⟨e1, e2⟩
      · simp only [Option.some.injEq, Prod.mk.injEq] at h1
        obtain ⟨rfl, rfl⟩ := h1
        exact ⟨arr_sm (by simp), Nat.le_refl _⟩
    obtain ⟨k3, k4, k5⟩ := ih s1 s' l hb (by omega) h2
    exact ⟨by simp [Sc.len, k3], cons this.1 k4, by omega⟩
  | tags f =>
    intro s s' gs hb hs h
    simp only [Sc.dec] at h
    split at h
    · simp only [Option.some.injEq, Prod.mk.injEq] at h
      obtain ⟨rfl, rfl⟩ := h
      have k := hD.tagty s hs
      refine ⟨rfl, fun g hg => ?_, hD.tagle s⟩
      simp only [List.mem_singleton] at hg
      subst hg
      exact ⟨by simp [GV.told, TR.small, TR.smallL, TR.zero], fun m e => by simp only [GV.tag.injEq] at e; subst e; exact k⟩
    · simp only [Option.some.injEq, Prod.mk.injEq] at h
      obtain ⟨rfl, rfl⟩ := h
      refine ⟨rfl, fun g hg => ?_, Nat.le_refl _⟩
      simp only [List.mem_singleton] at hg
      subst hg
      exact ⟨by simp [GV.told, TR.small, TR.smallL, TR.zero], fun m e => by simp only [GV.tag.injEq] at e; subst e; simp⟩

/-! The standard readers. -/
theorem rdN_le (k : Nat) (s : RS) : (rdN k s).2.src.length ≤ s.src.length := by
  unfold rdN; split <;> simp [RS.fail]
theorem rdSpan_le (l : Int) (s : RS) : (rdSpan l s).2.src.length ≤ s.src.length := by
  unfold rdSpan; split <;> simp [RS.fail]
theorem rdSpan_len {l : Int} {s : RS} {o : List UInt8} (h : (rdSpan l s).1 = some o) : o.length ≤ s.src.length := by
  unfold rdSpan at h
  split at h
  · simp at h
  · simp only at h
    split at h
    · simp at h
    · simp only [Option.some.injEq] at h; subst h; simp; omega
theorem rdSpan_getD (l : Int) (s : RS) : ((rdSpan l s).1.getD []).length ≤ s.src.length := by
  cases h : (rdSpan l s).1 with
  | none => simp
  | some o => exact rdSpan_len h
theorem rdCl_le (s : RS) : (rdCl s).2.src.length ≤ s.src.length := rdUv_le s

/-! What is read is no longer than what there is. -/
theorem rdString_b (s : RS) : (rdString s).1.length ≤ s.src.length ∧ (rdString s).2.src.length ≤ s.src.length := by
  have h := rdN_le 2 s
  simp only [rdString]
  exact ⟨Nat.le_trans (rdSpan_getD _ _) h, Nat.le_trans (rdSpan_le _ _) h⟩
theorem rdCString_b (s : RS) : (rdCString s).1.length ≤ s.src.length ∧ (rdCString s).2.src.length ≤ s.src.length := by
  have h := rdCl_le s
  simp only [rdCString]
  exact ⟨Nat.le_trans (rdSpan_getD _ _) h, Nat.le_trans (rdSpan_le _ _) h⟩
theorem rdNullableString_b (s : RS) : (∀ l, (rdNullableString s).1 = some l → l.length ≤ s.src.length) ∧ (rdNullableString s).2.src.length ≤ s.src.length := by
  have h := rdN_le 2 s
  simp only [rdNullableString]
  split
  · exact ⟨by simp, h⟩
  · exact ⟨fun l e => by simp only [Option.some.injEq] at e; subst e; exact Nat.le_trans (rdSpan_getD _ _) h, Nat.le_trans (rdSpan_le _ _) h⟩
theorem rdCNullableString_b (s : RS) : (∀ l, (rdCNullableString s).1 = some l → l.length ≤ s.src.length) ∧ (rdCNullableString s).2.src.length ≤ s.src.length := by
  have h := rdCl_le s
  simp only [rdCNullableString]
  split
  · exact ⟨by simp, h⟩
  · exact ⟨fun l e => by simp only [Option.some.injEq] at e; subst e; exact Nat.le_trans (rdSpan_getD _ _) h, Nat.le_trans (rdSpan_le _ _) h⟩
theorem rdBytes_b (s : RS) : (∀ l, (rdBytes s).1 = some l → l.length ≤ s.src.length) ∧ (rdBytes s).2.src.length ≤ s.src.length := by
  have h := rdN_le 4 s
  simp only [rdBytes]
  split
  · exact ⟨fun l e => by simp only [Option.some.injEq] at e; subst e; simp, h⟩
  · exact ⟨fun l e => Nat.le_trans (rdSpan_len e) h, Nat.le_trans (rdSpan_le _ _) h⟩
theorem rdCBytes_b (s : RS) : (∀ l, (rdCBytes s).1 = some l → l.length ≤ s.src.length) ∧ (rdCBytes s).2.src.length ≤ s.src.length := by
  have h := rdCl_le s
  simp only [rdCBytes]
  split
  · exact ⟨fun l e => by simp only [Option.some.injEq] at e; subst e; simp, h⟩
  · exact ⟨fun l e => Nat.le_trans (rdSpan_len e) h, Nat.le_trans (rdSpan_le _ _) h⟩
theorem rdNullableBytes_b (s : RS) : (∀ l, (rdNullableBytes s).1 = some l → l.length ≤ s.src.length) ∧ (rdNullableBytes s).2.src.length ≤ s.src.length := by
  have h := rdN_le 4 s
  simp only [rdNullableBytes]
  split
  · exact ⟨by simp, h⟩
  · exact ⟨fun l e => Nat.le_trans (rdSpan_len e) h, Nat.le_trans (rdSpan_le _ _) h⟩
theorem rdCNullableBytes_b (s : RS) : (∀ l, (rdCNullableBytes s).1 = some l → l.length ≤ s.src.length) ∧ (rdCNullableBytes s).2.src.length ≤ s.src.length := by
  have h := rdCl_le s
  simp only [rdCNullableBytes]
  split
  · exact ⟨by simp, h⟩
  · exact ⟨fun l e => Nat.le_trans (rdSpan_len e) h, Nat.le_trans (rdSpan_le _ _) h⟩
theorem rdUuid_b (s : RS) : (rdUuid s).1.length = 16 ∧ (rdUuid s).2.src.length ≤ s.src.length := ⟨rdUuid_len s, rdSpan_le _ _⟩

/-! Unknown tags. -/
theorem uvR_pos : ∀ (n : Nat) (l : List UInt8) (v k : Nat), uvR n l = some (v, k) → 1 ≤ k ∧ l ≠ []
  | 0, l, v, k, h => by simp [uvR] at h
  | n + 1, [], v, k, h => by simp [uvR] at h
  | n + 1, b :: r, v, k, h => by
    refine ⟨?_, by simp⟩
    simp only [uvR] at h
    split at h
    · split at h
      · simp at h
      · simp only [Option.some.injEq, Prod.mk.injEq] at h; omega
    · split at h
      · simp only [Option.some.injEq, Prod.mk.injEq] at h; omega
      · simp at h

/-- A number takes an octet at least; without one it is 0. -/
theorem rdUv_step (s : RS) : (rdUv s).2.src.length + 1 ≤ s.src.length ∨ (rdUv s).1 = 0 := by
  unfold rdUv
  split
  · rename_i v k h
    obtain ⟨h1, h2⟩ := uvR_pos _ _ _ _ h
    left
    have : 0 < s.src.length := List.length_pos_iff.2 h2
    simp; omega
  · exact .inr rfl

theorem putTag_len (m : List (Nat × List UInt8)) (k : Nat) (l : List UInt8) : (putTag m k l).length = if k ∈ m.map (·.1) then m.length else m.length + 1 := by
  have := congrArg List.length (putTag_keys m k l)
  rw [List.length_map] at this
  rw [this]
  split <;> simp

theorem putTag_mem {m : List (Nat × List UInt8)} {k : Nat} {l : List UInt8} {p : Nat × List UInt8} (h : p ∈ putTag m k l) : p ∈ m ∨ p.2 = l := by
  induction m with
  | nil => simp only [putTag, List.mem_singleton] at h; subst h; exact .inr rfl
  | cons q m ih =>
    obtain ⟨k', l'⟩ := q
    simp only [putTag] at h
    split at h
    · rcases List.mem_cons.1 h with rfl | h
      · exact .inr rfl
      · exact .inl (List.mem_cons_of_mem _ h)
    · rcases List.mem_cons.1 h with rfl | h
      · exact .inl List.mem_cons_self
      · exact (ih h).imp (List.mem_cons_of_mem _) id

theorem rdTagsN_b : ∀ (n : Nat) (m : List (Nat × List UInt8)) (s : RS) (N : Nat), s.src.length ≤ N → (∀ p ∈ m, p.2.length ≤ N) →
    (rdTagsN n m s).1.length ≤ m.length + s.src.length + (if 0 ∈ m.map (·.1) then 0 else 1) ∧ (∀ p ∈ (rdTagsN n m s).1, p.2.length ≤ N) ∧ (rdTagsN n m s).2.src.length ≤ s.src.length
  | 0, m, s, N, hs, hm => by simp only [rdTagsN]; exact ⟨by omega, hm, Nat.le_refl _⟩
  | n + 1, m, s, N, hs, hm => by
    simp only [rdTagsN]
    have a1 := rdUv_le s
    have a2 := rdUv_le (rdUv s).2
    have a3 := rdSpan_le (rdUv (rdUv s).2).1 (rdUv (rdUv s).2).2
    have a4 := rdSpan_getD (rdUv (rdUv s).2).1 (rdUv (rdUv s).2).2
    have st := rdUv_step s
    generalize (rdSpan (rdUv (rdUv s).2).1 (rdUv (rdUv s).2).2).1.getD [] = o at *
    generalize (rdSpan (rdUv (rdUv s).2).1 (rdUv (rdUv s).2).2).2 = s3 at *
    obtain ⟨h1, h2, h3⟩ := rdTagsN_b n (putTag m (rdUv s).1 o) s3 N (by omega) (fun p hp => by
      rcases putTag_mem hp with hp | hp
      · exact hm p hp
      · rw [hp]; omega)
    generalize rdTagsN n (putTag m (rdUv s).1 o) s3 = r at h1 h2 h3 ⊢
    refine ⟨?_, h2, by omega⟩
    have hk := putTag_keys m (rdUv s).1 o
    rw [putTag_len] at h1
    rw [hk] at h1
    by_cases hin : (rdUv s).1 ∈ m.map (·.1)
    · simp only [if_pos hin] at h1
      split at h1 <;> rename_i h0
      · rw [if_pos h0]; omega
      · rw [if_neg h0]; omega
    · simp only [if_neg hin] at h1
      by_cases hz : (rdUv s).1 = 0
      · rw [hz] at hin h1
        rw [if_neg hin]
        rw [if_pos (by simp)] at h1
        omega
      · have hst := st.resolve_right hz
        have e0 : (0 ∈ m.map (·.1) ++ [(rdUv s).1]) ↔ 0 ∈ m.map (·.1) := by
          simp only [List.mem_append, List.mem_singleton]
          exact ⟨fun h => h.resolve_right fun h => hz h.symm, .inl⟩
        simp only [e0] at h1
        omega

theorem rdTags_b (s : RS) : (rdTags s).1.length ≤ s.src.length ∧ (∀ p ∈ (rdTags s).1, p.2.length ≤ s.src.length) ∧ (rdTags s).2.src.length ≤ s.src.length := by
  unfold rdTags
  have a1 := rdUv_le s
  obtain ⟨h1, h2, h3⟩ := rdTagsN_b (rdUv s).1 [] (rdUv s).2 s.src.length a1 (by simp)
  refine ⟨?_, h2, by omega⟩
  rcases rdUv_step s with h | h
  · simp at h1; omega
  · rw [h]; simp [rdTagsN]

theorem i64_wrap_wrap (n : Int) : IntKind.i64.wrap (IntKind.i64.wrap n) = IntKind.i64.wrap n := by
  simp only [IntKind.wrap, IntKind.bits, IntKind.signed]
  simp
  omega

theorem decStd_ok : decStd.Ok where
  short := decStd_short
  lenle := fun x s => by
    have h := rdN_le 4 s
    have h2 := rdUv_le s
    simp only [decStd]
    split
    · simp only [rdCArrayLen]; split
      · simp [RS.fail]
      · exact h2
    · simp only [rdArrayLen]; split
      · simp [RS.fail]
      · exact h
  prle := fun p x s => by
    cases p <;> simp only [decStd]
    · exact rdN_le _ _
    · exact rdN_le _ _
    · exact rdN_le _ _
    · exact rdN_le _ _
    · exact rdN_le _ _
    · exact rdN_le _ _
    · exact rdN_le _ _
    · exact (rdUuid_b s).2
    · split
      · exact (rdCString_b s).2
      · exact (rdString_b s).2
    · split
      · exact (rdCNullableString_b s).2
      · exact (rdNullableString_b s).2
    · split
      · exact (rdCBytes_b s).2
      · exact (rdBytes_b s).2
    · split
      · exact (rdCNullableBytes_b s).2
      · exact (rdNullableBytes_b s).2
  ty := fun p x s hs => by
    cases p <;> simp only [decStd, PK.ty]
    · exact ⟨_, rfl⟩
    · exact ⟨_, _, rfl⟩
    · exact ⟨_, _, rfl⟩
    · exact ⟨_, _, rfl⟩
    · exact ⟨_, _, rfl⟩
    · exact ⟨_, rfl, i64_wrap_wrap _⟩
    · exact ⟨_, _, rfl⟩
    · exact ⟨_, rfl, (rdUuid_b s).1⟩
    · split
      · exact ⟨_, rfl⟩
      · exact ⟨_, rfl⟩
    · split
      · exact ⟨_, rfl⟩
      · exact ⟨_, rfl⟩
    · split
      · exact ⟨_, rfl, fun l h => Nat.le_trans ((rdCBytes_b s).1 l h) hs⟩
      · exact ⟨_, rfl, fun l h => Nat.le_trans ((rdBytes_b s).1 l h) hs⟩
    · split
      · exact ⟨_, rfl, fun l h => Nat.le_trans ((rdCNullableBytes_b s).1 l h) hs⟩
      · exact ⟨_, rfl, fun l h => Nat.le_trans ((rdNullableBytes_b s).1 l h) hs⟩
  tagle := fun s => (rdTags_b s).2.2
  tagty := fun s hs => ⟨Nat.le_trans (rdTags_b s).1 hs, fun p hp => Nat.le_trans ((rdTags_b s).2.1 p hp) hs⟩

theorem num_sm {v : Value} (h : ∀ s, v ≠ .string s) : (GV.num v).sm := by
  refine ⟨?_, fun m e => by simp at e⟩
  cases v <;> first | exact absurd rfl (h _) | simp [GV.told, TR.small, TR.smallL, TR.zero]

theorem str_sm {l : List UInt8} (h : l.length ≤ 2147483647) : (GV.num (Msk.str l)).sm := by
  refine ⟨?_, fun m e => by simp at e⟩
  simp only [Msk.str, GV.told, TR.small, TR.smallL]
  simpa using h

theorem decStd_small : decStd.Small := fun p x s hs => by
  have nb : ∀ {o : Option (List UInt8)}, (∀ l, o = some l → l.length ≤ s.src.length) → (GV.nstr o).sm := fun {o} h => by
    refine ⟨?_, fun m e => by simp at e⟩
    cases o with
    | none => simp [GV.told, TR.small, TR.smallL]
    | some l => have := h l rfl; simp only [GV.told, TR.small, TR.smallL]; simp; omega
  have yb : ∀ {o : Option (List UInt8)}, (∀ l, o = some l → l.length ≤ s.src.length) → (GV.byt o).sm := fun {o} h => by
    refine ⟨?_, fun m e => by simp at e⟩
    cases o with
    | none => simp [GV.told, TR.small, TR.smallL]
    | some l => have := h l rfl; simp only [GV.told, TR.small, TR.smallL]; simp; omega
  cases p <;> simp only [decStd]
  · exact num_sm (by simp)
  · exact num_sm (by simp)
  · exact num_sm (by simp)
  · exact num_sm (by simp)
  · exact num_sm (by simp)
  · exact num_sm (by simp)
  · exact num_sm (by simp)
  · refine ⟨?_, fun m e => by simp at e⟩
    have := (rdUuid_b s).1
    simp only [GV.told, TR.small, TR.smallL]; simp; omega
  · split
    · exact str_sm (Nat.le_trans (rdCString_b s).1 hs)
    · exact str_sm (Nat.le_trans (rdString_b s).1 hs)
  · split
    · exact nb (rdCNullableString_b s).1
    · exact nb (rdNullableString_b s).1
  · split
    · exact yb (rdCBytes_b s).1
    · exact yb (rdBytes_b s).1
  · split
    · exact yb (rdCNullableBytes_b s).1
    · exact yb (rdNullableBytes_b s).1

end Go.Msk
