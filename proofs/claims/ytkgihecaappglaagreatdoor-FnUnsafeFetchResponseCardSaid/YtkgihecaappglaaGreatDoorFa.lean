/- A small language of resolved operations, and what the generic and the generated functions do in it (part 1). -/
import Derived.Orders
import Derived.Below
import Derived.Laws.Cells
import Derived.Laws.World
import Derived.KernelRfl
import Derived.Laws.Tables
import Derived.Laws.AppendOwn
import Derived.Laws.BytesString
import Derived.Laws.MakeOwn
import Derived.Laws.IdiomRangeMap

namespace Go.Msk
open Go.RowKit
def Blk (w : World) (b : Nat) (cs : List Value) : Prop :=
  ∃ T fr, w.heap[b]? = some (.cells cs.toArray T fr) ∧ (fr.2 ≤ fr.1 ∨ cs.length ≤ fr.1)
def Cells (w : World) (a : Addr) (vs : List Value) : Prop :=
  a.spot = none ∧ ∀ i v, vs[i]? = some v → w.cell? ⟨a.block, a.off + i, none⟩ = some v
theorem Addr.add_mk (b o n : Nat) : (⟨b, o, none⟩ : Addr).add n = ⟨b, o + n, none⟩ := by
  unfold Addr.add; split
  · subst_vars; rfl
  · rfl
theorem Addr.add_of {a : Addr} (h : a.spot = none) (n : Nat) : a.add n = ⟨a.block, a.off + n, none⟩ := by
  obtain ⟨b, o, s⟩ := a; subst h; exact Addr.add_mk b o n
theorem Blk.lt {w : World} {b : Nat} {cs : List Value} (h : Blk w b cs) : b < w.heap.size := by
  obtain ⟨T, fr, h, -⟩ := h
  exact (Array.getElem?_eq_some_iff.1 h).1
theorem Blk.cell {w : World} {b : Nat} {cs : List Value} (h : Blk w b cs) (o : Nat) : w.cell? ⟨b, o, none⟩ = cs[o]? := by
  obtain ⟨T, fr, h, -⟩ := h
  simp [World.cell?, h]
theorem Blk.cells {w : World} {b : Nat} {cs : List Value} (h : Blk w b cs) : Cells w ⟨b, 0, none⟩ cs :=
  ⟨rfl, fun i v hv => by simp only [Nat.zero_add]; rw [h.cell]; exact hv⟩
theorem Blk.frozen {w : World} {b : Nat} {cs : List Value} (h : Blk w b cs) {o : Nat} (ho : o < cs.length) : w.frozen? ⟨b, o, none⟩ = false := by
  obtain ⟨T, fr, h, hf⟩ := h
  simp only [World.frozen?, h]
  rcases hf with hf | hf
  · simp only [Bool.and_eq_false_iff, decide_eq_false_iff_not]; omega
  · simp only [Bool.and_eq_false_iff, decide_eq_false_iff_not]; omega
theorem Blk.of_heap {w w' : World} {b : Nat} {cs : List Value} (h : Blk w b cs) (e : w'.heap[b]? = w.heap[b]?) : Blk w' b cs := by
  obtain ⟨T, fr, h, hf⟩ := h
  exact ⟨T, fr, by rw [e, h], hf⟩
theorem Blk.new (w : World) (cs : List Value) (T : TypeId) : Blk (w.alloc (.cells cs.toArray T)) w.heap.size cs :=
  ⟨T, (0, 0), by show (w.heap.push _)[w.heap.size]? = _; simp, .inl (Nat.le_refl _)⟩
theorem Cells.of_eq {w w' : World} {a : Addr} {vs : List Value} (h : Cells w a vs) (e : w'.heap[a.block]? = w.heap[a.block]?) : Cells w' a vs := by
  refine ⟨h.1, fun i v hv => ?_⟩
  have := h.2 i v hv
  simp only [World.cell?] at this ⊢
  rw [e]; exact this
theorem Cells.lt {w : World} {a : Addr} {vs : List Value} (h : Cells w a vs) (hn : vs ≠ []) : a.block < w.heap.size := by
  cases vs with
  | nil => exact absurd rfl hn
  | cons v vs => exact World.block_lt_of_cell? w ⟨a.block, a.off + 0, none⟩ (h.2 0 v rfl)
theorem Cells.head {w : World} {a : Addr} {v : Value} {vs : List Value} (h : Cells w a (v :: vs)) : w.cell? a = some v := by
  have := h.2 0 v rfl
  obtain ⟨b, o, s⟩ := a
  have hs := h.1
  simp only at hs
  subst hs
  simpa using this
theorem Cells.nth {w : World} {a : Addr} {vs : List Value} (h : Cells w a vs) {i : Nat} {v : Value} (hv : vs[i]? = some v) : w.cell? (a.add i) = some v := by
  rw [Addr.add_of h.1]; exact h.2 i v hv
theorem Cells.sub {w : World} {a : Addr} {vs : List Value} (h : Cells w a vs) (k : Nat) : Cells w ⟨a.block, a.off + k, none⟩ (vs.drop k) :=
  ⟨rfl, fun i v hv => by rw [List.getElem?_drop] at hv; have := h.2 _ _ hv; rwa [Nat.add_assoc]⟩
theorem Cells.take {w : World} {a : Addr} {vs : List Value} (h : Cells w a vs) (k : Nat) : Cells w a (vs.take k) :=
  ⟨h.1, fun i v hv => h.2 i v (by rw [List.getElem?_take] at hv; split at hv <;> simp_all)⟩
def cellsAt (w : World) (a : Addr) : Nat → Nat → Option (List Value)
  | _, 0 => some []
  | i, n + 1 => match w.cell? (a.add i), cellsAt w a (i + 1) n with
    | some v, some vs => some (v :: vs)
    | _, _ => none
theorem cellsAt_run {P : Program} {w : World} {a : Addr} : ∀ (n i : Nat) (vs : List Value) (acc : Array Value), cellsAt w a i n = some vs →
    (loadCellsFrom a i n acc).run P w = .ok (acc ++ vs.toArray) w
  | 0, i, vs, acc, h => by
    simp only [cellsAt, Option.some.injEq] at h; subst h
    simp [loadCellsFrom]
  | n + 1, i, vs, acc, h => by
    simp only [cellsAt] at h
    cases hc : w.cell? (a.add i) with
    | none => simp [hc] at h
    | some v =>
      cases hr : cellsAt w a (i + 1) n with
      | none => simp [hc, hr] at h
      | some r =>
        simp only [hc, hr, Option.some.injEq] at h; subst h
        have ih := cellsAt_run (P := P) n (i + 1) r (acc.push v) hr
        simp only [loadCellsFrom, Sem.run_bind, run_load, hc, Result.andThen, ih]
        simp
theorem cellsAt_of {w : World} {a : Addr} {vs : List Value} (h : Cells w a vs) : cellsAt w a 0 vs.length = some vs := by
  have key : ∀ (ws : List Value) (i : Nat), vs.drop i = ws → cellsAt w a i ws.length = some ws := by
    intro ws
    induction ws with
    | nil => intro i _; rfl
    | cons v ws ih =>
      intro i hd
      have hv : vs[i]? = some v := by
        have := congrArg List.head? hd
        rwa [List.head?_drop] at this
      have ht : vs.drop (i + 1) = ws := by
        have := congrArg List.tail hd
        rwa [List.tail_drop] at this
      simp only [List.length_cons, cellsAt, h.nth hv, ih (i + 1) ht]
  exact key vs 0 rfl
theorem cellsAt_of' {w : World} {a : Addr} {vs : List Value} {n : Nat} (h : Cells w a vs) (hn : vs.length = n) : cellsAt w a 0 n = some vs := by
  subst hn; exact cellsAt_of h
def putCells (w : World) (a : Addr) : Nat → List Value → World
  | _, [] => w
  | i, v :: vs => putCells (w.setCell (a.add i) v) a (i + 1) vs
def splice (cs : List Value) (k : Nat) (vs : List Value) : List Value := cs.take k ++ (vs ++ cs.drop (k + vs.length))
theorem splice_nil (cs : List Value) (k : Nat) : splice cs k [] = cs := by simp [splice]
theorem splice_get (cs vs : List Value) (k i : Nat) (h : k + vs.length ≤ cs.length) :
    (splice cs k vs)[i]? = if i < k then cs[i]? else if i < k + vs.length then vs[i - k]? else cs[i]? := by
  unfold splice
  by_cases h1 : i < k
  · rw [if_pos h1, List.getElem?_append_left (by simp; omega), List.getElem?_take, if_pos h1]
  · rw [if_neg h1, List.getElem?_append_right (by simp; omega)]
    have e : (List.take k cs).length = k := by simp; omega
    rw [e]
    by_cases h2 : i < k + vs.length
    · rw [if_pos h2, List.getElem?_append_left (by omega)]
    · rw [if_neg h2, List.getElem?_append_right (by omega), List.getElem?_drop]
      congr 1; omega
theorem set_splice (cs : List Value) (v : Value) (vs : List Value) (k : Nat) (h : k + (vs.length + 1) ≤ cs.length) :
    splice (cs.set k v) (k + 1) vs = splice cs k (v :: vs) := by
  apply List.ext_getElem?
  intro i
  rw [splice_get _ _ _ _ (by simp; omega), splice_get _ _ _ _ (by simpa using h)]
  simp only [List.length_cons, List.getElem?_set]
  by_cases h1 : i < k
  · rw [if_pos (by omega), if_neg (by omega), if_pos h1]
  · by_cases h2 : i = k
    · subst h2
      have hl : i < cs.length := by omega
      simp [hl]
    · rw [if_neg (by omega), if_neg h1]
      by_cases h3 : i < k + 1 + vs.length
      · rw [if_pos h3, if_pos (by omega)]
        rw [show i - k = (i - (k + 1)) + 1 by omega, List.getElem?_cons_succ]
      · rw [if_neg h3, if_neg (by omega), if_neg (by omega)]
structure Only (b : Nat) (w w' : World) : Prop where
  os : w'.os = w.os
  tape : w'.tape = w.tape
  output : w'.output = w.output
  size : w'.heap.size = w.heap.size
  block : ∀ k, k ≠ b → w'.heap[k]? = w.heap[k]?
theorem Only.refl (b : Nat) (w : World) : Only b w w := ⟨rfl, rfl, rfl, rfl, fun _ _ => rfl⟩
theorem Only.trans {b : Nat} {u v w : World} (h : Only b u v) (k : Only b v w) : Only b u w :=
  ⟨k.os.trans h.os, k.tape.trans h.tape, k.output.trans h.output, k.size.trans h.size, fun i hi => (k.block i hi).trans (h.block i hi)⟩
theorem Only.setCell (w : World) (a : Addr) (v : Value) : Only a.block w (w.setCell a v) :=
  ⟨rfl, rfl, rfl, by simp, fun k hk => Below.heap_setCell w a v k hk⟩
theorem Blk.setCell {w : World} {b : Nat} {cs : List Value} (h : Blk w b cs) (o : Nat) (v : Value) : Blk (w.setCell ⟨b, o, none⟩ v) b (cs.set o v) := by
  obtain ⟨T, fr, h, hf⟩ := h
  refine ⟨T, fr, ?_, by simpa using hf⟩
  simp only [World.setCell, Array.getElem?_modify, if_true, h, Option.map_some]
  simp
theorem Blk.putCells {b : Nat} (vs : List Value) : ∀ (w : World) (cs : List Value) (o i : Nat), Blk w b cs → o + i + vs.length ≤ cs.length →
    Blk (putCells w ⟨b, o, none⟩ i vs) b (splice cs (o + i) vs) := by
  induction vs with
  | nil => intro w cs o i h _; rw [splice_nil]; exact h
  | cons v vs ih =>
    intro w cs o i h hl
    simp only [Msk.putCells, Addr.add_mk]
    rw [← set_splice _ _ _ _ (by simpa using hl)]
    exact ih _ _ o (i + 1) (h.setCell _ _) (by simp at hl ⊢; omega)
theorem Only.putCells {b : Nat} (o : Nat) (vs : List Value) : ∀ (w : World) (i : Nat), Only b w (putCells w ⟨b, o, none⟩ i vs) := by
  induction vs with
  | nil => intro w i; exact Only.refl _ _
  | cons v vs ih =>
    intro w i
    simp only [Msk.putCells, Addr.add_mk]
    exact (Only.setCell w ⟨b, o + i, none⟩ v).trans (ih _ (i + 1))
theorem putCells_run {P : Program} {b : Nat} (vs : List Value) : ∀ (w : World) (cs : List Value) (o i : Nat), Blk w b cs → o + i + vs.length ≤ cs.length →
    (∀ v ∈ vs, v.oneCell' = true) → (storeCells ⟨b, o, none⟩ vs i).run P w = .ok () (putCells w ⟨b, o, none⟩ i vs) := by
  induction vs with
  | nil => intro w cs o i h _ _; simp [storeCells, putCells]
  | cons v vs ih =>
    intro w cs o i h hl hv
    have hlt : o + i < cs.length := by simp at hl; omega
    have hc : w.cell? ⟨b, o + i, none⟩ = some cs[o + i] := by rw [h.cell]; simp [hlt]
    simp only [storeCells, Addr.add_mk, Sem.run_bind, run_store P w _ v _ (hv v (by simp)), hc, h.frozen hlt, putCells]
    simp only [Bool.false_eq_true, if_false, Result.andThen]
    exact ih _ _ o (i + 1) (h.setCell _ _) (by simp at hl ⊢; omega) (fun u hu => hv u (by simp [hu]))
end Go.Msk

namespace Go.Msk
open Go.RowKit
abbrev Sl := Nat → Value
def upd (σ : Sl) (k : Nat) (v : Value) : Sl := fun j => if j = k then v else σ j
def updo (σ : Sl) : Option Nat → Value → Sl
  | some k, v => upd σ k v
  | none, _ => σ
theorem upd_same (σ : Sl) (k : Nat) (v : Value) : upd σ k v k = v := by simp [upd]
theorem upd_ne (σ : Sl) {k j : Nat} (v : Value) (h : j ≠ k) : upd σ k v j = σ j := by simp [upd, h]
def ev (σ : Sl) : Operand → Value
  | .tmp t => σ t
  | .const v => v
  | .global g => .pointer (some ⟨g, 0, none⟩)
  | .func f => .func (.func f) #[] #[]
def intBin (op : BinOp) (k : IntKind) (x y : Int) : Option Value :=
  match op with
  | .add => some (.int k (k.wrap (x + y)))
  | .sub => some (.int k (k.wrap (x - y)))
  | .mul => some (.int k (k.wrap (x * y)))
  | .quo => if y = 0 then none else some (.int k (k.wrap (x.tdiv y)))
  | .rem => if y = 0 then none else some (.int k (x.tmod y))
  | .and => some (.int k (k.wrap (BitVec.ofInt k.bits x &&& BitVec.ofInt k.bits y).toNat))
  | .or => some (.int k (k.wrap (BitVec.ofInt k.bits x ||| BitVec.ofInt k.bits y).toNat))
  | .xor => some (.int k (k.wrap (BitVec.ofInt k.bits x ^^^ BitVec.ofInt k.bits y).toNat))
  | .andNot => some (.int k (k.wrap (BitVec.ofInt k.bits x &&& ~~~ (BitVec.ofInt k.bits y)).toNat))
  | .eql => some (.bool (x == y))
  | .neq => some (.bool (x != y))
  | .lss => some (.bool (decide (x < y)))
  | .leq => some (.bool (decide (x ≤ y)))
  | .gtr => some (.bool (decide (x > y)))
  | .geq => some (.bool (decide (x ≥ y)))
  | .shl => if y < 0 then none else some (.int k (k.wrap (x * 2 ^ (min y.toNat k.bits))))
  | .shr => if y < 0 then none else some (.int k (x.fdiv (2 ^ (min y.toNat k.bits))))
def isShift : BinOp → Bool
  | .shl | .shr => true
  | _ => false
def bytesOf : List Value → Option (List UInt8)
  | [] => some []
  | .int .u8 n :: r => (bytesOf r).map (UInt8.ofNat n.toNat :: ·)
  | _ => none
def u8s (l : List UInt8) : List Value := l.map fun b => .int .u8 b.toNat
def zrep (n : Nat) (z : List Value) : List Value := (List.replicate n z).flatten
def fillL : List Value → List (Nat × Nat × Value) → Option (List Value)
  | cs, [] => some cs
  | cs, (off, size, v) :: r => if v.cells.size = size ∧ off + size ≤ cs.length then fillL (splice cs off v.cells.toList) r else none
def StOk (w : World) (p : Addr) (vs : List Value) : Prop :=
  p.spot = none ∧ (vs = [] ∨ ∃ cs, Blk w p.block cs ∧ p.off + vs.length ≤ cs.length) ∧ ∀ v ∈ vs, v.oneCell' = true
inductive NK where
  | sl | pt | mp | ic
  deriving DecidableEq, Inhabited
inductive RK where
  | mv (x : Operand)
  | pick (c a b : Operand)
  | alloc (z : List Value)
  | box (x : Operand)
  | build (z : List Value) (ps : List (Nat × Nat × Operand))
  | bslice (len : Nat) (z : List Value) (ps : List (Nat × Nat × Operand))
  | ld (a : Operand)
  | ldn (a : Operand) (n : Nat)
  | st (a : Operand) (n : Nat) (x : Operand)
  | nilc (x : Operand)
  | bin (op : BinOp) (x y : Operand)
  | beq (neg : Bool) (x y : Operand)
  | isnil (k : NK) (neg : Bool) (x : Operand)
  | lnot (x : Operand)
  | conv (k : IntKind) (x : Operand)
  | s2b (x : Operand)
  | b2s (x : Operand)
  | iad (x ix : Operand) (size : Nat)
  | fad (x : Operand) (k : Nat)
  | fld (x : Operand) (off : Nat) (n : Option Nat)
  | ext (x : Operand) (i : Nat)
  | len (x : Operand)
  | slen (x : Operand)
  | append (s x : Operand) (size bytes : Nat)
  | appendz (s x : Operand) (bytes : Nat) (z : List Value)
  | mkslice (l c : Operand) (bytes : Nat) (z : List Value)
  | slice (x : Operand) (lo hi mx : Option Operand) (size : Nat)
  | call (f : FuncId) (args : List Operand)
  | callv (x : Operand) (args : List Operand)
  | invk (x : Operand) (name : String) (args : List Operand)
  | mm (max : Bool) (x y : Operand)
  | copy (x y : Operand) (size : Nat)
  | idx (x ix : Operand)
  | mkfunc (fn : Fn) (first captured : List Operand)
  | mkif (T : TypeId) (x : Operand)
  | slicea (x : Operand) (n : Nat)
  | mkmap
  | mapup (m k v : Operand)
  | mlen (m : Operand)
  | mlook (m k : Operand) (z : Value)
  | mrng (m : Operand)
  | mnext (it : Operand)
  | mentry (it : Operand)
  deriving Inhabited
def putObj (w : World) (r : Nat) (o : Obj) : World := { w with heap := w.heap.setIfInBounds r o }
def keyIs (n : Int) (e : MapEntry) : Bool := match e.key with | .int _ a => n == a | _ => false
def keysAre (k : IntKind) (es : Array MapEntry) : Prop := ∀ e ∈ es.toList, ∃ a, e.key = .int k a
def mapPut (es : Array MapEntry) (clock : Nat) (k : IntKind) (n : Int) (v : Value) : Obj :=
  match es.toList.findIdx? (keyIs n) with
  | some i => .map (es.modify i fun e => { e with key := .int k n, val := v }) clock
  | none => .map (es.push { key := .int k n, val := v, born := clock }) (clock + 1)
def mapGet (es : Array MapEntry) (n : Int) (z : Value) : Value :=
  match es.toList.find? (keyIs n) with
  | some e => e.val
  | none => z
def srcCells (w : World) (size : Nat) : Value → Option (Nat × List Value)
  | .slice (some b) n _ => (cellsAt w b 0 (n * size)).map (n, ·)
  | .slice none n _ => if n = 0 then some (0, []) else none
  | .string s => if size = 1 then some (s.size, u8s s.data.toList) else none
  | _ => none
def appendRun (size bytes : Nat) (base : Option Addr) (sLen sCap n : Nat) (src : List Value) (w : World) (K : Value → World → Prop) : Prop :=
  if sLen + n ≤ sCap then
    match base with
    | some a => StOk w (a.add (sLen * size)) src ∧ K (.slice (some a) (sLen + n) sCap) (putCells w (a.add (sLen * size)) 0 src)
    | none => K (.slice none (sLen + n) sCap) w
  else
    (sLen + n) * bytes ≤ 70368744177664 ∧ sLen + n ≤ 70368744177664 ∧
    match (match base with | some a => cellsAt w a 0 (sLen * size) | none => some []) with
    | some old => ∀ T cap rest, sLen + n ≤ cap → rest.length = (cap - (sLen + n)) * size →
        K (.slice (some ⟨w.heap.size, 0, none⟩) (sLen + n) cap) (w.drew.alloc (.cells (old ++ (src ++ rest)).toArray T))
    | none => False
def hasBody (P : Program) (f : FuncId) : Bool :=
  match P.funcs[f]? with
  | some fn => fn.body.isSome && !(fn.name == "runtime.NumGoroutine")
  | none => false
def methOf (P : Program) (t : TypeId) (name : String) : Option FuncId :=
  match P.info? t with
  | some i => match i.methods.find? (·.name == name) with
    | some m => if m.path.isEmpty then match m.func with
        | some (f, pr) => match P.underlying t with
          | some d => if (match d with | .pointer _ => pr | _ => !pr) then some f else none
          | none => none
        | none => none
      else none
    | none => none
  | none => none
def bnd (σ : Sl) (o : Option Operand) (d : Int) : Option Int :=
  match o with
  | some x => match ev σ x with
    | .int _ i => some i
    | _ => none
  | none => some d
def RK.run (P : Program) (k : RK) (σ : Sl) (w : World) (K : Value → World → Prop) : Prop :=
  match k with
  | .mv x => K (ev σ x) w
  | .pick c a b => match ev σ c with
    | .bool t => K (if t then ev σ a else ev σ b) w
    | _ => False
  | .alloc z => ∀ T, K (.pointer (some ⟨w.heap.size, 0, none⟩)) (w.alloc (.cells z.toArray T))
  | .box x => ∀ T, K (.pointer (some ⟨w.heap.size, 0, none⟩)) (w.alloc (.cells (ev σ x).cells.toList.toArray T))
  | .build z ps => match fillL z (ps.map fun p => (p.1, p.2.1, ev σ p.2.2)) with
    | some cs => K (.agg cs.toArray) w
    | none => False
  | .bslice n z ps => match fillL (zrep n z) (ps.map fun p => (p.1, p.2.1, ev σ p.2.2)) with
    | some cs => ∀ T, K (.slice (some ⟨w.heap.size, 0, none⟩) n n) (w.alloc (.cells cs.toArray T))
    | none => False
  | .ld a => match ev σ a with
    | .pointer (some p) => match w.cell? p with
      | some v => K v w
      | none => False
    | _ => False
  | .ldn a n => match ev σ a with
    | .pointer (some p) => match cellsAt w p 0 n with
      | some vs => K (.agg vs.toArray) w
      | none => False
    | _ => False
  | .st a n x => match ev σ a with
    | .pointer (some p) => (ev σ x).cells.size = n ∧ StOk w p (ev σ x).cells.toList ∧ K undef (putCells w p 0 (ev σ x).cells.toList)
    | _ => False
  | .nilc x => match ev σ x with
    | .pointer (some p) => K (.pointer (some p)) w
    | _ => False
  | .bin op x y => match ev σ x, ev σ y with
    | .int k a, .int k' b => if isShift op || decide (k = k') then
        match intBin op k a b with
        | some v => K v w
        | none => False
      else False
    | .string a, .string b => match op with
      | .eql => K (.bool (a.toList == b.toList)) w
      | .neq => K (.bool !(a.toList == b.toList)) w
      | _ => False
    | _, _ => False
  | .beq neg x y => match ev σ x, ev σ y with
    | .bool a, .bool b => K (.bool (if neg then !(a == b) else a == b)) w
    | _, _ => False
  | .isnil nk neg x => match nk, ev σ x with
    | .sl, .slice b _ _ => K (.bool (if neg then !b.isNone else b.isNone)) w
    | .pt, .pointer b => K (.bool (if neg then !b.isNone else b.isNone)) w
    | .mp, .map b => K (.bool (if neg then !b.isNone else b.isNone)) w
    | .ic, .nilIface => K (.bool (if neg then false else true)) w
    | .ic, .iface _ _ => K (.bool (if neg then true else false)) w
    | _, _ => False
  | .lnot x => match ev σ x with
    | .bool b => K (.bool !b) w
    | _ => False
  | .conv k x => match ev σ x with
    | .int _ n => K (.int k (k.wrap n)) w
    | _ => False
  | .s2b x => match ev σ x with
    | .string s => ∀ T cap rest, s.size ≤ cap → rest.length = cap - s.size →
        K (.slice (some ⟨w.heap.size, 0, none⟩) s.size cap) (w.drew.alloc (.cells (u8s s.data.toList ++ rest).toArray T (cap, cap + 1)))
    | _ => False
  | .b2s x => match ev σ x with
    | .slice none _ _ => K (.string .empty) w
    | .slice (some a) n _ => match (cellsAt w a 0 n).bind bytesOf with
      | some bs => K (.string ⟨bs.toArray⟩) w
      | none => False
    | _ => False
  | .iad x ix size => match ev σ x, ev σ ix with
    | .slice (some a) n _, .int _ i => 0 ≤ i ∧ i < n ∧ K (.pointer (some (a.add (i.toNat * size)))) w
    | _, _ => False
  | .fad x k => match ev σ x with
    | .pointer (some p) => K (.pointer (some (p.add k))) w
    | _ => False
  | .fld x off n => match ev σ x with
    | .agg cs => match n with
      | none => match cs.toList[off]? with
        | some v => K v w
        | none => False
      | some n => K (.agg ((cs.toList.drop off).take n).toArray) w
    | _ => False
  | .ext x i => match ev σ x with
    | .tuple vs => match vs.toList[i]? with
      | some v => K v w
      | none => False
    | _ => False
  | .len x => match ev σ x with
    | .slice _ n _ => K (.int .i64 n) w
    | _ => False
  | .slen x => match ev σ x with
    | .string s => K (.int .i64 s.size) w
    | _ => False
  | .append s x size bytes => match ev σ s with
    | .slice base sLen sCap => match srcCells w size (ev σ x) with
      | some (n, src) => appendRun size bytes base sLen sCap n src w K
      | none => False
    | _ => False
  | .appendz s x bytes z => match ev σ s, ev σ x with
    | .slice base sLen sCap, .int _ n => 0 ≤ n ∧ n * bytes ≤ 70368744177664 ∧ n ≤ 70368744177664 ∧ appendRun z.length bytes base sLen sCap n.toNat (zrep n.toNat z) w K
    | _, _ => False
  | .mkslice l c bytes z => match ev σ l, ev σ c with
    | .int _ l, .int _ c => 0 ≤ l ∧ l ≤ c ∧ c * bytes ≤ 70368744177664 ∧ c ≤ 70368744177664 ∧
        ∀ T, K (.slice (some ⟨w.heap.size, 0, none⟩) l.toNat c.toNat) (w.alloc (.cells (zrep c.toNat z).toArray T))
    | _, _ => False
  | .slice x lo hi mx size => match ev σ x with
    | .slice a n cap =>
      match bnd σ lo 0, bnd σ hi n, bnd σ mx cap with
      | some l, some h, some m => 0 ≤ l ∧ l ≤ h ∧ h ≤ m ∧ m ≤ cap ∧ K (.slice (if m.toNat = l.toNat then a else a.map (·.add (l.toNat * size))) (h.toNat - l.toNat) (m.toNat - l.toNat)) w
      | _, _, _ => False
    | _ => False
  | .call f args => Calls P f (args.map (ev σ)).toArray w fun e w' => ∃ v, e = .returned v ∧ K v w'
  | .callv x args => match ev σ x with
    | .func (.func f) first captured => hasBody P f = true ∧ Calls P f (first.toList ++ args.map (ev σ) ++ captured.toList).toArray w fun e w' => ∃ v, e = .returned v ∧ K v w'
    | _ => False
  | .invk x name args => match ev σ x with
    | .iface t v => ∃ f, methOf P t name = some f ∧ hasBody P f = true ∧ Calls P f (v :: args.map (ev σ)).toArray w fun e w' => ∃ v, e = .returned v ∧ K v w'
    | _ => False
  | .mm mx x y => match ev σ x, ev σ y with
    | .int k a, .int _ b => K (.int k (if mx then (if a < b then b else a) else (if b < a then b else a))) w
    | _, _ => False
  | .copy x y size => match ev σ x with
    | .slice base dn _ => match srcCells w size (ev σ y) with
      | some (n, src) => match base with
        | some a => StOk w a (src.take (Nat.min n dn * size)) ∧ K (.int .i64 (Nat.min n dn : Nat)) (putCells w a 0 (src.take (Nat.min n dn * size)))
        | none => K (.int .i64 (Nat.min n dn : Nat)) w
      | none => False
    | _ => False
  | .idx x ix => match ev σ x, ev σ ix with
    | .string s, .int _ i => match (if 0 ≤ i then s.data.toList[i.toNat]? else none) with
      | some b => K (.int .u8 b.toNat) w
      | none => False
    | _, _ => False
  | .mkfunc fn first captured => K (.func fn (first.map (ev σ)).toArray (captured.map (ev σ)).toArray) w
  | .mkif T x => K (.iface T (ev σ x)) w
  | .slicea x n => match ev σ x with
    | .pointer (some p) => K (.slice (some p) n n) w
    | _ => False
  | .mkmap => K (.map (some w.heap.size)) (w.alloc (.map #[] 0))
  | .mapup m k v => match ev σ m, ev σ k with
    | .map (some r), .int kk n => match w.heap[r]? with
      | some (.map es clock) => keysAre kk es ∧ K undef (putObj w r (mapPut es clock kk n (ev σ v)))
      | _ => False
    | _, _ => False
  | .mlen m => match ev σ m with
    | .map none => K (.int .i64 0) w
    | .map (some r) => match w.heap[r]? with
      | some (.map es _) => K (.int .i64 es.size) w
      | _ => False
    | _ => False
  | .mlook m k z => match ev σ m, ev σ k with
    | .map (some r), .int kk n => match w.heap[r]? with
      | some (.map es _) => keysAre kk es ∧ K (mapGet es n z) w
      | _ => False
    | _, _ => False
  | .mrng m => match ev σ m with
    | .map (some r) => match w.heap[r]? with
      | some (.map _ clock) => K (.pointer (some ⟨w.heap.size, 0, none⟩)) (w.alloc (.mapIter (some r) clock #[] clock))
      | _ => False
    | _ => False
  | .mnext it => match ev σ it with
    | .pointer (some ⟨r, 0, _⟩) => match w.heap[r]? with
      | some (.mapIter (some m) since seen c0) => match w.heap[m]? with
        | some (.map es clock) => (∀ x ∈ es.toList, x.born < since) ∧ since ≤ c0 ∧ ((leftOf es seen).size = 0 → K (.tuple #[.bool false]) w) ∧
            ∀ e ∈ (leftOf es seen).toList, ∀ w1, (w1 = w ∨ w1 = w.drew) → K (.tuple #[.bool true, e.key, e.val]) (putObj w1 r (.mapIter (some m) since (seen.push e.born) clock))
        | _ => False
      | _ => False
    | _ => False
  | .mentry it => match ev σ it with
    | .pointer (some ⟨r, 0, _⟩) => match w.heap[r]? with
      | some (.mapIter (some m) _ seen stepped) => match w.heap[m]? with
        | some (.map es clock) => clock = stepped ∧ ∃ e, e ∈ es.toList ∧ (es.toList.map (·.born)).Nodup ∧ seen.back? = some e.born ∧ K (.tuple #[e.key, e.val]) w
        | _ => False
      | _ => False
    | _ => False
def partsOf (places : Nat → Option (Nat × Nat)) : List (Nat × Operand) → Option (List (Nat × Nat × Operand))
  | [] => some []
  | (i, x) :: r => match places i, partsOf places r with
    | some (off, size), some l => some ((off, size, x) :: l)
    | _, _ => none
def isAggDesc : TypeDesc → Bool
  | .struct _ | .array _ _ => true
  | _ => false
def nilKind : TypeDesc → Operand → Option NK
  | .slice _, .const (.slice none _ _) => some .sl
  | .pointer _, .const (.pointer none) => some .pt
  | .map _ _, .const (.map none) => some .mp
  | .interface _, .const .nilIface => some .ic
  | _, _ => none
def sizeAt (P : Program) (T : TypeId) : Option Nat := (P.info? T).map (·.size)
def bytesAt (P : Program) (T : TypeId) : Option Nat := (P.info? T).map (·.bytes)
def zeroAt (P : Program) (T : TypeId) : Option (List Value) := (P.info? T).bind fun i => i.zero.map (·.cells.toList)
def zeroVal (P : Program) (T : TypeId) : Option Value := (P.info? T).bind fun i => i.zero
def resolveOp (P : Program) (op : Op) : Option RK :=
  match op with
  | .move x => some (.mv x)
  | .assign x => some (.mv x)
  | .pick c a b => some (.pick c a b)
  | .alloc T => (zeroAt P T).map .alloc
  | .box _ x => some (.box x)
  | .build T ps => match P.underlying T, zeroAt P T with
    | some (.struct fields), some z => match fields.toList.mapM (fun f => (P.info? f.type).map fun i => (f.offset, i.size)) with
      | some places => (partsOf (places[·]?) ps.toList).map (.build z)
      | none => none
    | _, _ => none
  | .buildSlice T n ps => match P.underlying T with
    | some (.slice e) => match sizeAt P e, zeroAt P e with
      | some size, some z => if z.length = size ∧ n * size ≤ 16777216 then (partsOf (fun i => some (i * size, size)) ps.toList).map (.bslice n z) else none
      | _, _ => none
    | _ => none
  | .load T a => match P.underlying T with
    | some d => if isAggDesc d then (sizeAt P T).map (.ldn a) else some (.ld a)
    | none => none
  | .store T a x => (sizeAt P T).map fun n => .st a n x
  | .nilCheck x => some (.nilc x)
  | .binOp op T x y _ =>
    match P.underlying T with
    | some (.int _) | some .string => some (.bin op x y)
    | some .bool => match op with
      | .eql => some (.beq false x y)
      | .neq => some (.beq true x y)
      | _ => none
    | some d => match nilKind d y, op with
      | some k, .eql => some (.isnil k false x)
      | some k, .neq => some (.isnil k true x)
      | _, _ => none
    | none => none
  | .unOp .not _ x => some (.lnot x)
  | .convert S D x => match P.underlying S, P.underlying D with
    | some (.int _), some (.int k) => some (.conv k x)
    | some .string, some (.slice e) => match P.underlying e with
      | some (.int .u8) => some (.s2b x)
      | _ => none
    | some (.slice e), some .string => match P.underlying e with
      | some (.int .u8) => some (.b2s x)
      | _ => none
    | _, _ => none
  | .makeSlice T l c => match P.underlying T with
    | some (.slice e) => match bytesAt P e, zeroAt P e, sizeAt P e with
      | some b, some z, some s => if z.length = s then some (.mkslice l c b z) else none
      | _, _, _ => none
    | _ => none
  | .slice T x lo hi mx => match P.underlying T with
    | some (.slice e) => if mx.isSome && hi.isNone then none else (sizeAt P e).map (.slice x lo hi mx)
    | some (.array n e) => match lo, hi, mx with
      | none, none, none => if n = 0 then none else (sizeAt P e).map fun _ => .slicea x n
      | _, _, _ => none
    | _ => none
  | .index T x ix => match P.underlying T with
    | some .string => some (.idx x ix)
    | _ => none
  | .makeFunc fn first captured => some (.mkfunc fn first.toList captured.toList)
  | .makeInterface T x => match P.underlying T with
    | some (.interface _) => none
    | some _ => some (.mkif T x)
    | none => none
  | .fieldAddr S x f => match P.underlying S with
    | some (.struct fields) => match fields[f]? with
      | some fd => match sizeAt P fd.type with
        | some 0 => none
        | some _ => some (.fad x fd.offset)
        | none => none
      | none => none
    | _ => none
  | .field S x f => match P.underlying S with
    | some (.struct fields) => match fields[f]? with
      | some fd => match P.underlying fd.type with
        | some d => if isAggDesc d then (sizeAt P fd.type).map fun n => .fld x fd.offset (some n) else some (.fld x fd.offset none)
        | none => none
      | none => none
    | _ => none
  | .indexAddr T x ix => match P.underlying T with
    | some (.slice e) => (sizeAt P e).map (.iad x ix)
    | _ => none
  | .extract x i => some (.ext x i)
  | .makeMap _ none => some .mkmap
  | .mapUpdate T m k x => match P.underlying T with
    | some (.map kt _) => match P.underlying kt with
      | some (.int _) => some (.mapup m k x)
      | _ => none
    | _ => none
  | .lookup T m k false => match P.underlying T with
    | some (.map kt e) => match P.underlying kt with
      | some (.int _) => (zeroVal P e).map (.mlook m k)
      | _ => none
    | _ => none
  | .range T x => match P.underlying T with
    | some (.map _ _) => some (.mrng x)
    | _ => none
  | .next it false => some (.mnext it)
  | .entry it => some (.mentry it)
  | .call c => match c.callee, c.args.toList with
    | .value (.func f), args => if hasBody P f then some (.call f args) else none
    | .value x, args => some (.callv x args)
    | .invoke x name, args => some (.invk x name args)
    | .builtin .max, [x, y] => some (.mm true x y)
    | .builtin .min, [x, y] => some (.mm false x y)
    | .builtin .copy, [x, y] => match (c.argTypes[0]?).bind P.underlying with
      | some (.slice e) => (sizeAt P e).map (.copy x y)
      | _ => none
    | .builtin .len, [x] => match (c.argTypes[0]?).bind P.underlying with
      | some (.slice _) => some (.len x)
      | some .string => some (.slen x)
      | some (.map _ _) => some (.mlen x)
      | _ => none
    | .builtin .append, [s, x] => match c.argTypes[0]?, c.argTypes[1]? with
      | some sT, some xT => match P.underlying sT, P.underlying xT with
        | some (.slice e), some xd => match sizeAt P e, bytesAt P e, zeroAt P e with
          | some size, some bytes, some z => if z.length = size then
              match xd with
              | .int _ => some (.appendz s x bytes z)
              | _ => some (.append s x size bytes)
            else none
          | _, _, _ => none
        | _, _ => none
      | _, _ => none
    | _, _ => none
  | _ => none
end Go.Msk

namespace Go.Msk
open Go.RowKit
def Gives (P : Program) (r : Result Next) (K : Value → World → Prop) : Prop :=
  match r with
  | .ok (.value v) w' => K v w'
  | .ok .skip w' => K undef w'
  | .ok (.enter f args) w' => Calls P f args w' fun e w'' => ∃ v, e = .returned v ∧ K v w''
  | _ => False
theorem wp_of_gives {P : Program} {o : Oper} {a : Act} {w : World} {next : Act → World → Prop} {Q : Exit → Act → World → Prop}
    (h : Gives P ((execOp a.eval o).run P w) (fun v w' => next (a.put o.dst v) w')) : o.wp P a w next Q := by
  unfold Oper.wp
  generalize (execOp a.eval o).run P w = r at h
  unfold Gives at h
  split at h
  · exact h
  · exact h
  · refine Calls.mono h fun e w'' he => ?_
    obtain ⟨v, rfl, hk⟩ := he
    exact hk
  · exact h.elim
theorem partsOf_map {places : Nat → Option (Nat × Nat)} {σ : Sl} : ∀ {ps : List (Nat × Operand)} {qs : List (Nat × Nat × Operand)} {cs cs' : List Value},
    partsOf places ps = some qs → fillL cs (qs.map fun p => (p.1, p.2.1, ev σ p.2.2)) = some cs' →
    Instr.fill places cs.toArray (ps.map fun p => (p.1, ev σ p.2)) = some cs'.toArray := by
  intro ps
  induction ps with
  | nil =>
    intro qs cs cs' h hf
    simp only [partsOf, Option.some.injEq] at h; subst h
    simp only [List.map_nil, fillL, Option.some.injEq] at hf; subst hf
    rfl
  | cons p ps ih =>
    obtain ⟨i, x⟩ := p
    intro qs cs cs' h hf
    simp only [partsOf] at h
    split at h
    · rename_i off size l hp hl
      simp only [Option.some.injEq] at h; subst h
      simp only [List.map_cons, fillL] at hf
      split at hf
      · rename_i hc
        simp only [List.map_cons, Instr.fill, hp]
        have h1 : ¬ ((ev σ x).cells.size ≠ size) := by simp [hc.1]
        have h2 : ¬ (off + (ev σ x).cells.size > cs.toArray.size) := by simp [hc.1]; omega
        rw [if_neg (by simp only [Bool.or_eq_true, decide_eq_true_eq]; exact fun hh => hh.elim h1 h2)]
        have key : (ev σ x).cells.zipIdx.foldl (fun cs (c, j) => cs.setIfInBounds (off + j) c) cs.toArray = (splice cs off (ev σ x).cells.toList).toArray := by
          have gen : ∀ (vs : List Value) (k : Nat) (cs : List Value), off + k + vs.length ≤ cs.length →
              (vs.zipIdx k).foldl (fun (cs : Array Value) (cj : Value × Nat) => cs.setIfInBounds (off + cj.2) cj.1) cs.toArray = (splice cs (off + k) vs).toArray := by
            intro vs
            induction vs with
            | nil => intro k cs _; simp [splice]
            | cons v vs ih =>
              intro k cs hl
              simp only [List.zipIdx_cons, List.foldl_cons]
              have e : cs.toArray.setIfInBounds (off + k) v = (cs.set (off + k) v).toArray := by simp
              rw [e, ih (k + 1) (cs.set (off + k) v) (by simp at hl ⊢; omega)]
              rw [← set_splice cs v vs (off + k) (by simpa using hl)]
              simp [Nat.add_assoc]
          have := gen (ev σ x).cells.toList 0 cs (by simp [hc.1]; omega)
          simp only [Nat.add_zero] at this
          rw [← this, ← Array.foldl_toList, Array.toList_zipIdx]
        rw [key]
        exact ih hl hf
      · simp at hf
    · simp at h
theorem bytesOf_run {_P : Program} {_w : World} : ∀ (vs : List Value) (bs : List UInt8), bytesOf vs = some bs →
    ∃ ns : List Int, vs = ns.map (Value.int .u8) ∧ bs = ns.map fun n => UInt8.ofNat n.toNat := by
  intro vs
  induction vs with
  | nil => intro bs h; simp only [bytesOf, Option.some.injEq] at h; subst h; exact ⟨[], rfl, rfl⟩
  | cons v vs ih =>
    intro bs h
    unfold bytesOf at h
    split at h
    · rename_i heq; simp at heq
    · rename_i n r heq
      simp only [List.cons.injEq] at heq
      obtain ⟨rfl, rfl⟩ := heq
      cases hb : bytesOf vs with
      | none => simp [hb] at h
      | some b =>
        simp only [hb, Option.map_some, Option.some.injEq] at h; subst h
        obtain ⟨ns, rfl, rfl⟩ := ih b hb
        exact ⟨n :: ns, rfl, rfl⟩
    · simp at h
theorem zeroCells_eq (z : Array Value) (n : Nat) : (Builtin.zeroCells z n).toList = zrep n z.toList := by
  unfold Builtin.zeroCells zrep
  apply List.ext_getElem?
  intro i
  simp only [Array.toList_map, Array.toList_range, List.getElem?_map]
  by_cases hi : i < n * z.size
  · rw [List.getElem?_range hi]
    have hz : 0 < z.size := by rcases Nat.eq_zero_or_pos z.size with h | h; · simp [h] at hi
                               · exact h
    simp only [Option.map_some]
    have hm : i % z.size < z.size := Nat.mod_lt _ hz
    have : ∀ (n i : Nat), i < n * z.size → (List.replicate n z.toList).flatten[i]? = z.toList[i % z.size]? := by
      intro n
      induction n with
      | zero => intro i h; simp at h
      | succ n ih =>
        intro i h
        simp only [List.replicate_succ, List.flatten_cons]
        by_cases h1 : i < z.size
        · rw [List.getElem?_append_left (by simpa using h1), Nat.mod_eq_of_lt h1]
        · rw [List.getElem?_append_right (by simp; omega)]
          simp only [Array.length_toList]
          rw [ih (i - z.size) (by rw [Nat.succ_mul] at h; omega)]
          rw [show i % z.size = (i - z.size) % z.size from Nat.mod_eq_sub_mod (by omega)]
    rw [this n i hi]
    simp [hm]
  · rw [List.getElem?_eq_none (by simp; omega), List.getElem?_eq_none (by simp; omega)]; rfl
theorem madeCells_eq (z : Array Value) (n : Nat) : madeCells z (n * z.size) = (zrep n z.toList).toArray := by
  apply Array.ext'
  rw [← zeroCells_eq]
  rfl
section
variable {P : Program} {w : World} {σ : Sl} {K : Value → World → Prop} {ρ : Operand → Value}
theorem sizeAt_run {T n : Nat} (h : sizeAt P T = some n) : (sizeOf T).run P w = .ok n w := by
  unfold sizeAt at h
  cases hi : P.info? T with
  | none => simp [hi] at h
  | some i => simp [hi] at h; simp [sizeOf, typeInfo, hi, h]
theorem zeroAt_run {T : Nat} {z : List Value} (h : zeroAt P T = some z) : ∃ v, (zeroValue T).run P w = .ok v w ∧ v.cells = z.toArray := by
  unfold zeroAt at h
  cases hi : P.info? T with
  | none => simp [hi] at h
  | some i =>
    simp only [hi, Option.bind_some] at h
    cases hz : i.zero with
    | none => simp [hz] at h
    | some v => simp [hz] at h; exact ⟨v, by simp [zeroValue, typeInfo, hi, hz], by simp [← h]⟩
theorem under_run {T : Nat} {d : TypeDesc} (h : P.underlying T = some d) : (underlying T).run P w = .ok d w := run_underlying h w
theorem store_run {T n : Nat} {p : Addr} {v : Value} (hn : sizeAt P T = some n) (hs : v.cells.size = n) (hok : StOk w p v.cells.toList) :
    (storeVar T p v).run P w = .ok () (putCells w p 0 v.cells.toList) := by
  obtain ⟨h1, h2, h3⟩ := hok
  obtain ⟨b, o, s⟩ := p
  simp only at h1 h2; subst h1
  have hne : ¬ (v.cells.size ≠ n) := by simp [hs]
  have hrun : (storeCells ⟨b, o, none⟩ v.cells.toList 0).run P w = .ok () (putCells w ⟨b, o, none⟩ 0 v.cells.toList) := by
    rcases h2 with h2 | ⟨cs, hb, hl⟩
    · rw [h2]; simp [storeCells, putCells]
    · exact putCells_run _ _ cs o 0 hb (by simpa using hl) h3
  simp only [storeVar, Sem.run_bind, sizeAt_run hn, Result.andThen_ok]
  rw [if_neg (by simpa using hne)]
  simpa using hrun
theorem bin_run {op : BinOp} {T : Nat} {k k' : IntKind} {a b : Int} {v : Value} (hk : (isShift op || decide (k = k')) = true)
    (h : intBin op k a b = some v) : (binOp op T (.int k a) (.int k' b)).run P w = .ok v w := by
  cases op <;> simp only [isShift, Bool.false_or, Bool.true_or, decide_eq_true_eq] at hk <;> simp only [intBin] at h <;> simp only [binOp]
  case shl => split at h; · simp at h
              · rename_i hb; simp only [Option.some.injEq] at h; subst h; simp [Op.shift, hb]
  case shr => split at h; · simp at h
              · rename_i hb; simp only [Option.some.injEq] at h; subst h; simp [Op.shift, hb]
  case quo => split at h; · simp at h
              · rename_i hb; simp only [Option.some.injEq] at h; subst h; subst hk; simp [Op.intDiv, hb]
  case rem => split at h; · simp at h
              · rename_i hb; simp only [Option.some.injEq] at h; subst h; subst hk; simp [Op.intDiv, hb]
  all_goals (simp only [Option.some.injEq] at h; subst h; subst hk; simp [Op.intArith, Op.intBits, Op.intCmp])
theorem eqGuard_int (op : BinOp) (T : Nat) (x y : Operand) (k k' : IntKind) (a b : Int) : (eqGuard op T x y (.int k a) (.int k' b)).run P w = .ok () w := by
  unfold eqGuard; split <;> simp
theorem eqGuard_str (op : BinOp) (T : Nat) (x y : Operand) (a b : ByteArray) : (eqGuard op T x y (.string a) (.string b)).run P w = .ok () w := by
  unfold eqGuard; split <;> simp
theorem eqGuard_bool (op : BinOp) (T : Nat) (x y : Operand) (a b : Bool) : (eqGuard op T x y (.bool a) (.bool b)).run P w = .ok () w := by
  unfold eqGuard; split <;> simp
theorem srcCells_run {size : Nat} {x : Value} {n : Nat} {src : List Value} (h : srcCells w size x = some (n, src)) :
    (Builtin.lenOf x).run P w = .ok n w ∧ (∀ w', (∀ k, k < w.heap.size → w'.heap[k]? = w.heap[k]?) → (Builtin.firstCells size n x).run P w' = .ok src.toArray w') := by
  unfold srcCells at h
  split at h
  · rename_i b m c
    cases hc : cellsAt w b 0 (m * size) with
    | none => simp [hc] at h
    | some cs =>
      simp only [hc, Option.map_some, Option.some.injEq, Prod.mk.injEq] at h
      obtain ⟨rfl, rfl⟩ := h
      refine ⟨by simp [Builtin.lenOf], fun w' hw => ?_⟩
      have hc' : cellsAt w' b 0 (m * size) = some cs := by
        have gen : ∀ (n i : Nat) (cs : List Value), cellsAt w b i n = some cs → cellsAt w' b i n = some cs := by
          intro n
          induction n with
          | zero => intro i cs h; exact h
          | succ n ih =>
            intro i cs h
            simp only [cellsAt] at h ⊢
            cases hv : w.cell? (b.add i) with
            | none => simp [hv] at h
            | some v =>
              have hlt := World.block_lt_of_cell? w (b.add i) hv
              have : w'.cell? (b.add i) = some v := by rw [World.cell?_of_block (w := w) (hw _ hlt)]; exact hv
              cases hr : cellsAt w b (i + 1) n with
              | none => simp [hv, hr] at h
              | some r => simp only [this, ih _ _ hr]; simpa [hv, hr] using h
        exact gen _ _ _ hc
      have := cellsAt_run (P := P) _ _ _ #[] hc'
      simpa [Builtin.firstCells, loadCells] using this
  · split at h
    · rename_i hn
      simp only [Option.some.injEq, Prod.mk.injEq] at h
      obtain ⟨rfl, rfl⟩ := h
      subst hn
      exact ⟨by simp [Builtin.lenOf], fun w' _ => by simp [Builtin.firstCells]⟩
    · simp at h
  · split at h
    · rename_i s hs
      simp only [Option.some.injEq, Prod.mk.injEq] at h
      obtain ⟨rfl, rfl⟩ := h
      refine ⟨by simp [Builtin.lenOf], fun w' _ => ?_⟩
      have : s.extract 0 s.size = s := by simp
      simp only [Builtin.firstCells, Sem.run_pure, this, u8s]
      congr 1
      apply Array.ext'; simp
    · simp at h
  · simp at h
theorem info_of {e size bytes : Nat} {z : List Value} (hsz : sizeAt P e = some size) (hby : bytesAt P e = some bytes) (hz : zeroAt P e = some z) :
    ∃ i zv, P.info? e = some i ∧ i.bytes = bytes ∧ i.size = size ∧ i.zero = some zv ∧ zv.cells = z.toArray := by
  unfold bytesAt at hby; unfold sizeAt at hsz; unfold zeroAt at hz
  cases hi : P.info? e with
  | none => simp [hi] at hby
  | some i =>
    simp only [hi, Option.map_some, Option.some.injEq] at hby hsz
    simp only [hi, Option.bind_some] at hz
    cases hq : i.zero with
    | none => simp [hq] at hz
    | some v => simp [hq] at hz; exact ⟨i, v, rfl, hby, hsz, hq, by simp [← hz]⟩
theorem grow_bounds {sLen n sCap bytes : Nat} (hg : ¬ (sLen + n ≤ sCap)) (hb : (sLen + n) * bytes ≤ 70368744177664) (h2 : sLen + n ≤ 70368744177664) :
    ¬ (9223372036854775807 < ((sLen : Int) + (n : Int))) ∧ ¬ (281474976710656 < Builtin.nextslicecap (sLen + n) sCap * bytes) := by
  refine ⟨by omega, ?_⟩
  have := growslice_fits (need := sLen + n) (old := sCap) (bytes := bytes) (by omega) (by omega)
  omega
theorem old_run {size sLen sCap : Nat} {base : Option Addr} {old : List Value}
    (h : (match base with | some a => cellsAt w a 0 (sLen * size) | none => some []) = some old) :
    (Builtin.firstCells size sLen (.slice base sLen sCap)).run P w.drew = .ok old.toArray w.drew := by
  cases base with
  | none => simp only [Option.some.injEq] at h; subst h; simp [Builtin.firstCells]
  | some a =>
    simp only at h
    have hd : cellsAt w.drew a 0 (sLen * size) = some old := by
      have gen : ∀ (n i : Nat), cellsAt w.drew a i n = cellsAt w a i n := by
        intro n; induction n with
        | zero => intro i; rfl
        | succ n ih => intro i; simp only [cellsAt, World.cell?_drew, ih]
      rw [gen]; exact h
    have := cellsAt_run (P := P) _ _ _ #[] hd
    simpa [Builtin.firstCells, loadCells] using this
theorem rest_len {i : TypeInfo} {zv : Value} {z : List Value} (hc : zv.cells = z.toArray) (hzl : z.length = i.size) (k : Nat) :
    (Builtin.zeroCells zv.cells k).toList.length = k * i.size := by
  rw [zeroCells_eq, hc]; simp [zrep, hzl]
theorem append_src {size bytes n sLen sCap : Nat} {base : Option Addr} {e : TypeId} {x : Value} {src z : List Value}
    (hsz : sizeAt P e = some size) (hby : bytesAt P e = some bytes) (hz : zeroAt P e = some z) (hzl : z.length = size)
    {sT xT : TypeId} {sd : TypeDesc} (hsT : P.underlying sT = some (.slice e)) (hxT : P.underlying xT = some sd)
    (hsd : ∀ k, sd ≠ .int k) (hx : srcCells w size x = some (n, src))
    (ty : TypeId) (h : appendRun size bytes base sLen sCap n src w K) :
    ∃ v w', (Builtin.append_ #[sT, xT] ty #[.slice base sLen sCap, x]).run P w = .ok v w' ∧ K v w' := by
  obtain ⟨i, zv, hi, rfl, rfl, hq, hzc⟩ := info_of hsz hby hz
  obtain ⟨hl, hf⟩ := srcCells_run (P := P) hx
  -- the second argument's type counts only as 'no integer'
  have hbT : P.underlying sT = some (.slice e) := hsT
  have hone : ∀ a, (Builtin.append_ #[sT, xT] ty a).run P w = (Builtin.append_ #[sT, sT] ty a).run P w := by
    intro a
    unfold Builtin.append_
    simp only [List.getElem?_toArray, List.getElem?_cons_zero, List.getElem?_cons_succ]
    cases a[0]? with
    | none => rfl
    | some s =>
      cases a[1]? with
      | none => rfl
      | some y =>
        simp only [Sem.run_bind, under_run hsT, Result.andThen_ok]
        cases s <;> try rfl
        simp only [Sem.run_bind, under_run hsT, under_run hxT, Result.andThen_ok, Sem.run_pure]
  unfold appendRun at h
  by_cases hfit : sLen + n ≤ sCap
  · rw [if_pos hfit] at h
    have hfw := hf w (fun _ _ => rfl)
    cases base with
    | none =>
      refine ⟨_, _, ?_, h⟩
      rw [hone]; simp [Builtin.append_, under_run hsT, sizeOf, typeInfo, hi, hl, hfit, hfw]
    | some a =>
      obtain ⟨hok, hK⟩ := h
      have hst : ∀ w0, w0 = w → (storeCells (a.add (sLen * i.size)) src).run P w0 = .ok () (putCells w (a.add (sLen * i.size)) 0 src) := by
        intro w0 hw0; subst hw0
        obtain ⟨h1, h2, h3⟩ := hok
        generalize a.add (sLen * i.size) = p at *
        obtain ⟨b, o, s⟩ := p
        simp only at h1 h2; subst h1
        rcases h2 with h2 | ⟨cs, hb, hl⟩
        · rw [h2]; simp [storeCells, putCells]
        · exact putCells_run _ _ cs o 0 hb (by simpa using hl) h3
      refine ⟨_, _, ?_, hK⟩
      rw [hone]; simp [Builtin.append_, under_run hsT, sizeOf, typeInfo, hi, hl, hfit, hfw, hst w rfl]
  · rw [if_neg hfit] at h
    obtain ⟨hb, hb2, h⟩ := h
    obtain ⟨h63, h48⟩ := grow_bounds hfit hb hb2
    split at h
    · rename_i old hold
      have ho := old_run (P := P) (sCap := sCap) hold
      have hfw := hf w.drew (fun _ _ => rfl)
      have hge := grownCap_ge w (sLen + n) sCap e
      refine ⟨_, _, ?_, h e (grownCap w (sLen + n) sCap e) (Builtin.zeroCells zv.cells (grownCap w (sLen + n) sCap e - (sLen + n))).toList hge (rest_len hzc hzl _)⟩
      have hA : (old ++ (src ++ (Builtin.zeroCells zv.cells (grownCap w (sLen + n) sCap e - (sLen + n))).toList)).toArray = old.toArray ++ (src.toArray ++ Builtin.zeroCells zv.cells (grownCap w (sLen + n) sCap e - (sLen + n))) := by
        apply Array.ext'; simp
      rw [hA]
      rw [hone]; simp [Builtin.append_, under_run hsT, sizeOf, typeInfo, zeroValue, hi, hq, hl, hfit, h63, h48, Question.forced, ho, hfw, newRow, grownCap]
    · exact h.elim
theorem append_zero {bytes n sLen sCap : Nat} {k : IntKind} {base : Option Addr} {e : TypeId} {z : List Value}
    (hsz : sizeAt P e = some z.length) (hby : bytesAt P e = some bytes) (hz : zeroAt P e = some z)
    {sT xT : TypeId} {kk : IntKind} (hsT : P.underlying sT = some (.slice e)) (hxT : P.underlying xT = some (.int kk))
    (hnb : n * bytes ≤ 70368744177664) (hn : n ≤ 70368744177664)
    (ty : TypeId) (h : appendRun z.length bytes base sLen sCap n (zrep n z) w K) :
    ∃ v w', (Builtin.append_ #[sT, xT] ty #[.slice base sLen sCap, .int k n]).run P w = .ok v w' ∧ K v w' := by
  obtain ⟨i, zv, hi, rfl, hzl, hq, hzc⟩ := info_of hsz hby hz
  have hw : IntKind.i64.wrap (n : Int) = n := by rw [IntKind.wrap_i64]; omega
  have hneg : ¬ ((n : Int) < 0) := by omega
  have hbig : ¬ (281474976710656 < (n : Int) * (i.bytes : Int)) := by
    have : ((n * i.bytes : Nat) : Int) ≤ 70368744177664 := by omega
    rw [Int.natCast_mul] at this
    omega
  have hzr : ∀ {m : Nat}, m = n → ¬ (m * i.size = 0) → Builtin.zeroCells zv.cells m = (zrep n z).toArray := by
    intro m hm _; subst hm; apply Array.ext'; rw [zeroCells_eq, hzc]
  have hz0 : n * i.size = 0 → zrep n z = [] := by
    intro h0
    apply List.eq_nil_of_length_eq_zero
    rcases Nat.mul_eq_zero.1 h0 with h0 | h0
    · simp [zrep, h0]
    · have : z = [] := List.eq_nil_of_length_eq_zero (by omega)
      simp [zrep, this]
  have hzv : ∀ w', (zeroValue e).run P w' = .ok zv w' := fun w' => by simp [zeroValue, typeInfo, hi, hq]
  have happ : ∀ w', ((if n * i.size = 0 then pure #[] else do pure (Builtin.zeroCells (← zeroValue e).cells n)) : Sem (Array Value)).run P w' = .ok (zrep n z).toArray w' := by
    intro w'
    by_cases h0 : n * i.size = 0
    · rw [if_pos h0, hz0 h0]; rfl
    · rw [if_neg h0]; simp only [Sem.run_bind, hzv, Result.andThen_ok, Sem.run_pure, hzr rfl h0]
  unfold appendRun at h
  rw [← hzl] at h
  by_cases hfit : sLen + n ≤ sCap
  · rw [if_pos hfit] at h
    cases base with
    | none =>
      refine ⟨_, _, ?_, h⟩
      by_cases h0 : n * i.size = 0
      · simp [Builtin.append_, under_run hsT, under_run hxT, sizeOf, typeInfo, hi, asInt, asIntOf, hw, hneg, hbig, hfit, h0]
      · simp [Builtin.append_, under_run hsT, under_run hxT, sizeOf, typeInfo, hi, asInt, asIntOf, hw, hneg, hbig, hfit, hzv]
    | some a =>
      obtain ⟨hok, hK⟩ := h
      have hst : (storeCells (a.add (sLen * i.size)) (zrep n z)).run P w = .ok () (putCells w (a.add (sLen * i.size)) 0 (zrep n z)) := by
        obtain ⟨h1, h2, h3⟩ := hok
        generalize a.add (sLen * i.size) = p at *
        obtain ⟨b, o, s⟩ := p
        simp only at h1 h2; subst h1
        rcases h2 with h2 | ⟨cs, hb, hl⟩
        · rw [h2]; simp [storeCells, putCells]
        · exact putCells_run _ _ cs o 0 hb (by simpa using hl) h3
      refine ⟨_, _, ?_, hK⟩
      by_cases h0 : n * i.size = 0
      · rw [hz0 h0] at hst ⊢
        simp [Builtin.append_, under_run hsT, under_run hxT, sizeOf, typeInfo, hi, asInt, asIntOf, hw, hneg, hbig, hfit, h0, hst]
      · simp [Builtin.append_, under_run hsT, under_run hxT, sizeOf, typeInfo, hi, asInt, asIntOf, hw, hneg, hbig, hfit, h0, hzv, hzr rfl h0, hst]
  · rw [if_neg hfit] at h
    obtain ⟨hb, hb2, h⟩ := h
    obtain ⟨h63, h48⟩ := grow_bounds hfit hb hb2
    split at h
    · rename_i old hold
      have ho := old_run (P := P) (sCap := sCap) hold
      have hge := grownCap_ge w (sLen + n) sCap e
      refine ⟨_, _, ?_, h e (grownCap w (sLen + n) sCap e) (Builtin.zeroCells zv.cells (grownCap w (sLen + n) sCap e - (sLen + n))).toList hge (rest_len hzc hzl.symm _)⟩
      have hA : (old ++ (zrep n z ++ (Builtin.zeroCells zv.cells (grownCap w (sLen + n) sCap e - (sLen + n))).toList)).toArray = old.toArray ++ ((zrep n z).toArray ++ Builtin.zeroCells zv.cells (grownCap w (sLen + n) sCap e - (sLen + n))) := by
        apply Array.ext'; simp
      rw [hA]
      by_cases h0 : n * i.size = 0
      · rw [hz0 h0]
        simp [Builtin.append_, under_run hsT, under_run hxT, sizeOf, typeInfo, zeroValue, hi, hq, asInt, asIntOf, hw, hneg, hbig, hfit, h0, h63, h48, Question.forced, ho, newRow, grownCap]
      · simp [Builtin.append_, under_run hsT, under_run hxT, sizeOf, typeInfo, zeroValue, hi, hq, asInt, asIntOf, hw, hneg, hbig, hfit, h0, h63, h48, Question.forced, ho, newRow, grownCap, hzr rfl h0]
    · exact h.elim
end
end Go.Msk

namespace Go.Msk
open Go.RowKit
set_option maxRecDepth 100000
section
variable {P : Program} {w : World}
theorem findNow_eq {kd k : IntKind} {n : Int} : ∀ (l : List MapEntry) (i : Nat), (∀ e ∈ l, ∃ a, e.key = .int k a) →
    Instr.findNow (.int kd) (.int k n) l i = some ((l.findIdx? (keyIs n)).map fun j => (i + j, ((l[j]?).map (·.val)).getD undef))
  | [], i, _ => rfl
  | e :: l, i, h => by
    obtain ⟨a, ha⟩ := h e List.mem_cons_self
    have ih := findNow_eq (kd := kd) (k := k) (n := n) l (i + 1) fun x hx => h x (List.mem_cons_of_mem _ hx)
    simp only [Instr.findNow, ha, Instr.sameNow, if_true, List.findIdx?_cons, keyIs]
    by_cases hn : n = a
    · subst hn; simp
    · have hb : (n == a) = false := by simpa using hn
      simp only [hb, ih, Bool.false_eq_true, if_false, Option.map_map]
      congr 1
      apply Option.map_congr
      intro j _
      simp only [Function.comp, List.getElem?_cons_succ]
      rw [show i + 1 + j = i + (j + 1) by omega]
theorem findKey_run {kt : TypeId} {kd k : IntKind} {n : Int} {es : Array MapEntry} (hu : P.underlying kt = some (.int kd)) (hk : keysAre k es) :
    (Instr.findKey kt (.int k n) es.toList).run P w = .ok ((es.toList.findIdx? (keyIs n)).map fun j => (j, ((es.toList[j]?).map (·.val)).getD undef)) w := by
  have h := findNow_eq (kd := kd) (n := n) es.toList 0 hk
  simp only [Instr.findKey, Sem.run_bind, under_run hu, Result.andThen_ok, h, Sem.run_pure, Nat.zero_add]
theorem checkKey_succ {kt : TypeId} {kd k : IntKind} {n : Int} {b : Bool} (hu : P.underlying kt = some (.int kd)) (m : Nat) : (Instr.checkKey b (m + 1) kt (.int k n)).run P w = .ok () w := by
  simp only [Instr.checkKey, Sem.run_bind, under_run hu, Result.andThen_ok, Sem.run_pure]
theorem checkKey_run {kt : TypeId} {kd k : IntKind} {n : Int} {b : Bool} (hu : P.underlying kt = some (.int kd)) : (Instr.checkKey b 10000 kt (.int k n)).run P w = .ok () w :=
  checkKey_succ hu 9999
theorem sameBits_int (m : Nat) (k : IntKind) (n : Int) : Instr.sameBits m (.int k n) (.int k n) = true := by
  cases m <;> simp [Instr.sameBits]
theorem mapUpdate_run {T kt e : TypeId} {kd k : IntKind} {n : Int} {r : Nat} {es : Array MapEntry} {clock : Nat} {v : Value} (hT : P.underlying T = some (.map kt e)) (hu : P.underlying kt = some (.int kd))
    (hr : w.heap[r]? = some (.map es clock)) (hk : keysAre k es) : (Instr.mapUpdate T (.map (some r)) (.int k n) v).run P w = .ok () (putObj w r (mapPut es clock k n v)) := by
  simp only [Instr.mapUpdate, Sem.run_bind, under_run hT, Result.andThen_ok, MapKept.run_getObj_map hr, checkKey_run hu, findKey_run hu hk]
  unfold mapPut
  cases hf : es.toList.findIdx? (keyIs n) with
  | none =>
    simp only [Option.map_none]
    exact MapKept.run_setObj_map _ hr
  | some i =>
    simp only [Option.map_some]
    obtain ⟨hi, hki⟩ := List.findIdx?_eq_some_iff_getElem.1 hf
    obtain ⟨hki, -⟩ := hki
    obtain ⟨a, ha⟩ := hk _ (List.getElem_mem hi)
    have hes : es[i]? = some es.toList[i] := by rw [← Array.getElem?_toList, List.getElem?_eq_getElem hi]
    generalize es.toList[i] = en at hki ha hes
    have hia : n = a := by unfold keyIs at hki; rw [ha] at hki; simpa using hki
    subst hia
    have hs : (Instr.keyThatStays (((es[i]?).map (·.key)).getD (.int k n)) (.int k n)).run P w = .ok (.int k n) w := by
      rw [hes]
      simp only [Option.map_some, Option.getD_some, ha, Instr.keyThatStays, sameBits_int, if_true, Sem.run_pure]
    simp only [Sem.run_bind, hs, Result.andThen_ok]
    exact MapKept.run_setObj_map _ hr
theorem lookup_run {T kt e : TypeId} {kd k : IntKind} {n : Int} {r : Nat} {es : Array MapEntry} {clock : Nat} {z : Value} (hT : P.underlying T = some (.map kt e)) (hu : P.underlying kt = some (.int kd)) (hz : zeroVal P e = some z)
    (hr : w.heap[r]? = some (.map es clock)) (hk : keysAre k es) : (Instr.lookup T (.map (some r)) (.int k n) false).run P w = .ok (mapGet es n z) w := by
  have hzr : (zeroValue e).run P w = .ok z w := by
    unfold zeroVal at hz
    cases hi : P.info? e with
    | none => simp [hi] at hz
    | some i => simp only [hi, Option.bind_some] at hz; simp [zeroValue, typeInfo, hi, hz]
  simp only [Instr.lookup, Sem.run_bind, under_run hT, Result.andThen_ok, MapKept.run_getObj_map hr, Sem.run_pure, checkKey_run hu, findKey_run hu hk]
  unfold mapGet
  cases hf : es.toList.findIdx? (keyIs n) with
  | none =>
    have : es.toList.find? (keyIs n) = none := by
      rw [List.find?_eq_none]
      intro x hx
      rw [List.findIdx?_eq_none_iff] at hf
      rw [hf x hx]; simp
    simp [this, hzr]
  | some i =>
    obtain ⟨hi, hki, hlt⟩ := List.findIdx?_eq_some_iff_getElem.1 hf
    have : es.toList.find? (keyIs n) = some es.toList[i] := by
      rw [List.find?_eq_some_iff_getElem]
      exact ⟨hki, i, hi, rfl, fun j hj => by simpa using hlt j hj⟩
    have hes : es.toList[i]? = some es.toList[i] := List.getElem?_eq_getElem hi
    generalize es.toList[i] = en at this hes
    simp only [this, Option.map_some, hes, Option.getD_some, Sem.run_pure, Sem.run_bind, Result.andThen_ok, Bool.false_eq_true, if_false]
theorem next_run {r m since c0 clock : Nat} {seen : Array Nat} {es : Array MapEntry} {ty : TypeId} (hi : w.heap[r]? = some (.mapIter (some m) since seen c0)) (hb : w.heap[m]? = some (.map es clock)) (hold : ∀ x ∈ es.toList, x.born < since) (hsc : since ≤ c0) (sp : Option Nat) :
    ((leftOf es seen).size = 0 ∧ (Instr.next (.pointer (some ⟨r, 0, sp⟩)) false ty).run P w = .ok (.tuple #[.bool false]) w) ∨
    ∃ e ∈ (leftOf es seen).toList, ∃ w1 : World, (w1 = w ∨ w1 = w.drew) ∧ (Instr.next (.pointer (some ⟨r, 0, sp⟩)) false ty).run P w = .ok (.tuple #[.bool true, e.key, e.val]) (putObj w1 r (.mapIter (some m) since (seen.push e.born) clock)) := by
  simp only [Instr.next, getObj, Sem.run_bind, Sem.run, hi, hb, Result.andThen, next_test_false seen es since c0 hold hsc, Bool.false_eq_true, if_false]
  unfold leftOf
  have hmem : ∀ x ∈ (Array.filter (fun e => !seen.contains e.born) es).toList, x.born < since := fun x hx => hold x (by simp at hx ⊢; exact hx.1)
  generalize Array.filter (fun e => !seen.contains e.born) es = L at hmem ⊢
  have e1 : L.filter (fun x => decide (x.born < since)) = L := Array.filter_eq_self.2 (fun x hx => by simpa using hmem x (by simpa using hx))
  have e2 : L.filter (fun x => decide (x.born ≥ since)) = #[] := by
    rw [Array.filter_eq_empty_iff]
    intro x hx
    have := hmem x (by simpa using hx)
    simp
    omega
  simp only [e1, e2, Array.append_empty]
  by_cases h0 : L.size = 0
  · left
    have : L = #[] := Array.eq_empty_of_size_eq_zero h0
    subst this
    refine ⟨rfl, ?_⟩
    simp [choose, Sem.run, Question.forced]
  · right
    have hne : L.isEmpty = false := by simp [Array.isEmpty, h0]
    simp only [hne, Bool.false_eq_true, if_false, Array.empty_append, Array.size_map]
    have hch : ∃ (j : Nat) (w1 : World), j < L.size ∧ (w1 = w ∨ w1 = w.drew) ∧ (choose (Question.mapNext L.size)).run P w = .ok j w1 := by
      by_cases hf : L.size ≤ 1
      · exact ⟨0, w, by omega, .inl rfl, by simp [choose, Sem.run, Question.forced, hf]⟩
      · exact ⟨_, w.drew, Nat.mod_lt _ (by omega), .inr rfl, by
          simp only [choose, Sem.run, Question.forced, decide_eq_true_eq, hf, if_false, Question.cut]
          rfl⟩
    obtain ⟨j, w1, hj, hal, hrun⟩ := hch
    refine ⟨L[j], by simp, w1, hal, ?_⟩
    have hi1 : w1.heap[r]? = some (.mapIter (some m) since seen c0) := by
      rcases hal with rfl | rfl
      · exact hi
      · exact hi
    have hset : ∀ o', (setObj r o').run P w1 = .ok () (putObj w1 r o') := fun o' => by
      simp only [setObj, Sem.run, hi1]
      rfl
    simp only [hrun, Array.getElem?_map, Array.getElem?_eq_getElem hj, Option.map_some, Sem.run_bind, hset, Result.andThen]
    rfl
theorem entry_run {r m since clock : Nat} {seen : Array Nat} {es : Array MapEntry} {e : MapEntry} (hi : w.heap[r]? = some (.mapIter (some m) since seen clock)) (hb : w.heap[m]? = some (.map es clock)) (he : e ∈ es.toList) (hn : (es.toList.map (·.born)).Nodup)
    (hs : seen.back? = some e.born) (sp : Option Nat) : (Instr.entry (.pointer (some ⟨r, 0, sp⟩))).run P w = .ok (.tuple #[e.key, e.val]) w := by
  have hf : es.find? (·.born == e.born) = some e := by rw [← Array.find?_toList]; exact find_born e es.toList hn he
  simp only [Instr.entry, getObj, Sem.run_bind, Sem.run, hi, hb, Result.andThen, hs, bne_self_eq_false, Bool.false_eq_true, if_false, hf]
  rfl
end
end Go.Msk
