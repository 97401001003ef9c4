/- A small language of resolved operations, and what the generic and the generated functions do in it (part 9). -/
import Derived.Test.YtkgihecaappglaaGreatDoorFh

namespace Go.Msk
open Go.RowKit
set_option maxRecDepth 100000
def decStd : Dec where
  len := fun x s => if x then rdCArrayLen s else rdArrayLen s
  prim := fun p x s => match p with
    | .bool => (.num (.bool (decide ((rdN 1 s).1 ≠ 0))), (rdN 1 s).2)
    | .i8 => (.num (.int .i8 (IntKind.i8.wrap (rdN 1 s).1)), (rdN 1 s).2)
    | .i16 => (.num (.int .i16 (IntKind.i16.wrap (rdN 2 s).1)), (rdN 2 s).2)
    | .u16 => (.num (.int .u16 (rdN 2 s).1), (rdN 2 s).2)
    | .i32 => (.num (.int .i32 (IntKind.i32.wrap (rdN 4 s).1)), (rdN 4 s).2)
    | .u32 => (.num (.int .u32 (rdN 4 s).1), (rdN 4 s).2)
    | .i64 => (.num (.int .i64 (IntKind.i64.wrap (rdN 8 s).1)), (rdN 8 s).2)
    | .uuid => (.arr (rdUuid s).1, (rdUuid s).2)
    | .str => if x then (.num (str (rdCString s).1), (rdCString s).2) else (.num (str (rdString s).1), (rdString s).2)
    | .nstr => if x then (.nstr (rdCNullableString s).1, (rdCNullableString s).2) else (.nstr (rdNullableString s).1, (rdNullableString s).2)
    | .byt => if x then (.byt (rdCBytes s).1, (rdCBytes s).2) else (.byt (rdBytes s).1, (rdBytes s).2)
    | .nbyt => if x then (.byt (rdCNullableBytes s).1, (rdCNullableBytes s).2) else (.byt (rdNullableBytes s).1, (rdNullableBytes s).2)
  tags := rdTags
structure Lib (P : Program) (F : Nat → Nat) (has : Nat → Bool) : Prop where
  mixed : P.follows .mixedOrders = true
  beUint16 : has Msk.beUint16 = true → liftF P (F Msk.beUint16) = some (ir_beUint16 F)
  beUint32 : has Msk.beUint32 = true → liftF P (F Msk.beUint32) = some (ir_beUint32 F)
  beUint64 : has Msk.beUint64 = true → liftF P (F Msk.beUint64) = some (ir_beUint64 F)
  kUvarint : has Msk.kUvarint = true → liftF P (F Msk.kUvarint) = some (ir_kUvarint F)
  kUnsafeString : has Msk.kUnsafeString = true → liftF P (F Msk.kUnsafeString) = some (ir_kUnsafeString F)
  rOk : has Msk.rOk = true → liftF P (F Msk.rOk) = some (ir_rOk F)
  rComplete : has Msk.rComplete = true → liftF P (F Msk.rComplete) = some (ir_rComplete F)
  rSpan : has Msk.rSpan = true → liftF P (F Msk.rSpan) = some (ir_rSpan F)
  rUvarint : has Msk.rUvarint = true → liftF P (F Msk.rUvarint) = some (ir_rUvarint F)
  rReadUint64 : has Msk.rReadUint64 = true → liftF P (F Msk.rReadUint64) = some (ir_rReadUint64 F)
  rBool : has Msk.rBool = true → liftF P (F Msk.rBool) = some (ir_rBool F)
  rInt8 : has Msk.rInt8 = true → liftF P (F Msk.rInt8) = some (ir_rInt8 F)
  rInt16 : has Msk.rInt16 = true → liftF P (F Msk.rInt16) = some (ir_rInt16 F)
  rUint16 : has Msk.rUint16 = true → liftF P (F Msk.rUint16) = some (ir_rUint16 F)
  rInt32 : has Msk.rInt32 = true → liftF P (F Msk.rInt32) = some (ir_rInt32 F)
  rInt64 : has Msk.rInt64 = true → liftF P (F Msk.rInt64) = some (ir_rInt64 F)
  rUuid : has Msk.rUuid = true → liftF P (F Msk.rUuid) = some (ir_rUuid F)
  rString : has Msk.rString = true → liftF P (F Msk.rString) = some (ir_rString F)
  rUnsafeString : has Msk.rUnsafeString = true → liftF P (F Msk.rUnsafeString) = some (ir_rUnsafeString F)
  rCompactString : has Msk.rCompactString = true → liftF P (F Msk.rCompactString) = some (ir_rCompactString F)
  rUnsafeCompactString : has Msk.rUnsafeCompactString = true → liftF P (F Msk.rUnsafeCompactString) = some (ir_rUnsafeCompactString F)
  rNullableString : has Msk.rNullableString = true → liftF P (F Msk.rNullableString) = some (ir_rNullableString F)
  rUnsafeNullableString : has Msk.rUnsafeNullableString = true → liftF P (F Msk.rUnsafeNullableString) = some (ir_rUnsafeNullableString F)
  rCompactNullableString : has Msk.rCompactNullableString = true → liftF P (F Msk.rCompactNullableString) = some (ir_rCompactNullableString F)
  rUnsafeCompactNullableString : has Msk.rUnsafeCompactNullableString = true → liftF P (F Msk.rUnsafeCompactNullableString) = some (ir_rUnsafeCompactNullableString F)
  rBytes : has Msk.rBytes = true → liftF P (F Msk.rBytes) = some (ir_rBytes F)
  rCompactBytes : has Msk.rCompactBytes = true → liftF P (F Msk.rCompactBytes) = some (ir_rCompactBytes F)
  rNullableBytes : has Msk.rNullableBytes = true → liftF P (F Msk.rNullableBytes) = some (ir_rNullableBytes F)
  rCompactNullableBytes : has Msk.rCompactNullableBytes = true → liftF P (F Msk.rCompactNullableBytes) = some (ir_rCompactNullableBytes F)
  rArrayLen : has Msk.rArrayLen = true → liftF P (F Msk.rArrayLen) = some (ir_rArrayLen F)
  rCompactArrayLen : has Msk.rCompactArrayLen = true → liftF P (F Msk.rCompactArrayLen) = some (ir_rCompactArrayLen F)
  tSet : has Msk.tSet = true → liftF P (F Msk.tSet) = some (ir_tSet F)
  tRead : has Msk.tRead = true → liftF P (F Msk.tRead) = some (ir_tRead F)
def hasAll (has : Nat → Bool) (l : List Nat) : Bool := l.all has
theorem hasAll_mem {has : Nat → Bool} {l : List Nat} (h : hasAll has l = true) : ∀ c ∈ l, has c = true := by
  unfold hasAll at h; rwa [List.all_eq_true] at h
def selOk (F : Nat → Nat) (has : Nat → Bool) (p : PK) (u x : Bool) (f : FuncId) : Bool :=
  let ok (c : Nat) (l : List Nat) : Bool := f == F c && hasAll has (c :: l)
  match p with
  | .bool => ok rBool []
  | .i8 => ok rInt8 []
  | .i16 => ok rInt16 [beUint16]
  | .u16 => ok rUint16 [beUint16]
  | .i32 => ok rInt32 [beUint32]
  | .u32 => false
  | .i64 => ok rInt64 [rReadUint64, beUint64]
  | .uuid => ok rUuid [rSpan]
  | .str => match u, x with
    | true, true => ok rUnsafeCompactString [rUvarint, kUvarint, rSpan, kUnsafeString]
    | true, false => ok rUnsafeString [rInt16, beUint16, rSpan, kUnsafeString]
    | false, true => ok rCompactString [rUvarint, kUvarint, rSpan]
    | false, false => ok rString [rInt16, beUint16, rSpan]
  | .nstr => match u, x with
    | true, true => ok rUnsafeCompactNullableString [rUvarint, kUvarint, rSpan, kUnsafeString]
    | true, false => ok rUnsafeNullableString [rInt16, beUint16, rSpan, kUnsafeString]
    | false, true => ok rCompactNullableString [rUvarint, kUvarint, rSpan]
    | false, false => ok rNullableString [rInt16, beUint16, rSpan]
  | .byt => if x then ok rCompactBytes [rUvarint, kUvarint, rSpan] else ok rBytes [rInt32, beUint32, rSpan]
  | .nbyt => if x then ok rCompactNullableBytes [rUvarint, kUvarint, rSpan] else ok rNullableBytes [rInt32, beUint32, rSpan]
def lenOk (F : Nat → Nat) (has : Nat → Bool) (x : Bool) (f : FuncId) : Bool :=
  if x then f == F rCompactArrayLen && hasAll has [rCompactArrayLen, rUvarint, kUvarint] else f == F rArrayLen && hasAll has [rArrayLen, rInt32, beUint32]
section
variable {P : Program} {F : Nat → Nat} {has : Nat → Bool} {f : FuncId}
theorem RdC.g {val : RS → Value × RS} (h : RdC P f val) (h1 : ∀ s, (val s).1.cells = #[(val s).1]) (h2 : ∀ s, (val s).1.oneCell' = true) : RdG P f 1 fun s => (.num (val s).1, (val s).2) :=
  fun S w rb s hr hrb _ => (h S w rb s hr hrb).mono fun e w' ⟨e1, e2, e3⟩ => ⟨_, e1, ⟨by rw [h1]; rfl, by rw [h1]; exact .num (h2 s)⟩, e2, e3⟩
theorem RdC.l {val : RS → Int × RS} (h : RdC P f fun s => (.int .i32 (val s).1, (val s).2)) : RdL P f val :=
  fun S w rb s hr hrb _ => (h S w rb s hr hrb).mono fun _e _w' ⟨e1, e2, e3⟩ => ⟨_, e1, rfl, e2, e3⟩
theorem OctX.cells {O : List Nat} {w : World} {v : Value} {o : Option (List UInt8)} (h : OctX O w v o) : v.cells = #[v] := by
  cases o with
  | none => have := h.1; simp only [IsOct] at this; subst this; rfl
  | some l => obtain ⟨a, n, c, rfl, -⟩ := h.1; rfl
theorem PStr.rep {O : List Nat} {n : Nat} {w : World} {v : Value} {o : Option (List UInt8)} (h : PStr n w v o) (hO : ∀ y ∈ O, y < n) : v.cells = #[v] ∧ Rep O w (.nstr o) [v] := by
  cases o with
  | none => simp only [PStr] at h; subst h; exact ⟨rfl, .nstr0⟩
  | some l =>
    obtain ⟨b, rfl, hb, hc⟩ := h
    exact ⟨rfl, .nstr1 (fun hx => by have := hO _ hx; omega) hc⟩
theorem i32_le (n : Int) : IntKind.i32.wrap n ≤ 2147483647 := by
  simp only [IntKind.wrap, IntKind.bits, IntKind.signed]; simp; split <;> omega
theorem rdCArrayLen_short (s : RS) : (rdCArrayLen s).1 ≤ (rdCArrayLen s).2.src.length ∧ (rdCArrayLen s).1 ≤ 2147483647 := by
  unfold rdCArrayLen; simp only
  split
  · simp
  · rename_i h; exact ⟨by simpa using h, i32_le _⟩
theorem decStd_short : decStd.Short := by
  intro x s
  simp only [decStd]
  split
  · exact rdCArrayLen_short s
  · simp only [rdArrayLen]
    split
    · simp
    · rename_i h; exact ⟨by simpa using h, i32_le _⟩
theorem byt_rd {dec : RS → Option (List UInt8) × RS} (h : ∀ (S : List Nat) (w : World) (rb : Nat) (s : RS), IsRd S w rb s → rb ∉ S → (∀ y ∈ S, y < w.heap.size) →
    Calls P f [.pointer (some ⟨rb, 0, none⟩)].toArray w fun e w' => ∃ v, e = .returned v ∧ OctX (rb :: S) w' v (dec s).1 ∧ IsRd S w' rb (dec s).2 ∧ Mod [rb] w w') : RdG P f 1 fun s => (.byt (dec s).1, (dec s).2) :=
  fun S w rb s hr hrb hS => (h S w rb s hr hrb hS).mono fun e w' ⟨v, e1, e2, e3, e4⟩ => ⟨v, e1, ⟨by rw [e2.cells]; rfl, by rw [e2.cells]; exact .byt e2⟩, e3, e4⟩
theorem nstr_rd {dec : RS → Option (List UInt8) × RS} (h : ∀ (S : List Nat) (w : World) (rb : Nat) (s : RS), IsRd S w rb s → rb ∉ S →
    Calls P f [.pointer (some ⟨rb, 0, none⟩)].toArray w fun e w' => ∃ v, e = .returned v ∧ PStr w.heap.size w' v (dec s).1 ∧ IsRd S w' rb (dec s).2 ∧ Mod [rb] w w') : RdG P f 1 fun s => (.nstr (dec s).1, (dec s).2) :=
  fun S w rb s hr hrb hS => (h S w rb s hr hrb).mono fun e w' ⟨v, e1, e2, e3, e4⟩ => by
    obtain ⟨k1, k2⟩ := e2.rep (O := rb :: S) (fun y hy => by
      rcases List.mem_cons.1 hy with rfl | hy
      · exact hr.lt
      · exact hS y hy)
    exact ⟨v, e1, ⟨by rw [k1]; rfl, by rw [k1]; exact k2⟩, e3, e4⟩
variable (L : Lib P F has)
include L
theorem ok_std (h : has rOk = true) : OkC P (F rOk) := fun _S _w _rb _s hr => rOk_call L.mixed (L.rOk h) hr
theorem cpl_std (h : has rComplete = true) : CplC P (F rComplete) (F gErr) := fun _S _w _rb _s _T _v hr hg => rComplete_call L.mixed (L.rComplete h) hr hg
theorem tags_std (h : hasAll has [tRead, rUvarint, kUvarint, rSpan, tSet] = true) : RdG P (F tRead) 1 fun s => (.tag (decStd.tags s).1, (decStd.tags s).2) := by
  have h := hasAll_mem h
  exact tRead_call L.mixed (L.tRead (h _ (by simp))) (L.rUvarint (h _ (by simp))) (L.kUvarint (h _ (by simp))) (L.rSpan (h _ (by simp))) (L.tSet (h _ (by simp)))
theorem len_std {x : Bool} (h : lenOk F has x f = true) : RdL P f (decStd.len x) := by
  unfold lenOk at h
  cases x with
  | true =>
    simp only [if_true, Bool.and_eq_true, beq_iff_eq] at h
    obtain ⟨rfl, h⟩ := h
    have h := hasAll_mem h
    exact (rCompactArrayLen_call L.mixed (L.rCompactArrayLen (h _ (by simp))) (L.rUvarint (h _ (by simp))) (L.kUvarint (h _ (by simp)))).l
  | false =>
    simp only [Bool.false_eq_true, if_false, Bool.and_eq_true, beq_iff_eq] at h
    obtain ⟨rfl, h⟩ := h
    have h := hasAll_mem h
    exact (rArrayLen_call L.mixed (L.rArrayLen (h _ (by simp))) (L.rInt32 (h _ (by simp))) (L.beUint32 (h _ (by simp)))).l
theorem sel_std {p : PK} {u x : Bool} (h : selOk F has p u x f = true) : RdG P f p.size (decStd.prim p x) := by
  have hm := L.mixed
  have spl : ∀ {c : Nat} {l : List Nat}, (f == F c && hasAll has (c :: l)) = true → f = F c ∧ ∀ y ∈ c :: l, has y = true := fun h => by
    simp only [Bool.and_eq_true, beq_iff_eq] at h
    exact ⟨h.1, hasAll_mem h.2⟩
  cases p with
  | bool => obtain ⟨rfl, q⟩ := spl h; exact (rBool_call hm (L.rBool (q _ (by simp)))).g (fun _ => rfl) fun _ => rfl
  | i8 => obtain ⟨rfl, q⟩ := spl h; exact (rInt8_call hm (L.rInt8 (q _ (by simp)))).g (fun _ => rfl) fun _ => rfl
  | i16 => obtain ⟨rfl, q⟩ := spl h; exact (rInt16_call hm (L.rInt16 (q _ (by simp))) (L.beUint16 (q _ (by simp)))).g (fun _ => rfl) fun _ => rfl
  | u16 => obtain ⟨rfl, q⟩ := spl h; exact (rUint16_call hm (L.rUint16 (q _ (by simp))) (L.beUint16 (q _ (by simp)))).g (fun _ => rfl) fun _ => rfl
  | i32 => obtain ⟨rfl, q⟩ := spl h; exact (rInt32_call hm (L.rInt32 (q _ (by simp))) (L.beUint32 (q _ (by simp)))).g (fun _ => rfl) fun _ => rfl
  | u32 => simp [selOk] at h
  | i64 => obtain ⟨rfl, q⟩ := spl h; exact (rInt64_call hm (L.rInt64 (q _ (by simp))) (L.rReadUint64 (q _ (by simp))) (L.beUint64 (q _ (by simp)))).g (fun _ => rfl) fun _ => rfl
  | uuid =>
    obtain ⟨rfl, q⟩ := spl h
    exact fun S w rb s hr hrb _ => (rUuid_call hm (L.rUuid (q _ (by simp))) (L.rSpan (q _ (by simp))) S w rb s hr hrb).mono fun e w' ⟨e1, e2, e3⟩ =>
      ⟨_, e1, ⟨by have := rdUuid_len s; simp [Value.cells, u8s, this, PK.size], .arr⟩, e2, e3⟩
  | str =>
    cases u with
    | true => cases x with
      | true => obtain ⟨rfl, q⟩ := spl h; exact (rUnsafeCompactString_call hm (L.rUnsafeCompactString (q _ (by simp))) (L.rUvarint (q _ (by simp))) (L.kUvarint (q _ (by simp))) (L.rSpan (q _ (by simp))) (L.kUnsafeString (q _ (by simp)))).g (fun _ => rfl) fun _ => rfl
      | false => obtain ⟨rfl, q⟩ := spl h; exact (rUnsafeString_call hm (L.rUnsafeString (q _ (by simp))) (L.rInt16 (q _ (by simp))) (L.beUint16 (q _ (by simp))) (L.rSpan (q _ (by simp))) (L.kUnsafeString (q _ (by simp)))).g (fun _ => rfl) fun _ => rfl
    | false => cases x with
      | true => obtain ⟨rfl, q⟩ := spl h; exact (rCompactString_call hm (L.rCompactString (q _ (by simp))) (L.rUvarint (q _ (by simp))) (L.kUvarint (q _ (by simp))) (L.rSpan (q _ (by simp)))).g (fun _ => rfl) fun _ => rfl
      | false => obtain ⟨rfl, q⟩ := spl h; exact (rString_call hm (L.rString (q _ (by simp))) (L.rInt16 (q _ (by simp))) (L.beUint16 (q _ (by simp))) (L.rSpan (q _ (by simp)))).g (fun _ => rfl) fun _ => rfl
  | nstr =>
    cases u with
    | true => cases x with
      | true => obtain ⟨rfl, q⟩ := spl h; exact nstr_rd fun S w rb s hr hrb => rUnsafeCompactNullableString_call hm (L.rUnsafeCompactNullableString (q _ (by simp))) (L.rUvarint (q _ (by simp))) (L.kUvarint (q _ (by simp))) (L.rSpan (q _ (by simp))) (L.kUnsafeString (q _ (by simp))) hr hrb
      | false => obtain ⟨rfl, q⟩ := spl h; exact nstr_rd fun S w rb s hr hrb => rUnsafeNullableString_call hm (L.rUnsafeNullableString (q _ (by simp))) (L.rInt16 (q _ (by simp))) (L.beUint16 (q _ (by simp))) (L.rSpan (q _ (by simp))) (L.kUnsafeString (q _ (by simp))) hr hrb
    | false => cases x with
      | true => obtain ⟨rfl, q⟩ := spl h; exact nstr_rd fun S w rb s hr hrb => rCompactNullableString_call hm (L.rCompactNullableString (q _ (by simp))) (L.rUvarint (q _ (by simp))) (L.kUvarint (q _ (by simp))) (L.rSpan (q _ (by simp))) hr hrb
      | false => obtain ⟨rfl, q⟩ := spl h; exact nstr_rd fun S w rb s hr hrb => rNullableString_call hm (L.rNullableString (q _ (by simp))) (L.rInt16 (q _ (by simp))) (L.beUint16 (q _ (by simp))) (L.rSpan (q _ (by simp))) hr hrb
  | byt =>
    cases x with
    | true => obtain ⟨rfl, q⟩ := spl h; exact byt_rd fun S w rb s hr hrb hS => rCompactBytes_call hm (L.rCompactBytes (q _ (by simp))) (L.rUvarint (q _ (by simp))) (L.kUvarint (q _ (by simp))) (L.rSpan (q _ (by simp))) hr hrb hS
    | false => obtain ⟨rfl, q⟩ := spl h; exact byt_rd fun S w rb s hr hrb hS => rBytes_call hm (L.rBytes (q _ (by simp))) (L.rInt32 (q _ (by simp))) (L.beUint32 (q _ (by simp))) (L.rSpan (q _ (by simp))) hr hrb hS
  | nbyt =>
    cases x with
    | true => obtain ⟨rfl, q⟩ := spl h; exact byt_rd fun S w rb s hr hrb _ => rCompactNullableBytes_call hm (L.rCompactNullableBytes (q _ (by simp))) (L.rUvarint (q _ (by simp))) (L.kUvarint (q _ (by simp))) (L.rSpan (q _ (by simp))) hr hrb
    | false => obtain ⟨rfl, q⟩ := spl h; exact byt_rd fun S w rb s hr hrb _ => rNullableBytes_call hm (L.rNullableBytes (q _ (by simp))) (L.rInt32 (q _ (by simp))) (L.beUint32 (q _ (by simp))) (L.rSpan (q _ (by simp))) hr hrb
end
end Go.Msk

namespace Go.Msk
open Go.RowKit
set_option maxRecDepth 100000
def dfL : List (Nat × Value) → Nat → List IC
  | [], _ => []
  | (off, v) :: r, t => .blk [⟨some t, .mv (.tmp 0), none⟩, ⟨some (t + 1), .nilc (.tmp t), none⟩, ⟨some (t + 2), .fad (.tmp (t + 1)) off, none⟩, ⟨none, .st (.tmp (t + 2)) 1 (.const v), none⟩] :: dfL r (t + 3)
def dfGen (l : List (Nat × Value)) : IC × List RV × Nat := (seqs (dfL l 2), [], 2 + 3 * l.length)
def dfRes : List (Nat × Value) → List Value → List Value
  | [], z => z
  | (off, v) :: r, z => dfRes r (z.set off v)
def dfOk (l : List (Nat × Value)) (n : Nat) : Prop := ∀ p ∈ l, p.1 < n ∧ p.2.cells = #[p.2] ∧ p.2.oneCell' = true
def dfOkB (l : List (Nat × Value)) (n : Nat) : Bool := l.all fun p => Nat.blt p.1 n && match p.2 with
  | .int .. | .bool _ | .string _ | .pointer _ => true
  | _ => false
theorem dfOk_of {l : List (Nat × Value)} {n : Nat} (h : dfOkB l n = true) : dfOk l n := by
  intro p hp
  unfold dfOkB at h
  rw [List.all_eq_true] at h
  have := h p hp
  simp only [Bool.and_eq_true] at this
  refine ⟨Nat.lt_of_succ_le (Nat.le_of_ble_eq_true this.1), ?_⟩
  have h2 := this.2
  cases hv : p.2 <;> rw [hv] at h2 <;> first | (simp at h2; done) | exact ⟨rfl, rfl⟩
section
variable {P : Program}
theorem set_splice1 (pre z post : List Value) (off : Nat) (v : Value) (h : off < z.length) : splice (pre ++ (z ++ post)) (pre.length + off) [v] = pre ++ (z.set off v ++ post) := by
  unfold splice
  rw [List.take_length_add_append, List.take_append_of_le_length (by omega)]
  have e : pre.length + off + [v].length = pre.length + (off + 1) := by simp; omega
  rw [e, List.drop_length_add_append, List.drop_append_of_le_length (by omega), List.set_eq_take_append_cons_drop, if_pos h]
  simp
theorem dfL_wp {B : Nat} {pre post : List Value} : ∀ (l : List (Nat × Value)) (t : Nat) (z : List Value) (σ : Sl) (w : World) (Q : Exit → Sl → World → Prop), 1 ≤ t → dfOk l z.length → σ 0 = .pointer (some ⟨B, pre.length, none⟩) →
    Blk w B (pre ++ (z ++ post)) → (∀ σ' w', Mod [B] w w' → Blk w' B (pre ++ (dfRes l z ++ post)) → Q .normal σ' w') → wpL P (dfL l t) Q σ w
  | [], t, z, σ, w, Q, ht, hok, h0, hb, hQ => hQ σ w (Mod.refl _ _) hb
  | (off, v) :: r, t, z, σ, w, Q, ht, hok, h0, hb, hQ => by
    obtain ⟨ho, hv, h1⟩ := hok (off, v) List.mem_cons_self
    simp only at ho hv h1
    simp only [dfL, wpL, wpC, wpR, RI.wp, gOk, if_true, RK.run, ev, updo]
    simp only [upd, if_true, h0, Addr.add_mk, hv]
    have hput : Mod [B] w (putCells w ⟨B, pre.length + off, none⟩ 0 [v]) := Mod.put (by simp)
    refine ⟨rfl, stOk_many hb (by simp; omega) (by simpa using h1), ?_⟩
    have hp := hb.put (o := pre.length + off) (vs := [v]) (by simp; omega)
    rw [set_splice1 _ _ _ _ _ ho] at hp
    simp only [thenC]
    refine dfL_wp r (t + 3) (z.set off v) _ _ Q (by omega) (fun p hp => by rw [List.length_set]; exact hok p (List.mem_cons_of_mem _ hp)) ?_ (by simpa using hp) fun σ' w' hm hb' => hQ σ' w' (hput.trans hm) hb'
    simp only [upd, show (0 : Nat) ≠ t by omega, show (0 : Nat) ≠ t + 1 by omega, show (0 : Nat) ≠ t + 2 by omega, if_false, h0]
theorem df_call (hm : P.follows .mixedOrders = true) {f : FuncId} {l : List (Nat × Value)} (h : liftF P f = some (dfGen l)) {z d : List Value} (hok : dfOk l z.length) (hd : dfRes l z = d) : DfC P f z d := by
  intro w B pre post hb
  refine call_of h hm (by simp; omega) ?_
  rw [wpC_seqs]
  refine dfL_wp l 2 z _ w _ (by omega) hok rfl hb fun σ' w' hm' hb' => ?_
  simp only [postC, rvals, List.mapM_nil, Option.pure_def, tup]
  exact ⟨trivial, hd ▸ hb', hm'⟩
end
end Go.Msk

namespace Go.Msk
open Go.RowKit
set_option maxRecDepth 100000
def Sc.flatK : Sc → Bool
  | .prm .all _ _ _ _ rest => rest.flatK
  | .tags _ => true
  | _ => false
section
variable {P : Program} {E : RE} {D : Dec}
def Sc.SoundF (P : Program) (E : RE) (D : Dec) (g rb : Nat) (Te : TypeId) (ve : Value) (u : Bool) (ver : Int) (sc : Sc) : Prop :=
  ∀ (sp off nv nt nb B base : Nat) (S : List Nat) (s : RS) (pre old post : List Value) (σ : Sl) (w : World) (Q : Exit → Sl → World → Prop), sc.Ok P D u true →
    RV.Env E nv rb u true ver σ → E.hasFx = true → sp < nv → nv + sc.nv ≤ nt → σ sp = .pointer (some ⟨B, base, none⟩) → pre.length = base + off →
    IsRd S w rb s → rb ∉ S → B ∈ S → (∀ y ∈ S, y < w.heap.size) → GErr g w Te ve → g ∉ rb :: S → old.length = sc.dcs.flatten.length → Blk w B (pre ++ (old ++ post)) →
    (∀ gs s', sc.dec D ver true s = some (gs, s') → ∀ σ' w' css, Ag nv σ σ' → Mod [rb, B] w w' → IsRd S w' rb s' → RepL (rb :: S) w' gs css → css.flatten.length = sc.dcs.flatten.length → Blk w' B (pre ++ (css.flatten ++ post)) → Q .normal σ' w') →
    wpL P (sc.gen E sp off nv nt nb) Q σ w
theorem Sc.soundF {g rb : Nat} {Te : TypeId} {ve : Value} {u : Bool} {ver : Int} : ∀ sc : Sc, sc.flatK = true → sc.SoundF P E D g rb Te ve u ver := by
  intro sc
  induction sc with
  | tags f =>
    intro _ sp off nv nt nb B base S s pre old post σ w Q hO hE hf ls hnt hs hpre hr hrb hB hS hg hgn ho hb hQ
    simp only [Sc.nv] at hnt
    have lb := hE.lb
    have lf := hE.lf hf
    simp only [Sc.gen]
    rw [if_pos hf]
    simp only [wpL]
    rw [wpC_seq, wpC_blk]
    refine wpR_step (v := .bool true) (congrArg some (hE.hx hf)) ?_
    refine wpR_done ?_
    have hag : Ag nv σ (updo σ (some nt) (.bool true)) := (Ag.refl _ _).upd (by omega)
    rw [wpC_cond_t (by simp only [ev, updo, upd, if_true])]
    have hol : old.length = 1 := by simpa [Sc.dcs] using ho
    refine rdF_wp (old := old) (hO rfl) ((hag sp ls).trans hs) ((hag E.b lb).trans hE.hb) (by omega) (by omega) hr hrb hB hS hb hpre hol (fun O v w h => ⟨h.1, h.2.oneCell⟩) fun σ' w1 w' v a' hv m1 m2 hr' hbl => ?_
    have hl : v.cells.toList.length = 1 := by simpa using hv.1
    exact hQ _ _ rfl σ' w' [v.cells.toList] (fun j hj => (a' j (by omega)).trans (hag j hj)) ((m1.mono (by simp)).trans (m2.mono (by simp))) hr' (.cons (hv.2.mod m2 (by simpa using .inr hB)) .nil) (by simp [Sc.dcs, hl]) (by simpa using hbl)
  | prm vc init r p d rest ih =>
    intro hfk sp off nv nt nb B base S s pre old post σ w Q hO hE hf ls hnt hs hpre hr hrb hB hS hg hgn ho hb hQ
    cases vc with
    | all =>
      have ih := ih hfk
      obtain ⟨hR, hpd, hO⟩ := hO
      simp only [Sc.nv] at hnt
      simp only [Sc.dcs, List.flatten_cons, List.length_append] at ho
      have hBrb : B ≠ rb := fun e => hrb (e ▸ hB)
      obtain ⟨o1, o2, rfl, hl1, hl2⟩ : ∃ o1 o2, old = o1 ++ o2 ∧ o1.length = d.size ∧ o2.length = rest.dcs.flatten.length := by
        have := d.cells_length
        exact ⟨old.take d.size, old.drop d.size, (List.take_append_drop _ _).symm, by rw [List.length_take]; omega, by rw [List.length_drop]; omega⟩
      rw [List.append_assoc] at hb
      simp only [Sc.gen, VC.wrap, VC.nt, wpL]
      rw [wpC_seqs]
      refine initF_wp fun σ2 a2 => ?_
      simp only [wpL]
      have g2 : Ag nv σ σ2 := fun j hj => a2 j (by omega)
      refine VR.wp r _ _ w (hE.ag g2 (Nat.le_refl _)) (by omega) (by omega) hR hr hrb hS fun σ3 w3 v a3 v3 hv3 hr3 hm3 => ?_
      obtain ⟨hv1, hv2⟩ := hv3
      simp only [thenC]
      have g3 : Ag nv σ σ3 := fun j hj => by rw [a3 j (by omega) (by omega)]; exact g2 j hj
      refine stF_mid (old := o1) (by rw [g3 _ ls]; exact hs) v3 (hb.mod hm3 (by simpa using hBrb)) hpre (by rw [hv1, hpd]) hl1 hv2.oneCell (by omega) (by omega) fun σ4 w4 a4 hm4 hb4 => ?_
      have hm14 : Mod [rb, B] w w4 := (hm3.mono (by simp)).trans (hm4.mono (by simp))
      have hag4 : Ag nv σ σ4 := fun j hj => by rw [a4 j (by omega)]; exact g3 j hj
      have hr4 : IsRd S w4 rb _ := hr3.mod hm4 (by simpa using hBrb.symm) (by simpa using hB)
      have hrep4 : Rep (rb :: S) w4 _ v.cells.toList := hv2.mod hm4 (by simpa using .inr hB)
      have hcl : v.cells.toList.length = d.size := by rw [← hpd, ← hv1]; simp
      have hgm : g ∉ [rb, B] := by
        simp only [List.mem_cons, not_or, List.not_mem_nil, not_false_eq_true, and_true] at hgn ⊢
        exact ⟨hgn.1, fun e => hgn.2 (e ▸ hB)⟩
      simp only [thenC]
      refine ih sp (off + d.size) (nv + 1) _ nb B base S _ (pre ++ v.cells.toList) o2 post σ4 w4 Q hO (hE.ag hag4 (by omega)) hf (by omega) (by omega) (by rw [hag4 _ ls]; exact hs) (by simp only [List.length_append]; omega) hr4 hrb hB
        (fun y hy => Nat.lt_of_lt_of_le (hS y hy) hm14.size) (cell_mod hg hm14 hgm) hgn hl2 (by simpa only [List.append_assoc] using hb4) ?_
      intro gs s' hd σ' w' css a5 hm5 hr5 hrep5 hlen5 hb5
      refine hQ _ s' (by simp only [Sc.dec, VC.holds, if_true, consD, hd]) σ' w' (v.cells.toList :: css) (hag4.trans (a5.mono (by omega))) (hm14.trans hm5) hr5 (.cons (hrep4.mod hm5 ?_) hrep5) ?_ ?_
      · simp only [List.mem_cons, List.not_mem_nil, or_false]
        rintro y (rfl | rfl)
        · exact .inl rfl
        · exact .inr hB
      · simp only [Sc.dcs, List.flatten_cons, List.length_append, d.cells_length]; omega
      · simpa only [List.flatten_cons, List.append_assoc] using hb5
    | _ => simp [Sc.flatK] at hfk
  | _ => intro h; simp [Sc.flatK] at h
end
end Go.Msk

namespace Go.Msk
open Go.RowKit
set_option maxRecDepth 100000
inductive TR where
  | mk (n : Int) (s : List UInt8) (null : Bool) (l : List TR) (u : List (Nat × List UInt8))
  deriving Inhabited
inductive RepU (ok : Nat → Prop) (w : World) : List (Nat × List UInt8) → List (List Value) → Prop
  | nil : RepU ok w [] []
  | cons {k : Nat} {b : List UInt8} {u : List (Nat × List UInt8)} {v : Value} {css : List (List Value)} : SlC ok w v b.length (u8s b) → RepU ok w u css → RepU ok w ((k, b) :: u) ([.int .u32 k, v] :: css)
mutual
inductive RepT (ok : Nat → Prop) (w : World) : TR → List Value → Prop
  | mk {n : Int} {s : List UInt8} {null : Bool} {l : List TR} {u : List (Nat × List UInt8)} {sv lv uv : Value} {css uss : List (List Value)} : SlC ok w sv s.length (u8s s) → SlC ok w lv l.length css.flatten → RepTL ok w l css →
      SlC ok w uv u.length uss.flatten → RepU ok w u uss → RepT ok w (.mk n s null l u) [.int .i64 n, sv, .bool null, lv, uv]
inductive RepTL (ok : Nat → Prop) (w : World) : List TR → List (List Value) → Prop
  | nil : RepTL ok w [] []
  | cons {t : TR} {l : List TR} {cs : List Value} {css : List (List Value)} : RepT ok w t cs → RepTL ok w l css → RepTL ok w (t :: l) (cs :: css)
end
theorem RepU.mod {ok ok' : Nat → Prop} {S : List Nat} {w w' : World} {u : List (Nat × List UInt8)} {css : List (List Value)} (h : RepU ok w u css) (hm : Mod S w w') (hS : ∀ b ∈ S, ¬ ok b) (ho : ∀ b, b < w.heap.size → ok b → ok' b) : RepU ok' w' u css := by
  induction h with
  | nil => exact .nil
  | cons h _ ih => exact .cons (h.mod hm hS ho) ih
theorem RepT.mod {ok ok' : Nat → Prop} {S : List Nat} {w w' : World} (hm : Mod S w w') (hS : ∀ b ∈ S, ¬ ok b) (ho : ∀ b, b < w.heap.size → ok b → ok' b) {t : TR} {cs : List Value} (h : RepT ok w t cs) : RepT ok' w' t cs := by
  refine RepT.rec (motive_1 := fun t cs _ => RepT ok' w' t cs) (motive_2 := fun l css _ => RepTL ok' w' l css) ?_ ?_ ?_ h
  · intro n s null l u sv lv uv css uss h1 h2 _ h4 h5 ih
    exact .mk (h1.mod hm hS ho) (h2.mod hm hS ho) ih (h4.mod hm hS ho) (h5.mod hm hS ho)
  · exact .nil
  · intro t l cs css _ _ ih1 ih2; exact .cons ih1 ih2
theorem RepTL.mod {ok ok' : Nat → Prop} {S : List Nat} {w w' : World} (hm : Mod S w w') (hS : ∀ b ∈ S, ¬ ok b) (ho : ∀ b, b < w.heap.size → ok b → ok' b) {l : List TR} {css : List (List Value)} (h : RepTL ok w l css) : RepTL ok' w' l css := by
  induction l generalizing css with
  | nil => cases h; exact .nil
  | cons t l ih => cases h with | cons h1 h2 => exact .cons (h1.mod hm hS ho) (ih h2)
theorem RepTL.append {ok : Nat → Prop} {w : World} {l l' : List TR} {css css' : List (List Value)} (h : RepTL ok w l css) (h' : RepTL ok w l' css') : RepTL ok w (l ++ l') (css ++ css') := by
  induction l generalizing css with
  | nil => cases h; exact h'
  | cons g l ih => cases h with | cons h1 h2 => exact .cons h1 (ih h2)
theorem RepTL.length {ok : Nat → Prop} {w : World} {l : List TR} {css : List (List Value)} (h : RepTL ok w l css) : l.length = css.length := by
  induction l generalizing css with
  | nil => cases h; rfl
  | cons g l ih => cases h with | cons h1 h2 => simp [ih h2]
theorem RepT.five {ok : Nat → Prop} {w : World} {t : TR} {cs : List Value} (h : RepT ok w t cs) : cs.length = 5 := by cases h; rfl
theorem RepTL.five {ok : Nat → Prop} {w : World} {l : List TR} {css : List (List Value)} (h : RepTL ok w l css) : ∀ cs ∈ css, cs.length = 5 := by
  induction l generalizing css with
  | nil => cases h; simp
  | cons g l ih =>
    cases h with
    | cons h1 h2 =>
      intro cs hc
      rcases List.mem_cons.1 hc with rfl | hc
      · exact h1.five
      · exact ih h2 cs hc
theorem RepT.oneCell {ok : Nat → Prop} {w : World} {t : TR} {cs : List Value} (h : RepT ok w t cs) : ∀ v ∈ cs, v.oneCell' = true := by
  cases h with
  | mk h1 h2 h3 h4 h5 =>
    intro v hv
    simp only [List.mem_cons, List.not_mem_nil, or_false] at hv
    rcases hv with rfl | rfl | rfl | rfl | rfl
    · rfl
    · exact h1.one
    · rfl
    · exact h2.one
    · exact h4.one
def TR.zero : TR := .mk 0 [] false [] []
def tzero : List Value := [.int .i64 0, .slice none 0 0, .bool false, .slice none 0 0, .slice none 0 0]
theorem RepT.num {ok : Nat → Prop} {w : World} (n : Int) (b : Bool) : RepT ok w (.mk n [] b [] []) [.int .i64 n, .slice none 0 0, .bool b, .slice none 0 0, .slice none 0 0] :=
  .mk (css := []) (uss := []) SlC.nil SlC.nil .nil SlC.nil .nil
theorem RepT.zero {ok : Nat → Prop} {w : World} : RepT ok w TR.zero tzero := .num 0 false
theorem RepT.oct {ok : Nat → Prop} {w : World} {v : Value} {s : List UInt8} (b : Bool) (h : SlC ok w v s.length (u8s s)) : RepT ok w (.mk 0 s b [] []) [.int .i64 0, v, .bool b, .slice none 0 0, .slice none 0 0] :=
  .mk (css := []) (uss := []) h SlC.nil .nil SlC.nil .nil
def TellC (P : Program) (f : FuncId) (args : List Value) (w : World) (t : TR) : Prop :=
  Calls P f args.toArray w fun e w' => ∃ cs, e = .returned (.agg cs.toArray) ∧ RepT (fun b => w.heap.size ≤ b) w' t cs ∧ Mod [] w w'
def insT (k : Nat) (l : List UInt8) : List (Nat × List UInt8) → List (Nat × List UInt8)
  | [] => [(k, l)]
  | (k', l') :: m => if k < k' then (k, l) :: (k', l') :: m else (k', l') :: insT k l m
def sortT : List (Nat × List UInt8) → List (Nat × List UInt8)
  | [] => []
  | (k, l) :: m => insT k l (sortT m)
def GV.tagsF : List GV → List (Nat × List UInt8)
  | [] => []
  | .tag m :: _ => sortT m
  | _ :: l => GV.tagsF l
mutual
/-- What a value is told as. -/
def GV.told : GV → TR
  | .num (.int _ n) => .mk (IntKind.i64.wrap n) [] false [] []
  | .num (.bool b) => .mk (if b then 1 else 0) [] false [] []
  | .num (.string s) => .mk 0 s.data.toList false [] []
  | .num _ => .zero
  | .nstr none => .mk 0 [] true [] []
  | .nstr (some l) => .mk 0 l false [] []
  | .byt none => .mk 0 [] true [] []
  | .byt (some l) => .mk 0 l false [] []
  | .arr l => .mk 0 l false [] []
  | .lst isnil _ l => .mk 0 [] isnil (GV.toldL l) []
  | .rcd l => .mk 0 [] false (GV.toldF l) (GV.tagsF l)
  | .tag _ => .zero
def GV.toldL : List GV → List TR
  | [] => []
  | g :: l => g.told :: GV.toldL l
/-- The fields, but for the unknown tags. -/
def GV.toldF : List GV → List TR
  | [] => []
  | g :: l => match g with
    | .tag _ => GV.toldF l
    | g => g.told :: GV.toldF l
end
theorem GV.toldL_map (l : List GV) : GV.toldL l = l.map GV.told := by
  induction l with
  | nil => simp [GV.toldL]
  | cons g l ih => simp [GV.toldL, ih]
theorem GV.toldF_cons {g : GV} {l : List GV} (h : ∀ m, g ≠ .tag m) : GV.toldF (g :: l) = g.told :: GV.toldF l := by
  cases g with
  | tag m => exact absurd rfl (h m)
  | _ => simp only [GV.toldF]
end Go.Msk

namespace Go.Msk
open Go.RowKit
set_option maxRecDepth 100000
theorem Rep.fresh {O O' T : List Nat} {w w' : World} (hm : Mod T w w') (hT : ∀ x ∈ T, x ∈ O ∨ w.heap.size ≤ x) (hO : ∀ x ∈ O', x ∈ O ∨ w.heap.size ≤ x) {g : GV} {cs : List Value} (h : Rep O w g cs) : Rep O' w' g cs := by
  have hcell : ∀ {a : Addr} {v : Value}, w.cell? a = some v → a.block ∉ O → w'.cell? a = some v := by
    intro a v hc hn
    exact cell_mod hc hm fun hx => (hT _ hx).elim hn fun hge => by have := World.block_lt_of_cell? w a hc; omega
  refine Rep.rec (motive_1 := fun g cs _ => Rep O' w' g cs) (motive_2 := fun l css _ => RepL O' w' l css) ?_ ?_ ?_ ?_ ?_ ?_ ?_ ?_ ?_ ?_ ?_ ?_ h
  · intro v hv; exact .num hv
  · exact .nstr0
  · intro b l hb hc
    refine .nstr1 (fun hx => (hO _ hx).elim hb fun hge => ?_) (hcell hc hb)
    have := World.block_lt_of_cell? w ⟨b, 0, none⟩ hc
    simp only at this; omega
  · intro v o ho
    refine .byt ⟨?_, fun a n c e => ⟨fun hx => (hO _ hx).elim (ho.2 a n c e).1 fun hge => by have := (ho.2 a n c e).2; omega, Nat.lt_of_lt_of_le (ho.2 a n c e).2 hm.size⟩⟩
    obtain ⟨h1, h2⟩ := ho
    cases o with
    | none => exact h1
    | some l =>
      obtain ⟨a, n, c, rfl, hb⟩ := h1
      exact ⟨a, n, c, rfl, hb.mod hm (fun a' e hc => by cases e; exact (hT _ hc).elim (h2 a n c rfl).1 fun hge => by have := (h2 a n c rfl).2; omega)⟩
  · intro l; exact .arr
  · intro sz; exact .lst0
  · intro a n c sz l css ha hlt hn hc hsz _ hcells ih
    exact .lst1 (fun hx => (hO _ hx).elim ha fun hge => by omega) (Nat.lt_of_lt_of_le hlt hm.size) hn hc hsz ih (hcells.mod hm (.inr fun hx => (hT _ hx).elim ha fun hge => by omega))
  · intro l css _ ih; exact .rcd ih
  · exact .tag0
  · intro r m hr h
    have hlt := h.lt
    have h2 : MapRep (fun b => b ∉ O ∧ b < w.heap.size) w r m := h.mod (Mod.refl [] _) (by simp) (by simp) fun b hb hx => ⟨hx, hb⟩
    exact .tag1 (fun hx => (hO _ hx).elim hr fun hge => by omega) (h2.mod hm (fun hx => (hT _ hx).elim hr fun hge => by omega) (fun b hb hx => (hT _ hb).elim hx.1 fun hge => by omega)
      fun b _ hx hy => (hO _ hy).elim hx.1 fun hge => by omega)
  · exact .nil
  · intro g l cs css _ _ ih1 ih2; exact .cons ih1 ih2
theorem RepL.fresh {O O' T : List Nat} {w w' : World} (hm : Mod T w w') (hT : ∀ x ∈ T, x ∈ O ∨ w.heap.size ≤ x) (hO : ∀ x ∈ O', x ∈ O ∨ w.heap.size ≤ x) {l : List GV} {css : List (List Value)} (h : RepL O w l css) : RepL O' w' l css := by
  induction l generalizing css with
  | nil => cases h; exact .nil
  | cons g l ih => cases h with | cons h1 h2 => exact .cons (h1.fresh hm hT hO) (ih h2)
inductive TK where
  | num (conv : Bool)
  | str
  | boo (f : FuncId)
  | txt (f : FuncId)
  | oct (f : FuncId)
  deriving Inhabited
def TK.ty : TK → GV → Prop
  | .num true, g => ∃ k n, g = .num (.int k n)
  | .num false, g => ∃ n, g = .num (.int .i64 n) ∧ IntKind.i64.wrap n = n
  | .str, g => ∃ l, g = .num (Msk.str l)
  | .boo _, g => ∃ b, g = .num (.bool b)
  | .txt _, g => ∃ o, g = .nstr o
  | .oct _, g => ∃ o, g = .byt o ∧ ∀ l, o = some l → l.length ≤ 2147483647
theorem TK.ty_tag {k : TK} {m : List (Nat × List UInt8)} (h : k.ty (.tag m)) : False := by
  cases k with
  | num c => cases c <;> simp [TK.ty] at h
  | _ => simp [TK.ty] at h
theorem TK.one {k : TK} {g : GV} {O : List Nat} {w : World} {cs : List Value} (h : k.ty g) (hr : Rep O w g cs) : cs.length = 1 := by
  cases k with
  | num c =>
    cases c with
    | true => obtain ⟨_, _, rfl⟩ := h; cases hr; rfl
    | false => obtain ⟨_, rfl, -⟩ := h; cases hr; rfl
  | str => obtain ⟨_, rfl⟩ := h; cases hr; rfl
  | boo f => obtain ⟨_, rfl⟩ := h; cases hr; rfl
  | txt f => obtain ⟨_, rfl⟩ := h; cases hr <;> rfl
  | oct f => obtain ⟨_, rfl, -⟩ := h; cases hr; rfl
def TK.Ok (P : Program) : TK → Prop
  | .num _ => True
  | .str => True
  | k@(.boo f) | k@(.txt f) | k@(.oct f) => ∀ O w g v, k.ty g → Rep O w g [v] → TellC P f [v] w g.told
def TK.nt : TK → Nat
  | .num true => 9
  | .num false => 8
  | .str => 9
  | _ => 8
def nd (r : RI) : DI := ⟨r, false, []⟩
def headD (t off : Nat) : List DI :=
  [nd ⟨some t, .fad (.tmp 3) 3, none⟩, nd ⟨some (t + 1), .ld (.tmp t), none⟩, nd ⟨some (t + 2), .mv (.tmp 0), none⟩, nd ⟨some (t + 3), .nilc (.tmp (t + 2)), none⟩, nd ⟨some (t + 4), .fad (.tmp (t + 3)) off, none⟩, nd ⟨some (t + 5), .ld (.tmp (t + 4)), none⟩]
def TK.gen (i t off : Nat) : TK → IC
  | .num true => .drw (headD t off ++ [nd ⟨some (t + 6), .conv .i64 (.tmp (t + 5)), none⟩, nd ⟨some (t + 7), .build tzero [(0, 1, .tmp (t + 6))], none⟩, nd ⟨some (t + 8), .iad (.tmp (t + 1)) (.const (.int .i64 i)) 5, none⟩])
      [⟨none, .st (.tmp (t + 8)) 5 (.tmp (t + 7)), none⟩]
  | .num false => .drw (headD t off ++ [nd ⟨some (t + 6), .build tzero [(0, 1, .tmp (t + 5))], none⟩, nd ⟨some (t + 7), .iad (.tmp (t + 1)) (.const (.int .i64 i)) 5, none⟩])
      [⟨none, .st (.tmp (t + 7)) 5 (.tmp (t + 6)), none⟩]
  | .str => .drw (headD t off ++ [⟨⟨some (t + 6), .s2b (.tmp (t + 5)), none⟩, true, []⟩, ⟨⟨some (t + 7), .build tzero [(1, 1, .tmp (t + 6))], none⟩, false, [6]⟩, ⟨⟨some (t + 8), .iad (.tmp (t + 1)) (.const (.int .i64 i)) 5, none⟩, false, [6]⟩])
      [⟨none, .st (.tmp (t + 8)) 5 (.tmp (t + 7)), none⟩]
  | .boo f | .txt f | .oct f => .drw (headD t off ++ [⟨⟨some (t + 6), .call f [.tmp (t + 5)], none⟩, true, []⟩, ⟨⟨some (t + 7), .iad (.tmp (t + 1)) (.const (.int .i64 i)) 5, none⟩, false, [6]⟩])
      [⟨none, .st (.tmp (t + 7)) 5 (.tmp (t + 6)), none⟩]
section
variable {P : Program}
theorem head_vals {t off Tb Lb n B base : Nat} {σ : Sl} {w : World} {v : Value} (ht : 4 ≤ t)
    (h0 : σ 0 = .pointer (some ⟨B, base, none⟩)) (h3 : σ 3 = .pointer (some ⟨Tb, 0, none⟩)) (c3 : w.cell? ⟨Tb, 3, none⟩ = some (.slice (some ⟨Lb, 0, none⟩) n n)) (hc : w.cell? ⟨B, base + off, none⟩ = some v) :
    ∃ v0 v1 v2 v3 v4, (RK.fad (.tmp 3) 3).val? σ w = some v0 ∧ (RK.ld (.tmp t)).val? (upd σ t v0) w = some v1 ∧ (RK.mv (.tmp 0)).val? (upd (upd σ t v0) (t + 1) v1) w = some v2 ∧
      (RK.nilc (.tmp (t + 2))).val? (upd (upd (upd σ t v0) (t + 1) v1) (t + 2) v2) w = some v3 ∧ (RK.fad (.tmp (t + 3)) off).val? (upd (upd (upd (upd σ t v0) (t + 1) v1) (t + 2) v2) (t + 3) v3) w = some v4 ∧
      (RK.ld (.tmp (t + 4))).val? (upd (upd (upd (upd (upd σ t v0) (t + 1) v1) (t + 2) v2) (t + 3) v3) (t + 4) v4) w = some v ∧
      Ag t σ (upd (upd (upd (upd (upd (upd σ t v0) (t + 1) v1) (t + 2) v2) (t + 3) v3) (t + 4) v4) (t + 5) v) ∧
      (upd (upd (upd (upd (upd (upd σ t v0) (t + 1) v1) (t + 2) v2) (t + 3) v3) (t + 4) v4) (t + 5) v) (t + 1) = .slice (some ⟨Lb, 0, none⟩) n n ∧
      (upd (upd (upd (upd (upd (upd σ t v0) (t + 1) v1) (t + 2) v2) (t + 3) v3) (t + 4) v4) (t + 5) v) (t + 5) = v := by
  refine ⟨.pointer (some ⟨Tb, 3, none⟩), .slice (some ⟨Lb, 0, none⟩) n n, .pointer (some ⟨B, base, none⟩), .pointer (some ⟨B, base, none⟩), .pointer (some ⟨B, base + off, none⟩), ?_, ?_, ?_, ?_, ?_, ?_, ?_, ?_, ?_⟩
  · simp only [RK.val?, ev, h3, Addr.add_mk, Nat.zero_add]
  · simp only [RK.val?, ev, upd_same, c3]
  · simp only [RK.val?, ev, upd, show (0 : Nat) ≠ t by omega, show (0 : Nat) ≠ t + 1 by omega, if_false, h0]
  · simp only [RK.val?, ev, upd_same]
  · simp only [RK.val?, ev, upd_same, Addr.add_mk]
  · simp only [RK.val?, ev, upd_same, hc]
  · intro j hj
    simp only [upd, show j ≠ t by omega, show j ≠ t + 1 by omega, show j ≠ t + 2 by omega, show j ≠ t + 3 by omega, show j ≠ t + 4 by omega, show j ≠ t + 5 by omega, if_false]
  · simp only [upd, show t + 1 ≠ t + 5 by omega, show t + 1 ≠ t + 4 by omega, show t + 1 ≠ t + 3 by omega, show t + 1 ≠ t + 2 by omega, if_false, if_true]
  · simp only [upd_same]
theorem head_wpR {t off Tb Lb n B base : Nat} {σ : Sl} {w : World} {v : Value} {r : List DI} {sk : List RI} {Q : Sl → World → Prop} (ht : 4 ≤ t)
    (h0 : σ 0 = .pointer (some ⟨B, base, none⟩)) (h3 : σ 3 = .pointer (some ⟨Tb, 0, none⟩)) (c3 : w.cell? ⟨Tb, 3, none⟩ = some (.slice (some ⟨Lb, 0, none⟩) n n)) (hc : w.cell? ⟨B, base + off, none⟩ = some v)
    (h : ∀ σ', Ag t σ σ' → σ' (t + 1) = .slice (some ⟨Lb, 0, none⟩) n n → σ' (t + 5) = v → wpR P (r.map (·.ri) ++ sk) σ' w Q) : wpR P ((headD t off ++ r).map (·.ri) ++ sk) σ w Q := by
  obtain ⟨v0, v1, v2, v3, v4, e0, e1, e2, e3, e4, e5, e6, e7, e8⟩ := head_vals (v := v) ht h0 h3 c3 hc
  simp only [headD, nd, List.cons_append, List.nil_append, List.map_cons]
  refine wpR_step e0 (wpR_step e1 (wpR_step e2 (wpR_step e3 (wpR_step e4 (wpR_step e5 ?_)))))
  exact h _ e6 e7 e8
theorem head_walkB {t off Tb Lb n B base : Nat} {σ : Sl} {w : World} {v : Value} {r l : List DI} {Φ : Nat → Value → World → Prop} {E : Sl → Prop} (ht : 4 ≤ t)
    (h0 : σ 0 = .pointer (some ⟨B, base, none⟩)) (h3 : σ 3 = .pointer (some ⟨Tb, 0, none⟩)) (c3 : w.cell? ⟨Tb, 3, none⟩ = some (.slice (some ⟨Lb, 0, none⟩) n n)) (hc : w.cell? ⟨B, base + off, none⟩ = some v)
    (h : ∀ σ', Ag t σ σ' → σ' (t + 1) = .slice (some ⟨Lb, 0, none⟩) n n → σ' (t + 5) = v → walkB P l Φ w E 6 r σ') : walkB P l Φ w E 0 (headD t off ++ r) σ := by
  obtain ⟨v0, v1, v2, v3, v4, e0, e1, e2, e3, e4, e5, e6, e7, e8⟩ := head_vals (v := v) ht h0 h3 c3 hc
  simp only [headD, nd, List.cons_append, List.nil_append]
  refine walkB_step e0 (walkB_step e1 (walkB_step e2 (walkB_step e3 (walkB_step e4 (walkB_step e5 ?_)))))
  exact h _ e6 e7 e8
theorem Blk.new' (w : World) (cs : List Value) (T : TypeId) (fr : Nat × Nat) (h : cs.length ≤ fr.1) : Blk (w.alloc (.cells cs.toArray T fr)) w.heap.size cs :=
  ⟨T, fr, by show (w.heap.push _)[w.heap.size]? = _; simp, .inr h⟩
structure TW (w : World) (Tb Lb n : Nat) (cs : List Value) : Prop where
  tb : Blk w Tb [.int .i64 0, .slice none 0 0, .bool false, .slice (some ⟨Lb, 0, none⟩) n n, .slice none 0 0]
  lb : Blk w Lb cs
  ne : Tb ≠ Lb
theorem TK.wp {k : TK} (hk : k.Ok P) {i t off Tb Lb n B base : Nat} {O : List Nat} {pre post : List Value} {g : GV} {v : Value} {σ : Sl} {w : World} {Q : Exit → Sl → World → Prop} (ht : 4 ≤ t)
    (h0 : σ 0 = .pointer (some ⟨B, base, none⟩)) (h3 : σ 3 = .pointer (some ⟨Tb, 0, none⟩)) (hw : TW w Tb Lb n (pre ++ (tzero ++ post))) (hpre : pre.length = i * 5) (hi : i < n)
    (hg : k.ty g) (hr : Rep O w g [v]) (hc : w.cell? ⟨B, base + off, none⟩ = some v)
    (hQ : ∀ σ' w' cs, Ag t σ σ' → Mod [Lb] w w' → RepT (fun b => w.heap.size ≤ b) w' g.told cs → TW w' Tb Lb n (pre ++ (cs ++ post)) → Q .normal σ' w') : wpC P (k.gen i t off) Q σ w := by
  have c3 : w.cell? ⟨Tb, 3, none⟩ = some (.slice (some ⟨Lb, 0, none⟩) n n) := hw.tb.cell 3
  have c3' : w.drew.cell? ⟨Tb, 3, none⟩ = some (.slice (some ⟨Lb, 0, none⟩) n n) := c3
  have hc' : w.drew.cell? ⟨B, base + off, none⟩ = some v := hc
  have hst : ∀ (w1 : World) (cs : List Value), Mod [] w w1 → RepT (fun b => w.heap.size ≤ b) w1 g.told cs →
      StOk w1 ⟨Lb, i * 5, none⟩ cs ∧ ∀ σ', Ag t σ σ' → Q .normal σ' (putCells w1 ⟨Lb, i * 5, none⟩ 0 cs) := by
    intro w1 cs hm hrep
    have hlb1 : Blk w1 Lb (pre ++ (tzero ++ post)) := hw.lb.mod hm (by simp)
    have h5 := hrep.five
    have hput : Mod [Lb] w1 (putCells w1 ⟨Lb, i * 5, none⟩ 0 cs) := Mod.put (by simp)
    refine ⟨stOk_many hlb1 (by simp [tzero]; omega) hrep.oneCell, fun σ' ha => hQ σ' _ cs ha (hm.nil.trans hput) (hrep.mod hput (fun b hb => ?_) fun _ _ h => h) ⟨?_, ?_, hw.ne⟩⟩
    · simp only [List.mem_singleton] at hb; subst hb; have := hw.lb.lt; omega
    · exact (hw.tb.mod hm (by simp)).mod hput (by simpa using hw.ne)
    · have := hlb1.put (o := i * 5) (vs := cs) (by simp [tzero]; omega)
      rwa [splice_mid hpre (by simp [h5, tzero])] at this
  have callK : ∀ (f : FuncId) (k' : TK), k'.gen i t off = .drw (headD t off ++ [⟨⟨some (t + 6), .call f [.tmp (t + 5)], none⟩, true, []⟩, ⟨⟨some (t + 7), .iad (.tmp (t + 1)) (.const (.int .i64 i)) 5, none⟩, false, [6]⟩])
      [⟨none, .st (.tmp (t + 7)) 5 (.tmp (t + 6)), none⟩] → (∀ O w g v, k.ty g → Rep O w g [v] → TellC P f [v] w g.told) → wpC P (k'.gen i t off) Q σ w := by
    intro f k' hgen hf
    rw [hgen]
    simp only [wpC]
    refine wpD_of_B (fun _ v w1 => ∃ cs, v = .agg cs.toArray ∧ RepT (fun b => w.heap.size ≤ b) w1 g.told cs) (fun _ v w1 w2 h hm => ?_) (head_walkB ht h0 h3 c3' hc' fun σ1 a1 s1 s5 => ?_)
    · obtain ⟨cs, h1, h2⟩ := h
      exact ⟨cs, h1, h2.mod hm (by simp) fun _ _ h => h⟩
    refine walkB_node (fun w1 hm1 _ => ?_) fun u hu => ?_
    · simp only [RK.run, ev, s5, List.map_cons, List.map_nil]
      have hm1' : Mod [] w w1 := (Mod.drew _ _).trans hm1
      refine (hf O w1 g v hg (hr.fresh hm1' (by simp) (fun x hx => .inl hx))).mono ?_
      rintro e w2 ⟨cs, rfl, hrep, hm2⟩
      exact ⟨_, rfl, hm2, cs, rfl, hrep.mod (Mod.refl [] _) (by simp) fun b _ hb => Nat.le_trans hm1'.size hb⟩
    obtain ⟨wu, cs, rfl, hcs⟩ := hu
    refine walkB_step (v := .pointer (some ⟨Lb, i * 5, none⟩)) (by
        simp only [RK.val?, ev, updo, upd, show t + 1 ≠ t + 6 by omega, if_false, s1]
        rw [if_pos (by omega)]; simp [Addr.add_mk]) ?_
    simp only [walkB]
    intro w1 hm1 hkn
    have h6 := hkn 6 (by simp [headD]) ⟨⟨some (t + 6), .call f [.tmp (t + 5)], none⟩, true, []⟩ (by simp [headD]) rfl rfl (t + 6) rfl
    simp only [updo, upd, show t + 6 ≠ t + 7 by omega, if_false, if_true] at h6
    obtain ⟨cs', e1, h6⟩ := h6
    have e2 : cs = cs' := by
      have := congrArg (fun v => match v with | Value.agg a => a.toList | _ => []) e1
      simpa using this
    subst e2
    obtain ⟨k1, k2⟩ := hst w1 _ ((Mod.drew _ _).trans hm1) h6
    simp only [wpR, RI.wp, gOk, if_true, RK.run, ev, updo, upd_same]
    have e7 : ∀ x, upd (upd σ1 (t + 6) x) (t + 7) (.pointer (some ⟨Lb, i * 5, none⟩)) (t + 6) = x := fun x => by
      simp only [upd, show t + 6 ≠ t + 7 by omega, if_false, if_true]
    rw [e7]
    have hag : Ag t σ (upd (upd σ1 (t + 6) (Value.agg cs.toArray)) (t + 7) (.pointer (some ⟨Lb, i * 5, none⟩))) := fun j hj => by
      simp only [upd, show j ≠ t + 6 by omega, show j ≠ t + 7 by omega, if_false]
      exact a1 j hj
    exact ⟨by simp [Value.cells, hcs.five], by simpa [Value.cells] using k1, by simpa [Value.cells] using k2 _ hag⟩
  cases k with
  | num c =>
    cases c with
    | true =>
      obtain ⟨k, m, rfl⟩ := hg
      have hv : v = .int k m := by cases hr; rfl
      subst hv
      simp only [TK.gen, wpC]
      refine wpD_pure rfl (head_wpR ht h0 h3 c3' hc' fun σ1 a1 s1 s5 => ?_)
      obtain ⟨k1, k2⟩ := hst w.drew _ (Mod.drew _ _) (RepT.num (IntKind.i64.wrap m) false)
      simp only [nd, List.map_cons, List.map_nil, List.cons_append, List.nil_append]
      refine wpR_step (v := .int .i64 (IntKind.i64.wrap m)) (by simp only [RK.val?, ev, s5]) ?_
      refine wpR_step (v := .agg #[.int .i64 (IntKind.i64.wrap m), .slice none 0 0, .bool false, .slice none 0 0, .slice none 0 0]) (by simp only [RK.val?, ev, updo, upd_same, tzero, fillL, List.map_cons, List.map_nil, Value.cells]; simp [splice]) ?_
      refine wpR_step (v := .pointer (some ⟨Lb, i * 5, none⟩)) (by
        simp only [RK.val?, ev, updo, upd, show t + 1 ≠ t + 7 by omega, show t + 1 ≠ t + 6 by omega, if_false, s1]
        rw [if_pos (by omega)]; simp [Addr.add_mk]) ?_
      simp only [wpR, RI.wp, gOk, if_true, RK.run, ev, updo, upd_same]
      have e7 : ∀ x, upd (upd (upd σ1 (t + 6) (Value.int .i64 (IntKind.i64.wrap m))) (t + 7) x) (t + 8) (.pointer (some ⟨Lb, i * 5, none⟩)) (t + 7) = x := fun x => by
        simp only [upd, show t + 7 ≠ t + 8 by omega, if_false, if_true]
      rw [e7]
      refine ⟨rfl, k1, k2 _ fun j hj => ?_⟩
      simp only [upd, show j ≠ t + 6 by omega, show j ≠ t + 7 by omega, show j ≠ t + 8 by omega, if_false]
      exact a1 j hj
    | false =>
      obtain ⟨m, rfl, hm⟩ := hg
      have hv : v = .int .i64 m := by cases hr; rfl
      subst hv
      simp only [TK.gen, wpC]
      refine wpD_pure rfl (head_wpR ht h0 h3 c3' hc' fun σ1 a1 s1 s5 => ?_)
      obtain ⟨k1, k2⟩ := hst w.drew _ (Mod.drew _ _) (RepT.num (IntKind.i64.wrap m) false)
      simp only [nd, List.map_cons, List.map_nil, List.cons_append, List.nil_append]
      refine wpR_step (v := .agg #[.int .i64 (IntKind.i64.wrap m), .slice none 0 0, .bool false, .slice none 0 0, .slice none 0 0]) (by simp only [RK.val?, ev, s5, tzero, fillL, List.map_cons, List.map_nil, Value.cells]; simp [splice, hm]) ?_
      refine wpR_step (v := .pointer (some ⟨Lb, i * 5, none⟩)) (by
        simp only [RK.val?, ev, updo, upd, show t + 1 ≠ t + 6 by omega, if_false, s1]
        rw [if_pos (by omega)]; simp [Addr.add_mk]) ?_
      simp only [wpR, RI.wp, gOk, if_true, RK.run, ev, updo, upd_same]
      have e7 : ∀ x, upd (upd σ1 (t + 6) x) (t + 7) (.pointer (some ⟨Lb, i * 5, none⟩)) (t + 6) = x := fun x => by
        simp only [upd, show t + 6 ≠ t + 7 by omega, if_false, if_true]
      rw [e7]
      refine ⟨rfl, k1, k2 _ fun j hj => ?_⟩
      simp only [upd, show j ≠ t + 6 by omega, show j ≠ t + 7 by omega, if_false]
      exact a1 j hj
  | str =>
    obtain ⟨l, rfl⟩ := hg
    have hv : v = Msk.str l := by cases hr; rfl
    subst hv
    simp only [TK.gen, wpC]
    refine wpD_of_B (fun _ v w1 => SlC (fun b => w.heap.size ≤ b) w1 v l.length (u8s l)) (fun _ v w1 w2 h hm => h.mod hm (by simp) fun _ _ h => h) (head_walkB ht h0 h3 c3' hc' fun σ1 a1 s1 s5 => ?_)
    refine walkB_node (fun w1 hm1 _ => ?_) fun u hu => ?_
    · simp only [RK.run, ev, s5, Msk.str]
      intro T cap rest hcap hrest
      have hsz : (⟨l.toArray⟩ : ByteArray).size = l.length := by simp [ByteArray.size]
      rw [hsz] at hcap hrest ⊢
      have hblk := Blk.new' w1.drew (u8s l ++ rest) T (cap, cap + 1) (by simp only [List.length_append, u8s_length]; omega)
      refine ⟨(Mod.drew _ _).trans (Mod.alloc _ _ _), some ⟨w1.heap.size, 0, none⟩, cap, rfl, hcap, fun h => by simp at h, fun a ha _ => ?_⟩
      simp only [Option.some.injEq] at ha
      subst ha
      refine ⟨hm1.size, hblk.lt, ?_⟩
      have := hblk.cells.take (u8s l).length
      simpa using this
    refine walkB_step (v := .agg #[.int .i64 0, u, .bool false, .slice none 0 0, .slice none 0 0]) ?_ ?_
    · obtain ⟨w1, hu⟩ := hu
      obtain ⟨b1, c1, rfl, -⟩ := hu
      simp only [RK.val?, ev, updo, upd_same, tzero, fillL, List.map_cons, List.map_nil, Value.cells]; simp [splice]
    refine walkB_step (v := .pointer (some ⟨Lb, i * 5, none⟩)) (by
        simp only [RK.val?, ev, updo, upd, show t + 1 ≠ t + 7 by omega, show t + 1 ≠ t + 6 by omega, if_false, s1]
        rw [if_pos (by omega)]; simp [Addr.add_mk]) ?_
    simp only [walkB]
    intro w1 hm1 hkn
    have h6 := hkn 6 (by simp [headD]) ⟨⟨some (t + 6), .s2b (.tmp (t + 5)), none⟩, true, []⟩ (by simp [headD]) rfl rfl (t + 6) rfl
    simp only [updo, upd, show t + 6 ≠ t + 8 by omega, show t + 6 ≠ t + 7 by omega, if_false, if_true] at h6
    obtain ⟨k1, k2⟩ := hst w1 _ ((Mod.drew _ _).trans hm1) (RepT.oct false h6)
    simp only [wpR, RI.wp, gOk, if_true, RK.run, ev, updo, upd_same]
    have e7 : ∀ x, upd (upd (upd σ1 (t + 6) u) (t + 7) x) (t + 8) (.pointer (some ⟨Lb, i * 5, none⟩)) (t + 7) = x := fun x => by
      simp only [upd, show t + 7 ≠ t + 8 by omega, if_false, if_true]
    rw [e7]
    refine ⟨rfl, k1, k2 _ fun j hj => ?_⟩
    simp only [upd, show j ≠ t + 6 by omega, show j ≠ t + 7 by omega, show j ≠ t + 8 by omega, if_false]
    exact a1 j hj
  | boo f => exact callK f _ rfl hk
  | txt f => exact callK f _ rfl hk
  | oct f => exact callK f _ rfl hk
end
end Go.Msk

namespace Go.Msk
open Go.RowKit
set_option maxRecDepth 100000
section
variable {P : Program} {F : Nat → Nat}
theorem tSetO_call {w : World} (hm : P.follows .mixedOrders = true) (h : liftF P (F tSet) = some (ir_tSet F)) {tb k o : Nat} {pre post : List Value} {mv v : Value} {m : List (Nat × List UInt8)} {l : List UInt8} {ok : Nat → Prop} (hb : Blk w tb (pre ++ mv :: post)) (ho : pre.length = o) (hM : TagM ok w mv m) (hk : k < 4294967296)
    (hv : SlC ok w v l.length (u8s l)) (htb : ¬ ok tb) (hr0 : ∀ r, mv = .map (some r) → ¬ ok r ∧ r ≠ tb) :
    Calls P (F tSet) [.pointer (some ⟨tb, o, none⟩), .int .u32 k, v].toArray w fun e w' => e = .returned (.tuple #[]) ∧ ∃ r, Blk w' tb (pre ++ .map (some r) :: post) ∧ MapRep (fun b => ok b ∧ b < w.heap.size) w' r (putTag m k l) ∧ r ≠ tb ∧
      ((mv = .map (some r) ∧ Mod [tb, r] w w') ∨ (mv = .map none ∧ w.heap.size ≤ r ∧ Mod [tb] w w')) := by
  unfold ir_tSet at h
  refine call_of h hm (by simp) ?_
  have a0 : args0 [.pointer (some ⟨tb, o, none⟩), .int .u32 k, v] 0 = .pointer (some ⟨tb, o, none⟩) := rfl
  have a1 : args0 [.pointer (some ⟨tb, o, none⟩), .int .u32 k, v] 1 = .int .u32 k := rfl
  have a2 : args0 [.pointer (some ⟨tb, o, none⟩), .int .u32 k, v] 2 = v := rfl
  generalize args0 [.pointer (some ⟨tb, o, none⟩), .int .u32 k, v] = σ0 at a0 a1 a2 ⊢
  have c0 : w.cell? ⟨tb, o, none⟩ = some mv := by rw [hb.cell o]; simp [← ho]
  have htl := hb.lt
  -- what happens once there is a map
  have key : ∀ (σ : Sl) (w1 : World) (r : Nat), σ 0 = .pointer (some ⟨tb, o, none⟩) → σ 1 = .int .u32 k → σ 2 = v → Blk w1 tb (pre ++ .map (some r) :: post) → MapRep (fun b => ok b ∧ b < w.heap.size) w1 r m → r ≠ tb → ¬ (ok r ∧ r < w.heap.size) → w.heap.size ≤ w1.heap.size → SlC (fun b => ok b ∧ b < w.heap.size) w1 v l.length (u8s l) →
      ((mv = .map (some r) ∧ w1 = w) ∨ (mv = .map none ∧ w.heap.size ≤ r ∧ Mod [tb] w w1)) →
      wpC P (.blk [⟨some 15, .mv (.tmp 0), none⟩, ⟨some 16, .nilc (.tmp 15), none⟩, ⟨some 17, .fad (.tmp 16) 0, none⟩, ⟨some 18, .ld (.tmp 17), none⟩, ⟨some 19, .mv (.tmp 1), none⟩, ⟨some 20, .mv (.tmp 2), none⟩, ⟨none, .mapup (.tmp 18) (.tmp 19) (.tmp 20), none⟩])
        (postC [] fun e w' => e = .returned (.tuple #[]) ∧ ∃ r, Blk w' tb (pre ++ .map (some r) :: post) ∧ MapRep (fun b => ok b ∧ b < w.heap.size) w' r (putTag m k l) ∧ r ≠ tb ∧
          ((mv = .map (some r) ∧ Mod [tb, r] w w') ∨ (mv = .map none ∧ w.heap.size ≤ r ∧ Mod [tb] w w'))) σ w1 := by
    intro σ w1 r s0 s1 s2 hb1 hM1 hrt hnr hsz hv1 hcase
    have c1 : w1.cell? ⟨tb, o, none⟩ = some (.map (some r)) := by rw [hb1.cell o]; simp [← ho]
    have hrl := hM1.lt
    obtain ⟨es, clock, he1, he2, he3, he4⟩ := hM1.ex
    obtain ⟨es', c', p1, p2, p3, p4⟩ := mapPut_list es clock k v he3 he4
    rw [wpC_blk]
    refine wpR_step (v := .pointer (some ⟨tb, o, none⟩)) (congrArg some s0) ?_
    refine wpR_step (v := .pointer (some ⟨tb, o, none⟩)) (by simp only [RK.val?, ev, updo, upd, if_true]) ?_
    refine wpR_step (v := .pointer (some ⟨tb, o, none⟩)) (by simp only [RK.val?, ev, updo, upd, if_true, Addr.add_mk, Nat.add_zero]) ?_
    refine wpR_step (v := .map (some r)) (by simp only [RK.val?, ev, updo, upd, if_true, c1]) ?_
    refine wpR_step (v := .int .u32 k) (by simp only [RK.val?, ev, updo, upd]; simp [s1]) ?_
    refine wpR_step (v := v) (by simp only [RK.val?, ev, updo, upd]; simp [s2]) ?_
    refine wpR_run ?_
    simp only [RK.run, ev, updo, upd, show (18 : Nat) ≠ 20 by decide, show (18 : Nat) ≠ 19 by decide, show (19 : Nat) ≠ 20 by decide, if_false, if_true, he1]
    refine ⟨he2.keys, ?_⟩
    simp only [wpR, postC, rvals, List.mapM_nil, Option.pure_def, tup]
    refine ⟨trivial, r, ?_, ?_, hrt, ?_⟩
    · exact hb1.mod (Mod.putObj (S := [r]) (by simp)) (by simp; omega)
    · rw [p1]
      have hmd : Mod [r] w1 (putObj w1 r (.map es' c')) := Mod.putObj (by simp)
      refine ⟨⟨es', c', putObj_get hrl, ?_, p3, p4⟩, putTag_nodup hM1.keys⟩
      rw [p2]
      exact (he2.put hk hv1).mod hmd (fun b hb hx => by simp only [List.mem_singleton] at hb; subst hb; exact hnr hx) fun _ _ h => h
    · rcases hcase with ⟨h1, h2⟩ | ⟨h1, h2, h3⟩
      · refine .inl ⟨h1, ?_⟩
        rw [h2]; exact Mod.putObj (by simp)
      · refine .inr ⟨h1, h2, ?_⟩
        have hmd : Mod [r, tb] w1 (putObj w1 r (mapPut es clock .u32 k v)) := Mod.putObj (by simp)
        exact Mod.drop (b := r) (S := [tb]) ((h3.mono (by simp)).trans hmd) h2
  generalize postC [] _ = Q at key ⊢
  rw [wpC_seq, wpC_seq, wpC_blk]
  refine wpR_step (v := .pointer (some ⟨tb, o, none⟩)) (congrArg some a0) ?_
  refine wpR_step (v := .pointer (some ⟨tb, o, none⟩)) (by simp only [RK.val?, ev, updo, upd, if_true]) ?_
  refine wpR_step (v := .pointer (some ⟨tb, o, none⟩)) (by simp only [RK.val?, ev, updo, upd, if_true, Addr.add_mk, Nat.add_zero]) ?_
  refine wpR_step (v := mv) (by simp only [RK.val?, ev, updo, upd, if_true, c0]) ?_
  have hv2 : SlC (fun b => ok b ∧ b < w.heap.size) w v l.length (u8s l) := hv.mod (Mod.refl [] _) (by simp) fun b hb hx => ⟨hx, hb⟩
  rcases hM with ⟨rfl, rfl⟩ | ⟨r, rfl, hM⟩
  · refine wpR_step (v := .bool true) (by simp only [RK.val?, ev, updo, upd, if_true]; rfl) ?_
    refine wpR_done ?_
    rw [wpC_cond_t rfl, wpC_blk]
    refine wpR_step (v := .pointer (some ⟨tb, o, none⟩)) (by simp only [RK.val?, ev, updo, upd]; simp [a0]) ?_
    refine wpR_run ?_
    simp only [RK.run]
    refine wpR_step (v := .pointer (some ⟨tb, o, none⟩)) (by simp only [RK.val?, ev, updo, upd]; simp) ?_
    refine wpR_step (v := .pointer (some ⟨tb, o, none⟩)) (by simp only [RK.val?, ev, updo, upd, if_true, Addr.add_mk, Nat.add_zero]) ?_
    refine wpR_run ?_
    have hma : Mod [] w (w.alloc (.map #[] 0)) := Mod.alloc _ _ _
    have hsz : (w.alloc (.map #[] 0)).heap.size = w.heap.size + 1 := by simp
    have hget : (w.alloc (.map #[] 0)).heap[w.heap.size]? = some (.map #[] 0) := heap_alloc_new w _
    have hba := hb.mod hma (by simp)
    generalize w.alloc (.map #[] 0) = w1 at hma hsz hget hba ⊢
    simp only [RK.run, ev, updo, upd, if_true, show (12 : Nat) ≠ 14 by decide, show (12 : Nat) ≠ 13 by decide, if_false]
    have ec : (Value.map (some w.heap.size)).cells = #[.map (some w.heap.size)] := rfl
    rw [ec]
    have hput : Mod [tb] w1 (putCells w1 ⟨tb, o, none⟩ 0 [.map (some w.heap.size)]) := Mod.put (by simp)
    have hp := hba.put (o := o) (vs := [.map (some w.heap.size)]) (by simp only [List.length_append, List.length_cons, List.length_nil]; omega)
    rw [show pre ++ (Value.map none) :: post = pre ++ ([Value.map none] ++ post) by rfl, splice_mid (old := [Value.map none]) (vs := [Value.map (some w.heap.size)]) ho rfl] at hp
    refine ⟨rfl, stOk_one hba (by simp only [List.length_append, List.length_cons]; omega) rfl, ?_⟩
    refine wpR_done ?_
    generalize hσ : upd _ 14 _ = σ1
    have s0 : σ1 0 = .pointer (some ⟨tb, o, none⟩) := by rw [← hσ]; simp [upd, a0]
    have s1 : σ1 1 = .int .u32 k := by rw [← hσ]; simp [upd, a1]
    have s2 : σ1 2 = v := by rw [← hσ]; simp [upd, a2]
    clear hσ
    refine key σ1 _ w.heap.size s0 s1 s2 hp ?_ (by omega) (fun h => by omega) (by rw [size_putCells]; omega) ?_ (.inr ⟨rfl, Nat.le_refl _, hma.nil.trans hput⟩)
    · refine ⟨⟨#[], 0, ?_, .nil, by simp, by simp⟩, by simp⟩
      rw [hput.block _ (by omega) (by simp; omega)]; exact hget
    · exact (hv2.mod hma (by simp) fun _ _ h => h).mod hput (fun b hb hx => by simp only [List.mem_singleton] at hb; subst hb; exact htb hx.1) fun _ _ h => h
  · refine wpR_step (v := .bool false) (by simp only [RK.val?, ev, updo, upd, if_true]; rfl) ?_
    refine wpR_done ?_
    rw [wpC_cond_f rfl, wpC_skip]
    simp only [thenC]
    obtain ⟨q1, q2⟩ := hr0 r rfl
    generalize hσ : updo _ (some 10) _ = σ1
    have s0 : σ1 0 = .pointer (some ⟨tb, o, none⟩) := by rw [← hσ]; simp [updo, upd, a0]
    have s1 : σ1 1 = .int .u32 k := by rw [← hσ]; simp [updo, upd, a1]
    have s2 : σ1 2 = v := by rw [← hσ]; simp [updo, upd, a2]
    clear hσ
    refine key σ1 _ r s0 s1 s2 hb (hM.mod (Mod.refl [] _) (by simp) (by simp) fun b hb hx => ⟨hx, hb⟩) q2 (fun h => q1 h.1) (Nat.le_refl _) hv2 (.inl ⟨rfl, rfl⟩)
end
end Go.Msk

namespace Go.Msk
open Go.RowKit
set_option maxRecDepth 100000
inductive EK where
  | num (conv : Bool)
  | str
  | tell (f : FuncId)
  deriving Inhabited
def EK.dis (p e idx : Nat) : EK → List DI
  | .num true => [nd ⟨some e, .ld (.tmp p), none⟩, nd ⟨some (e + 1), .conv .i64 (.tmp e), none⟩, nd ⟨some (e + 2), .build tzero [(0, 1, .tmp (e + 1))], none⟩]
  | .num false => [nd ⟨some e, .ld (.tmp p), none⟩, nd ⟨some (e + 1), .build tzero [(0, 1, .tmp e)], none⟩]
  | .str => [nd ⟨some e, .ld (.tmp p), none⟩, ⟨⟨some (e + 1), .s2b (.tmp e), none⟩, true, []⟩, ⟨⟨some (e + 2), .build tzero [(1, 1, .tmp (e + 1))], none⟩, false, [idx + 1]⟩]
  | .tell f => [⟨⟨some e, .call f [.tmp p], none⟩, true, []⟩]
def EK.n : EK → Nat
  | .num true => 3
  | .num false => 2
  | .str => 3
  | .tell _ => 1
def EK.node (idx : Nat) : EK → List Nat
  | .num _ => []
  | .str => [idx + 1]
  | .tell _ => [idx]
def EK.sz : EK → Nat → Nat
  | .tell _, n => n
  | _, _ => 1
def EK.ty (T : List GV → Prop) : EK → GV → Prop
  | .num true, g => ∃ k n, g = .num (.int k n)
  | .num false, g => ∃ n, g = .num (.int .i64 n) ∧ IntKind.i64.wrap n = n
  | .str, g => ∃ l, g = .num (Msk.str l)
  | .tell _, g => ∃ l, g = .rcd l ∧ T l
def TellS (P : Program) (f : FuncId) (T : List GV → Prop) : Prop :=
  ∀ (O : List Nat) (w : World) (B base : Nat) (gs : List GV) (css : List (List Value)), T gs → RepL O w gs css → Cells w ⟨B, base, none⟩ css.flatten →
    TellC P f [.pointer (some ⟨B, base, none⟩)] w (GV.rcd gs).told
def EK.Ok (P : Program) (T : List GV → Prop) : EK → Prop
  | .tell f => TellS P f T
  | _ => True
def EK.Phi (n0 : Nat) (g : GV) : EK → Value → World → Prop
  | .num _, _, _ => True
  | .str, v, w => ∃ l, g = .num (Msk.str l) ∧ SlC (fun b => n0 ≤ b) w v l.length (u8s l)
  | .tell _, v, w => ∃ cs, v = .agg cs.toArray ∧ RepT (fun b => n0 ≤ b) w g.told cs
theorem EK.Phi.mod {k : EK} {n0 : Nat} {g : GV} {v : Value} {w w' : World} {S : List Nat} (h : k.Phi n0 g v w) (hm : Mod S w w') (hS : ∀ b ∈ S, b < n0) : k.Phi n0 g v w' := by
  cases k with
  | num c => trivial
  | str =>
    obtain ⟨l, h1, h2⟩ := h
    exact ⟨l, h1, h2.mod hm (fun b hb => by have := hS b hb; omega) fun _ _ h => h⟩
  | tell f =>
    obtain ⟨cs, h1, h2⟩ := h
    exact ⟨cs, h1, h2.mod hm (fun b hb => by have := hS b hb; omega) fun _ _ h => h⟩
section
variable {P : Program}
theorem walk_step {l : List DI} {R : World → World → Prop} {Φ : Nat → Value → World → Prop} {w0 : World} {E : Sl → Prop} {n : Nat} {k : RK} {d : Option Nat} {ds : List Nat} {r : List DI} {σ : Sl} {v : Value} (hv : ∀ w, R w0 w → k.val? σ w = some v)
    (h : walk P l R Φ NT w0 E (n + 1) r (updo σ d v)) : walk P l R Φ NT w0 E n (⟨⟨d, k, none⟩, false, ds⟩ :: r) σ := by
  simp only [walk, gOk, if_true, Bool.false_eq_true, if_false]
  exact ⟨v, fun w hw _ => hv w hw, h⟩
theorem walk_node {l : List DI} {R : World → World → Prop} {Φ : Nat → Value → World → Prop} {w0 : World} {E : Sl → Prop} {n : Nat} {k : RK} {d : Option Nat} {ds : List Nat} {r : List DI} {σ : Sl}
    (hn : ∀ w, R w0 w → known l Φ ds σ w → k.run P σ w fun v w' => R w w' ∧ Φ n v w') (h : ∀ v, (∃ w, Φ n v w) → walk P l R Φ NT w0 E (n + 1) r (updo σ d v)) : walk P l R Φ NT w0 E n (⟨⟨d, k, none⟩, true, ds⟩ :: r) σ := by
  simp only [walk, gOk, if_true]
  exact ⟨fun w h1 _ h2 => run_mono (hn w h1 h2) fun v w' hk => ⟨hk.1, hk.2, fun _ _ _ => trivial⟩, h⟩
def EK.val (e : Nat) (k : EK) : Nat := e + k.n - 1
theorem EK.walk_wp {k : EK} {T : List GV → Prop} (hk : k.Ok P T) {l : List DI} {R : World → World → Prop} {Φ : Nat → Value → World → Prop} {w0 : World} {E : Sl → Prop} {r : List DI} {p e idx A o : Nat} {O S : List Nat} {g : GV} {cs : List Value} {σ : Sl}
    (_hp : p < e) (hσ : σ p = .pointer (some ⟨A, o, none⟩)) (hRS : ∀ w, R w0 w → Mod S w0 w) (hR0 : ∀ w w', Mod [] w w' → R w w') (hS : ∀ x ∈ S, x ∈ O ∧ x ≠ A) (hg : k.ty T g) (hr : Rep O w0 g cs) (hc : Cells w0 ⟨A, o, none⟩ cs) (hcs : cs ≠ [] ∨ True)
    (hΦ : ∀ j v w, j ∈ k.node idx → (k.Phi w0.heap.size g v w ↔ Φ j v w))
    (h : ∀ σ', Ag e σ σ' → (∀ w, (∀ j ∈ k.node idx, Φ j (σ' (e + (j - idx))) w) → ∃ cs, σ' (k.val e) = .agg cs.toArray ∧ RepT (fun b => w0.heap.size ≤ b) w g.told cs) → walk P l R Φ NT w0 E (idx + k.n) r σ') :
    walk P l R Φ NT w0 E idx (k.dis p e idx ++ r) σ := by
  have hcw : ∀ w, R w0 w → Cells w ⟨A, o, none⟩ cs := fun w hw => hc.mod (hRS w hw) (.inr fun hx => (hS _ hx).2 rfl)
  cases k with
  | num c =>
    cases c with
    | true =>
      obtain ⟨kk, m, rfl⟩ := hg
      have hv : cs = [.int kk m] := by cases hr; rfl
      subst hv
      simp only [EK.dis, nd, List.cons_append, List.nil_append]
      refine walk_step (v := .int kk m) (fun w hw => by simp only [RK.val?, ev, hσ]; exact (hcw w hw).head) ?_
      refine walk_step (v := .int .i64 (IntKind.i64.wrap m)) (fun w hw => by simp only [RK.val?, ev, updo, upd_same]) ?_
      refine walk_step (v := .agg #[.int .i64 (IntKind.i64.wrap m), .slice none 0 0, .bool false, .slice none 0 0, .slice none 0 0]) (fun w hw => by
        simp only [RK.val?, ev, updo, upd_same, tzero, fillL, List.map_cons, List.map_nil, Value.cells]; simp [splice]) ?_
      refine h _ (fun j hj => ?_) fun w _ => ⟨[.int .i64 (IntKind.i64.wrap m), .slice none 0 0, .bool false, .slice none 0 0, .slice none 0 0], ?_, RepT.num _ _⟩
      · simp only [updo, upd, show j ≠ e by omega, show j ≠ e + 1 by omega, show j ≠ e + 2 by omega, if_false]
      · show updo _ (some (e + 2)) _ (e + 3 - 1) = _
        simp only [updo, upd, show e + 3 - 1 = e + 2 by omega, if_true]
    | false =>
      obtain ⟨m, rfl, hm⟩ := hg
      have hv : cs = [.int .i64 m] := by cases hr; rfl
      subst hv
      simp only [EK.dis, nd, List.cons_append, List.nil_append]
      refine walk_step (v := .int .i64 m) (fun w hw => by simp only [RK.val?, ev, hσ]; exact (hcw w hw).head) ?_
      refine walk_step (v := .agg #[.int .i64 (IntKind.i64.wrap m), .slice none 0 0, .bool false, .slice none 0 0, .slice none 0 0]) (fun w hw => by
        simp only [RK.val?, ev, updo, upd_same, tzero, fillL, List.map_cons, List.map_nil, Value.cells]; simp [splice, hm]) ?_
      refine h _ (fun j hj => ?_) fun w _ => ⟨[.int .i64 (IntKind.i64.wrap m), .slice none 0 0, .bool false, .slice none 0 0, .slice none 0 0], ?_, RepT.num _ _⟩
      · simp only [updo, upd, show j ≠ e by omega, show j ≠ e + 1 by omega, if_false]
      · show updo _ (some (e + 1)) _ (e + 2 - 1) = _
        simp only [updo, upd, show e + 2 - 1 = e + 1 by omega, if_true]
  | str =>
    obtain ⟨s, rfl⟩ := hg
    have hv : cs = [Msk.str s] := by cases hr; rfl
    subst hv
    simp only [EK.dis, nd, List.cons_append, List.nil_append]
    refine walk_step (v := Msk.str s) (fun w hw => by simp only [RK.val?, ev, hσ]; exact (hcw w hw).head) ?_
    refine walk_node (fun w1 hw1 _ => ?_) fun u hu => ?_
    · simp only [RK.run, ev, updo, upd_same, Msk.str]
      intro T cap rest hcap hrest
      have hsz : (⟨s.toArray⟩ : ByteArray).size = s.length := by simp [ByteArray.size]
      rw [hsz] at hcap hrest ⊢
      have hblk := Blk.new' w1.drew (u8s s ++ rest) T (cap, cap + 1) (by simp only [List.length_append, u8s_length]; omega)
      refine ⟨hR0 _ _ ((Mod.drew _ _).trans (Mod.alloc _ _ _)), (hΦ (idx + 1) _ _ (by simp [EK.node])).1 ⟨s, rfl, some ⟨w1.heap.size, 0, none⟩, cap, rfl, hcap, fun h => by simp at h, fun a ha _ => ?_⟩⟩
      simp only [Option.some.injEq] at ha
      subst ha
      refine ⟨(hRS _ hw1).size, hblk.lt, ?_⟩
      have := hblk.cells.take (u8s s).length
      simpa using this
    have hu' : ∃ b c, u = .slice b s.length c := by
      obtain ⟨w1, hu⟩ := hu
      obtain ⟨s', e1, b1, c1, rfl, -⟩ := (hΦ (idx + 1) _ _ (by simp [EK.node])).2 hu
      have : s = s' := by
        have := congrArg (fun g => match g with | GV.num (.string x) => x.data.toList | _ => []) e1
        simpa [Msk.str] using this
      subst this
      exact ⟨_, _, rfl⟩
    obtain ⟨b1, c1, rfl⟩ := hu'
    refine walk_step (v := .agg #[.int .i64 0, .slice b1 s.length c1, .bool false, .slice none 0 0, .slice none 0 0]) (fun w hw => by
      simp only [RK.val?, ev, updo, upd_same, tzero, fillL, List.map_cons, List.map_nil, Value.cells]; simp [splice]) ?_
    refine h _ (fun j hj => ?_) fun w hkn => ⟨[.int .i64 0, .slice b1 s.length c1, .bool false, .slice none 0 0, .slice none 0 0], ?_, ?_⟩
    · simp only [updo, upd, show j ≠ e by omega, show j ≠ e + 1 by omega, show j ≠ e + 2 by omega, if_false]
    · show updo _ (some (e + 2)) _ (e + 3 - 1) = _
      simp only [updo, upd, show e + 3 - 1 = e + 2 by omega, if_true]
    · have h6 := hkn (idx + 1) (by simp [EK.node])
      simp only [Nat.add_sub_cancel_left, updo, upd, show e + 1 ≠ e + 2 by omega, if_false, if_true] at h6
      obtain ⟨s', e1, h6⟩ := (hΦ (idx + 1) _ _ (by simp [EK.node])).2 h6
      have : s = s' := by
        have := congrArg (fun g => match g with | GV.num (.string x) => x.data.toList | _ => []) e1
        simpa [Msk.str] using this
      subst this
      exact RepT.oct false h6
  | tell f =>
    obtain ⟨gl, rfl, hT⟩ := hg
    obtain ⟨css, rfl, hrl⟩ : ∃ css, cs = css.flatten ∧ RepL O w0 gl css := by
      cases hr with
      | rcd h => exact ⟨_, rfl, h⟩
    simp only [EK.dis, List.cons_append, List.nil_append]
    refine walk_node (fun w1 hw1 _ => ?_) fun u hu => ?_
    · simp only [RK.run, ev, hσ, List.map_cons, List.map_nil]
      have hm1 := hRS w1 hw1
      refine (hk O w1 A o gl css hT (hrl.fresh hm1 (fun x hx => .inl (hS x hx).1) (fun x hx => .inl hx)) (hcw w1 hw1)).mono ?_
      rintro e w2 ⟨cs, rfl, hrep, hm2⟩
      exact ⟨_, rfl, hR0 _ _ hm2, (hΦ idx _ _ (by simp [EK.node])).1 ⟨cs, rfl, hrep.mod (Mod.refl [] _) (by simp) fun b _ hb => Nat.le_trans hm1.size hb⟩⟩
    refine h _ (fun j hj => ?_) fun w hkn => ?_
    · simp only [updo, upd, show j ≠ e by omega, if_false]
    · have h6 := hkn idx (by simp [EK.node])
      simp only [Nat.sub_self, Nat.add_zero] at h6
      obtain ⟨cs', e1, h6⟩ := (hΦ idx _ _ (by simp [EK.node])).2 h6
      exact ⟨cs', by simpa [EK.val, EK.n] using e1, h6⟩
end
end Go.Msk

namespace Go.Msk
open Go.RowKit
set_option maxRecDepth 100000
def own : Value → Option Nat
  | .slice (some a) _ _ => some a.block
  | _ => none
structure LRaw (w : World) (n0 : Nat) (lv : Value) (css : List (List Value)) : Prop where
  five : ∀ cs ∈ css, cs.length = 5
  sl : (lv = .slice none 0 0 ∧ css = []) ∨ ∃ BA cap rest, lv = .slice (some ⟨BA, 0, none⟩) css.length cap ∧ css.length ≤ cap ∧ n0 ≤ BA ∧ Blk w BA (css.flatten ++ rest) ∧ rest.length = (cap - css.length) * 5
theorem LRaw.mod {w w' : World} {n0 : Nat} {lv : Value} {css : List (List Value)} {S : List Nat} (h : LRaw w n0 lv css) (hm : Mod S w w') (hS : ∀ b, own lv = some b → b ∉ S) : LRaw w' n0 lv css := by
  refine ⟨h.five, ?_⟩
  rcases h.sl with h1 | ⟨BA, cap, rest, h1, h2, h3, h4, h5⟩
  · exact .inl h1
  · exact .inr ⟨BA, cap, rest, h1, h2, h3, h4.mod hm (hS _ (by rw [h1]; rfl)), h5⟩
theorem LRaw.own {w : World} {n0 : Nat} {lv : Value} {css : List (List Value)} (h : LRaw w n0 lv css) {b : Nat} (hb : own lv = some b) : n0 ≤ b ∧ b < w.heap.size := by
  rcases h.sl with ⟨h1, -⟩ | ⟨BA, cap, rest, h1, h2, h3, h4, h5⟩
  · rw [h1] at hb; simp [Msk.own] at hb
  · rw [h1] at hb; simp only [Msk.own, Option.some.injEq] at hb; subst hb; exact ⟨h3, h4.lt⟩
theorem flat5 {css : List (List Value)} (h : ∀ cs ∈ css, cs.length = 5) : css.flatten.length = css.length * 5 := flatten_length h
theorem splice_end {p r es : List Value} {o : Nat} (h : p.length = o) : splice (p ++ r) o es = p ++ (es ++ r.drop es.length) := by
  subst h
  unfold splice
  rw [List.take_left, List.drop_length_add_append]
theorem flat_snoc (css : List (List Value)) (es : List Value) : (css ++ [es]).flatten = css.flatten ++ es := by simp
section
variable {P : Program}
theorem append_tree {σ : Sl} {w : World} {x y : Operand} {lv : Value} {css : List (List Value)} {es : List Value} {n0 sb : Nat} {K : Value → World → Prop} (hx : ev σ x = lv) (hraw : LRaw w n0 lv css) (hn0 : n0 ≤ w.heap.size)
    (hy : ev σ y = .slice (some ⟨sb, 0, none⟩) 1 1) (hsb : Blk w sb es) (h5 : es.length = 5) (hone : ∀ v ∈ es, v.oneCell' = true) (hl : css.length ≤ 2147483647)
    (hK : ∀ lv' w', LRaw w' n0 lv' (css ++ [es]) → (((own lv' = own lv ∧ Mod (own lv).toList w w') ∧ ∃ BA c, lv = .slice (some ⟨BA, 0, none⟩) css.length c ∧ css.length + 1 ≤ c) ∨ (own lv' = some w.heap.size ∧ Mod [] w w')) → K lv' w') : (RK.append x y 5 88).run P σ w K := by
  have hsrc : srcCells w 5 (.slice (some ⟨sb, 0, none⟩) 1 1) = some (1, es) := by
    simp only [srcCells, cellsAt_of' hsb.cells (n := 1 * 5) (by omega), Option.map_some]
  simp only [RK.run, hx, hy]
  have h5' : ∀ cs ∈ css ++ [es], cs.length = 5 := fun cs hc => by
    rcases List.mem_append.1 hc with hc | hc
    · exact hraw.five cs hc
    · simp only [List.mem_singleton] at hc; subst hc; exact h5
  have hfl := flat5 hraw.five
  rcases hraw.sl with ⟨rfl, rfl⟩ | ⟨BA, cap, rest, rfl, h2, h3, h4, hr⟩
  · simp only [hsrc, appendRun]
    rw [if_neg (by omega)]
    refine ⟨by omega, by omega, ?_⟩
    intro T cap rest hc hr
    refine hK _ _ ⟨h5', .inr ⟨w.heap.size, cap, rest, rfl, by simpa using hc, hn0, ?_, by simpa using hr⟩⟩ (.inr ⟨rfl, (Mod.drew _ _).trans (Mod.alloc _ _ _)⟩)
    have := Blk.new w.drew (es ++ rest) T
    simpa using this
  · simp only [hsrc, appendRun]
    by_cases hc : css.length + 1 ≤ cap
    · rw [if_pos hc]
      simp only [Addr.add_mk, Nat.zero_add]
      refine ⟨stOk_many h4 (by simp only [List.length_append]; omega) hone, hK _ _ ⟨h5', .inr ⟨BA, cap, rest.drop 5, by simp, by simpa using hc, h3, ?_, by simp; omega⟩⟩ (.inl ⟨⟨rfl, by simpa [own] using Mod.put (by simp)⟩, BA, cap, rfl, hc⟩)⟩
      have hput := h4.put (o := css.length * 5) (vs := es) (by simp only [List.length_append]; omega)
      have : splice (css.flatten ++ rest) (css.length * 5) es = (css ++ [es]).flatten ++ rest.drop 5 := by
        rw [splice_end hfl, h5, flat_snoc, List.append_assoc]
      rwa [this] at hput
    · rw [if_neg hc]
      refine ⟨by omega, by omega, ?_⟩
      have hco : cellsAt w ⟨BA, 0, none⟩ 0 (css.length * 5) = some css.flatten := by
        have := h4.cells.take css.flatten.length
        rw [List.take_left] at this
        exact cellsAt_of' this hfl
      simp only [hco]
      intro T cap' rest' hc' hr'
      refine hK _ _ ⟨h5', .inr ⟨w.heap.size, cap', rest', by simp, by simpa using hc', hn0, ?_, by simpa using hr'⟩⟩ (.inr ⟨rfl, (Mod.drew _ _).trans (Mod.alloc _ _ _)⟩)
      have := Blk.new w.drew (css.flatten ++ (es ++ rest')) T
      simpa using this
theorem LRaw.setLast {w : World} {n0 : Nat} {lv : Value} {css : List (List Value)} {es cs : List Value} (h : LRaw w n0 lv (css ++ [es])) (h5 : cs.length = 5) (hone : ∀ v ∈ cs, v.oneCell' = true) :
    ∃ BA cap, lv = .slice (some ⟨BA, 0, none⟩) (css.length + 1) cap ∧ n0 ≤ BA ∧ StOk w ⟨BA, css.length * 5, none⟩ cs ∧ LRaw (putCells w ⟨BA, css.length * 5, none⟩ 0 cs) n0 lv (css ++ [cs]) ∧
      Mod [BA] w (putCells w ⟨BA, css.length * 5, none⟩ 0 cs) := by
  have hes : es.length = 5 := h.five es (by simp)
  have h5c : ∀ c ∈ css, c.length = 5 := fun c hc => h.five c (by simp [hc])
  have hfl := flat5 h5c
  rcases h.sl with ⟨-, h1⟩ | ⟨BA, cap, rest, rfl, h2, h3, h4, hr⟩
  · simp at h1
  · refine ⟨BA, cap, by simp, h3, ?_, ⟨fun c hc => ?_, .inr ⟨BA, cap, rest, by simp, by simpa using h2, h3, ?_, by simpa using hr⟩⟩, Mod.put (by simp)⟩
    · exact stOk_many h4 (by rw [flat_snoc]; simp only [List.length_append]; omega) hone
    · rcases List.mem_append.1 hc with hc | hc
      · exact h5c c hc
      · simp only [List.mem_singleton] at hc; subst hc; exact h5
    · have hput := h4.put (o := css.length * 5) (vs := cs) (by rw [flat_snoc]; simp only [List.length_append]; omega)
      have : splice ((css ++ [es]).flatten ++ rest) (css.length * 5) cs = (css ++ [cs]).flatten ++ rest := by
        rw [flat_snoc, flat_snoc, List.append_assoc, splice_mid hfl (by omega), List.append_assoc]
      rwa [this] at hput
structure LS (w0 w : World) (Tb Lb n : Nat) (pre post : List Value) (nl : Bool) (lv : Value) (ts : List TR) (tcs : List (List Value)) : Prop where
  tw : TW w Tb Lb n (pre ++ ([.int .i64 0, .slice none 0 0, .bool nl, lv, .slice none 0 0] ++ post))
  raw : LRaw w w0.heap.size lv tcs
  rep : RepTL (fun b => w0.heap.size ≤ b ∧ own lv ≠ some b) w ts tcs
  mod : Mod [Lb] w0 w
  ltb : Tb < w0.heap.size
  llb : Lb < w0.heap.size
theorem TW.mod {w w' : World} {Tb Lb n : Nat} {cs : List Value} {S : List Nat} (h : TW w Tb Lb n cs) (hm : Mod S w w') (h1 : Tb ∉ S) (h2 : Lb ∉ S) : TW w' Tb Lb n cs := ⟨h.tb.mod hm h1, h.lb.mod hm h2, h.ne⟩
theorem LS.same {w0 w w' : World} {Tb Lb n : Nat} {pre post : List Value} {nl : Bool} {lv : Value} {ts : List TR} {tcs : List (List Value)} (h : LS w0 w Tb Lb n pre post nl lv ts tcs) (hm : Mod [] w w') : LS w0 w' Tb Lb n pre post nl lv ts tcs :=
  ⟨h.tw.mod hm (by simp) (by simp), h.raw.mod hm (by simp), h.rep.mod hm (by simp) (fun _ _ h => h), h.mod.trans hm.nil, h.ltb, h.llb⟩
theorem LS.appended {w0 w wr w' : World} {Tb Lb n : Nat} {pre post : List Value} {nl : Bool} {lv lv' : Value} {ts : List TR} {tcs : List (List Value)} (h : LS w0 w Tb Lb n pre post nl lv ts tcs)
    (hown : (own lv' = own lv ∧ Mod (own lv).toList w w') ∨ (own lv' = some w.heap.size ∧ Mod [] w w')) (hwr : ∀ b, own lv = some b → b < wr.heap.size) (hr0 : w0.heap.size ≤ wr.heap.size) :
    TW w' Tb Lb n (pre ++ ([.int .i64 0, .slice none 0 0, .bool nl, lv, .slice none 0 0] ++ post)) ∧ RepTL (fun b => w0.heap.size ≤ b ∧ own lv' ≠ some b) w' ts tcs ∧ Mod [Lb] w0 w' ∧
    ∀ t cs, RepT (fun b => wr.heap.size ≤ b) w t cs → RepT (fun b => w0.heap.size ≤ b ∧ own lv' ≠ some b) w' t cs := by
  have hlt : ∀ b, own lv = some b → w0.heap.size ≤ b := fun b hb => (h.raw.own hb).1
  have h1 := h.ltb
  have h2 := h.llb
  rcases hown with ⟨ho, hm⟩ | ⟨ho, hm⟩
  · have hS : ∀ b ∈ (own lv).toList, own lv = some b := fun b hb => by simpa using hb
    refine ⟨h.tw.mod hm (fun hc => by have := hlt _ (hS _ hc); omega) (fun hc => by have := hlt _ (hS _ hc); omega), h.rep.mod hm (fun b hb hc => hc.2 (hS b hb)) (fun b _ hb => by rw [ho]; exact hb), ?_, fun t cs ht => ?_⟩
    · refine ⟨hm.os.trans h.mod.os, hm.tape.trans h.mod.tape, hm.output.trans h.mod.output, Nat.le_trans h.mod.size hm.size, fun k hk hn => ?_⟩
      rw [hm.block k (Nat.lt_of_lt_of_le hk h.mod.size) (fun hc => by have := hlt _ (hS _ hc); omega)]
      exact h.mod.block k hk hn
    · refine ht.mod hm (fun b hb hc => by have := hwr _ (hS _ hb); omega) fun b _ hb => ⟨by omega, fun hc => ?_⟩
      rw [ho] at hc
      have := hwr _ hc; omega
  · refine ⟨h.tw.mod hm (by simp) (by simp), h.rep.mod hm (by simp) (fun b hb hc => ⟨hc.1, fun e => ?_⟩), h.mod.trans hm.nil, fun t cs ht => ht.mod hm (by simp) fun b hb hc => ⟨by omega, fun e => ?_⟩⟩
    · rw [ho] at e; simp only [Option.some.injEq] at e; omega
    · rw [ho] at e; simp only [Option.some.injEq] at e; omega
theorem TW.setL {w : World} {Tb Lb n i : Nat} {pre post : List Value} {nl : Bool} {lv lv' : Value} (h : TW w Tb Lb n (pre ++ ([.int .i64 0, .slice none 0 0, .bool nl, lv, .slice none 0 0] ++ post))) (hpre : pre.length = i * 5) (hone : lv'.cells = #[lv']) (h1 : lv'.oneCell' = true) :
    StOk w ⟨Lb, i * 5 + 3, none⟩ lv'.cells.toList ∧ TW (putCells w ⟨Lb, i * 5 + 3, none⟩ 0 lv'.cells.toList) Tb Lb n (pre ++ ([.int .i64 0, .slice none 0 0, .bool nl, lv', .slice none 0 0] ++ post)) ∧
      Mod [Lb] w (putCells w ⟨Lb, i * 5 + 3, none⟩ 0 lv'.cells.toList) := by
  rw [hone]
  have hput : Mod [Lb] w (putCells w ⟨Lb, i * 5 + 3, none⟩ 0 [lv']) := Mod.put (by simp)
  refine ⟨stOk_many h.lb (by simp; omega) (by simpa using h1), ⟨h.tb.mod hput (by simpa using h.ne), ?_, h.ne⟩, hput⟩
  have hp := h.lb.put (o := i * 5 + 3) (vs := [lv']) (by simp; omega)
  have : splice (pre ++ ([.int .i64 0, .slice none 0 0, .bool nl, lv, .slice none 0 0] ++ post)) (i * 5 + 3) [lv'] = pre ++ ([.int .i64 0, .slice none 0 0, .bool nl, lv', .slice none 0 0] ++ post) := by
    have e1 : ∀ x, pre ++ ([.int .i64 0, .slice none 0 0, .bool nl, x, .slice none 0 0] ++ post) = (pre ++ [.int .i64 0, .slice none 0 0, .bool nl]) ++ ([x] ++ ([.slice none 0 0] ++ post)) := fun x => by simp
    rw [e1, e1]
    exact splice_mid (old := [lv]) (vs := [lv']) (by simp only [List.length_append, List.length_cons, List.length_nil]; omega) rfl
  rwa [this] at hp
end
end Go.Msk
