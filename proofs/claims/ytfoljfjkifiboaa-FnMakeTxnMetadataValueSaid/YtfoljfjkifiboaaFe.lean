/- A small language of resolved operations, and what the generic and the generated functions do in it (part 5). -/
import Derived.Test.YtfoljfjkifiboaaFd
import Derived.ProofKit
import Derived.LaidMore
import Derived.OpenShut
import Derived.Stop.Joined

namespace Go.Msk
open Go.RowKit
set_option maxRecDepth 100000
def putTag : List (Nat × List UInt8) → Nat → List UInt8 → List (Nat × List UInt8)
  | [], k, l => [(k, l)]
  | (k', l') :: m, k, l => if k = k' then (k, l) :: m else (k', l') :: putTag m k l
def rdTagsN : Nat → List (Nat × List UInt8) → RS → List (Nat × List UInt8) × RS
  | 0, m, s => (m, s)
  | n + 1, m, s => rdTagsN n (putTag m (rdUv s).1 ((rdSpan (rdUv (rdUv s).2).1 (rdUv (rdUv s).2).2).1.getD [])) (rdSpan (rdUv (rdUv s).2).1 (rdUv (rdUv s).2).2).2
def rdTags (s : RS) : List (Nat × List UInt8) × RS := rdTagsN (rdUv s).1 [] (rdUv s).2
theorem putTag_keys : ∀ (m : List (Nat × List UInt8)) (k : Nat) (l : List UInt8), (putTag m k l).map (·.1) = if k ∈ m.map (·.1) then m.map (·.1) else m.map (·.1) ++ [k]
  | [], k, l => by simp [putTag]
  | (k', l') :: m, k, l => by
    have ih := putTag_keys m k l
    simp only [putTag]
    by_cases h : k = k'
    · subst h; simp
    · rw [if_neg h]
      simp only [List.map_cons, ih, List.mem_cons, h, false_or]
      split <;> simp
theorem putTag_nodup {m : List (Nat × List UInt8)} {k : Nat} {l : List UInt8} (h : (m.map (·.1)).Nodup) : ((putTag m k l).map (·.1)).Nodup := by
  rw [putTag_keys]
  split
  · exact h
  · rename_i hk
    rw [List.nodup_append]
    refine ⟨h, by simp, fun a ha b hb => ?_⟩
    simp only [List.mem_singleton] at hb
    subst hb
    exact fun e => hk (e ▸ ha)
def putE : List MapEntry → Nat → Nat → Value → List MapEntry
  | [], c, k, v => [{ key := .int .u32 k, val := v, born := c }]
  | e :: r, c, k, v => if keyIs k e = true then { e with key := .int .u32 k, val := v } :: r else e :: putE r c k v
theorem putE_some (c k : Nat) (v : Value) : ∀ (l : List MapEntry) (i : Nat), l.findIdx? (keyIs k) = some i → l.modify i (fun e => { e with key := .int .u32 k, val := v }) = putE l c k v
  | [], i, h => by simp at h
  | e :: r, i, h => by
    rw [List.findIdx?_cons] at h
    simp only [putE]
    split at h
    · rename_i he
      simp only [Option.some.injEq] at h; subst h
      rw [if_pos he]; rfl
    · rename_i he
      rw [if_neg he]
      cases hr : r.findIdx? (keyIs k) with
      | none => simp [hr] at h
      | some j =>
        simp only [hr, Option.map_some, Option.some.injEq] at h
        subst h
        rw [List.modify_succ_cons, putE_some c k v r j hr]
theorem putE_none (c k : Nat) (v : Value) : ∀ (l : List MapEntry), l.findIdx? (keyIs k) = none → l ++ [{ key := .int .u32 k, val := v, born := c }] = putE l c k v
  | [], _ => rfl
  | e :: r, h => by
    rw [List.findIdx?_cons] at h
    split at h
    · simp at h
    · rename_i he
      simp only [Option.map_eq_none_iff] at h
      simp only [putE, if_neg he, List.cons_append, putE_none c k v r h]
theorem mapPut_list (es : Array MapEntry) (clock k : Nat) (v : Value) (hb : (es.toList.map (·.born)).Nodup) (hc : ∀ e ∈ es.toList, e.born < clock) :
    ∃ es' c', mapPut es clock .u32 k v = .map es' c' ∧ es'.toList = putE es.toList clock k v ∧ (es'.toList.map (·.born)).Nodup ∧ ∀ e ∈ es'.toList, e.born < c' := by
  unfold mapPut
  cases hf : es.toList.findIdx? (keyIs k) with
  | none =>
    refine ⟨_, _, rfl, ?_, ?_, ?_⟩
    · rw [Array.toList_push]; exact putE_none clock k v _ hf
    · rw [Array.toList_push, List.map_append, List.nodup_append]
      refine ⟨hb, by simp, fun a ha b hb' => ?_⟩
      simp only [List.map_cons, List.map_nil, List.mem_singleton] at hb'
      obtain ⟨e, he, rfl⟩ := List.mem_map.1 ha
      have := hc e he
      omega
    · intro e he
      rw [Array.toList_push, List.mem_append] at he
      rcases he with he | he
      · have := hc e he; omega
      · simp only [List.mem_singleton] at he; subst he; simp
  | some i =>
    have hm : (es.modify i fun e => { e with key := .int .u32 k, val := v }).toList = putE es.toList clock k v := by
      rw [Array.toList_modify]; exact putE_some clock k v _ i hf
    have hmap : (putE es.toList clock k v).map (·.born) = es.toList.map (·.born) := by
      rw [← putE_some clock k v _ i hf]
      apply List.ext_getElem?
      intro j
      simp only [List.getElem?_map, List.getElem?_modify]
      cases es.toList[j]? with
      | none => simp
      | some e => simp only [Option.map_some]; split <;> rfl
    refine ⟨_, _, rfl, hm, by rw [hm, hmap]; exact hb, fun e he => ?_⟩
    rw [hm] at he
    have : e.born ∈ (putE es.toList clock k v).map (·.born) := List.mem_map.2 ⟨e, he, rfl⟩
    rw [hmap] at this
    obtain ⟨e', he', h⟩ := List.mem_map.1 this
    rw [← h]; exact hc e' he'
theorem EntL.put {ok : Nat → Prop} {w : World} {c k : Nat} {v : Value} {l : List UInt8} (hk : k < 4294967296) (hv : SlC ok w v l.length (u8s l)) {es : List MapEntry} {m : List (Nat × List UInt8)} (h : EntL ok w es m) : EntL ok w (putE es c k v) (putTag m k l) := by
  induction h with
  | nil => exact .cons rfl hk hv .nil
  | @cons e k' l' es m h1 h2 h3 h4 ih =>
    have hki : keyIs k e = decide (k = k') := by
      unfold keyIs; rw [h1]
      by_cases hkk : k = k'
      · simp [hkk]
      · have : ¬ (k : Int) = k' := by omega
        simp [hkk, this]
    simp only [putE, putTag, hki, decide_eq_true_eq]
    split
    · exact .cons rfl hk hv h4
    · exact .cons h1 h2 h3 ih
theorem EntL.keys {ok : Nat → Prop} {w : World} {es : List MapEntry} {m : List (Nat × List UInt8)} (h : EntL ok w es m) : ∀ e ∈ es, ∃ a, e.key = .int .u32 a := by
  induction h with
  | nil => simp
  | cons h1 _ _ _ ih =>
    intro e he
    rcases List.mem_cons.1 he with rfl | he
    · exact ⟨_, h1⟩
    · exact ih e he
theorem Mod.putObj {w : World} {r : Nat} {o : Obj} {S : List Nat} (hr : r ∈ S) : Mod S w (Msk.putObj w r o) := by
  refine ⟨rfl, rfl, rfl, by simp [Msk.putObj], fun k hk hkS => ?_⟩
  simp only [Msk.putObj]
  exact Array.getElem?_setIfInBounds_ne (fun e => hkS (by rw [← e]; exact hr))
theorem putObj_get {w : World} {r : Nat} {o : Obj} (h : r < w.heap.size) : (putObj w r o).heap[r]? = some o := by
  simp [putObj, h]
def TagM (ok : Nat → Prop) (w : World) (v : Value) (m : List (Nat × List UInt8)) : Prop :=
  (v = .map none ∧ m = []) ∨ ∃ r, v = .map (some r) ∧ MapRep ok w r m
section
variable {P : Program} {F : Nat → Nat}
end
end Go.Msk

namespace Go.Msk
open Go.RowKit
set_option maxRecDepth 100000
def decStd : Dec where
  len := fun x s => if x then rdCArrayLen s else rdArrayLen s
  prim := fun p x s => match p with
    | .bool => (.num (.bool (decide ((rdN 1 s).1 ≠ 0))), (rdN 1 s).2)
    | .i8 => (.num (.int .i8 (IntKind.i8.wrap (rdN 1 s).1)), (rdN 1 s).2)
    | .i16 => (.num (.int .i16 (IntKind.i16.wrap (rdN 2 s).1)), (rdN 2 s).2)
    | .u16 => (.num (.int .u16 (rdN 2 s).1), (rdN 2 s).2)
    | .i32 => (.num (.int .i32 (IntKind.i32.wrap (rdN 4 s).1)), (rdN 4 s).2)
    | .u32 => (.num (.int .u32 (rdN 4 s).1), (rdN 4 s).2)
    | .i64 => (.num (.int .i64 (IntKind.i64.wrap (rdN 8 s).1)), (rdN 8 s).2)
    | .uuid => (.arr (rdUuid s).1, (rdUuid s).2)
    | .str => if x then (.num (str (rdCString s).1), (rdCString s).2) else (.num (str (rdString s).1), (rdString s).2)
    | .nstr => if x then (.nstr (rdCNullableString s).1, (rdCNullableString s).2) else (.nstr (rdNullableString s).1, (rdNullableString s).2)
    | .byt => if x then (.byt (rdCBytes s).1, (rdCBytes s).2) else (.byt (rdBytes s).1, (rdBytes s).2)
    | .nbyt => if x then (.byt (rdCNullableBytes s).1, (rdCNullableBytes s).2) else (.byt (rdNullableBytes s).1, (rdNullableBytes s).2)
  tags := rdTags
structure Lib (P : Program) (F : Nat → Nat) (has : Nat → Bool) : Prop where
  mixed : P.follows .mixedOrders = true
  beUint16 : has Msk.beUint16 = true → liftF P (F Msk.beUint16) = some (ir_beUint16 F)
  beUint32 : has Msk.beUint32 = true → liftF P (F Msk.beUint32) = some (ir_beUint32 F)
  beUint64 : has Msk.beUint64 = true → liftF P (F Msk.beUint64) = some (ir_beUint64 F)
  kUvarint : has Msk.kUvarint = true → liftF P (F Msk.kUvarint) = some (ir_kUvarint F)
  kUnsafeString : has Msk.kUnsafeString = true → liftF P (F Msk.kUnsafeString) = some (ir_kUnsafeString F)
  rOk : has Msk.rOk = true → liftF P (F Msk.rOk) = some (ir_rOk F)
  rComplete : has Msk.rComplete = true → liftF P (F Msk.rComplete) = some (ir_rComplete F)
  rSpan : has Msk.rSpan = true → liftF P (F Msk.rSpan) = some (ir_rSpan F)
  rUvarint : has Msk.rUvarint = true → liftF P (F Msk.rUvarint) = some (ir_rUvarint F)
  rReadUint64 : has Msk.rReadUint64 = true → liftF P (F Msk.rReadUint64) = some (ir_rReadUint64 F)
  rBool : has Msk.rBool = true → liftF P (F Msk.rBool) = some (ir_rBool F)
  rInt8 : has Msk.rInt8 = true → liftF P (F Msk.rInt8) = some (ir_rInt8 F)
  rInt16 : has Msk.rInt16 = true → liftF P (F Msk.rInt16) = some (ir_rInt16 F)
  rUint16 : has Msk.rUint16 = true → liftF P (F Msk.rUint16) = some (ir_rUint16 F)
  rInt32 : has Msk.rInt32 = true → liftF P (F Msk.rInt32) = some (ir_rInt32 F)
  rInt64 : has Msk.rInt64 = true → liftF P (F Msk.rInt64) = some (ir_rInt64 F)
  rUuid : has Msk.rUuid = true → liftF P (F Msk.rUuid) = some (ir_rUuid F)
  rString : has Msk.rString = true → liftF P (F Msk.rString) = some (ir_rString F)
  rUnsafeString : has Msk.rUnsafeString = true → liftF P (F Msk.rUnsafeString) = some (ir_rUnsafeString F)
  rCompactString : has Msk.rCompactString = true → liftF P (F Msk.rCompactString) = some (ir_rCompactString F)
  rUnsafeCompactString : has Msk.rUnsafeCompactString = true → liftF P (F Msk.rUnsafeCompactString) = some (ir_rUnsafeCompactString F)
  rNullableString : has Msk.rNullableString = true → liftF P (F Msk.rNullableString) = some (ir_rNullableString F)
  rUnsafeNullableString : has Msk.rUnsafeNullableString = true → liftF P (F Msk.rUnsafeNullableString) = some (ir_rUnsafeNullableString F)
  rCompactNullableString : has Msk.rCompactNullableString = true → liftF P (F Msk.rCompactNullableString) = some (ir_rCompactNullableString F)
  rUnsafeCompactNullableString : has Msk.rUnsafeCompactNullableString = true → liftF P (F Msk.rUnsafeCompactNullableString) = some (ir_rUnsafeCompactNullableString F)
  rBytes : has Msk.rBytes = true → liftF P (F Msk.rBytes) = some (ir_rBytes F)
  rCompactBytes : has Msk.rCompactBytes = true → liftF P (F Msk.rCompactBytes) = some (ir_rCompactBytes F)
  rNullableBytes : has Msk.rNullableBytes = true → liftF P (F Msk.rNullableBytes) = some (ir_rNullableBytes F)
  rCompactNullableBytes : has Msk.rCompactNullableBytes = true → liftF P (F Msk.rCompactNullableBytes) = some (ir_rCompactNullableBytes F)
  rArrayLen : has Msk.rArrayLen = true → liftF P (F Msk.rArrayLen) = some (ir_rArrayLen F)
  rCompactArrayLen : has Msk.rCompactArrayLen = true → liftF P (F Msk.rCompactArrayLen) = some (ir_rCompactArrayLen F)
  tSet : has Msk.tSet = true → liftF P (F Msk.tSet) = some (ir_tSet F)
  tRead : has Msk.tRead = true → liftF P (F Msk.tRead) = some (ir_tRead F)
def hasAll (has : Nat → Bool) (l : List Nat) : Bool := l.all has
theorem hasAll_mem {has : Nat → Bool} {l : List Nat} (h : hasAll has l = true) : ∀ c ∈ l, has c = true := by
  unfold hasAll at h; rwa [List.all_eq_true] at h
def selOk (F : Nat → Nat) (has : Nat → Bool) (p : PK) (u x : Bool) (f : FuncId) : Bool :=
  let ok (c : Nat) (l : List Nat) : Bool := f == F c && hasAll has (c :: l)
  match p with
  | .bool => ok rBool []
  | .i8 => ok rInt8 []
  | .i16 => ok rInt16 [beUint16]
  | .u16 => ok rUint16 [beUint16]
  | .i32 => ok rInt32 [beUint32]
  | .u32 => false
  | .i64 => ok rInt64 [rReadUint64, beUint64]
  | .uuid => ok rUuid [rSpan]
  | .str => match u, x with
    | true, true => ok rUnsafeCompactString [rUvarint, kUvarint, rSpan, kUnsafeString]
    | true, false => ok rUnsafeString [rInt16, beUint16, rSpan, kUnsafeString]
    | false, true => ok rCompactString [rUvarint, kUvarint, rSpan]
    | false, false => ok rString [rInt16, beUint16, rSpan]
  | .nstr => match u, x with
    | true, true => ok rUnsafeCompactNullableString [rUvarint, kUvarint, rSpan, kUnsafeString]
    | true, false => ok rUnsafeNullableString [rInt16, beUint16, rSpan, kUnsafeString]
    | false, true => ok rCompactNullableString [rUvarint, kUvarint, rSpan]
    | false, false => ok rNullableString [rInt16, beUint16, rSpan]
  | .byt => if x then ok rCompactBytes [rUvarint, kUvarint, rSpan] else ok rBytes [rInt32, beUint32, rSpan]
  | .nbyt => if x then ok rCompactNullableBytes [rUvarint, kUvarint, rSpan] else ok rNullableBytes [rInt32, beUint32, rSpan]
def lenOk (F : Nat → Nat) (has : Nat → Bool) (x : Bool) (f : FuncId) : Bool :=
  if x then f == F rCompactArrayLen && hasAll has [rCompactArrayLen, rUvarint, kUvarint] else f == F rArrayLen && hasAll has [rArrayLen, rInt32, beUint32]
section
variable {P : Program} {F : Nat → Nat} {has : Nat → Bool} {f : FuncId}
variable (L : Lib P F has)
include L
end
end Go.Msk

namespace Go.Msk
open Go.RowKit
set_option maxRecDepth 100000
def dfL : List (Nat × Value) → Nat → List IC
  | [], _ => []
  | (off, v) :: r, t => .blk [⟨some t, .mv (.tmp 0), none⟩, ⟨some (t + 1), .nilc (.tmp t), none⟩, ⟨some (t + 2), .fad (.tmp (t + 1)) off, none⟩, ⟨none, .st (.tmp (t + 2)) 1 (.const v), none⟩] :: dfL r (t + 3)
def dfGen (l : List (Nat × Value)) : IC × List RV × Nat := (seqs (dfL l 2), [], 2 + 3 * l.length)
def dfRes : List (Nat × Value) → List Value → List Value
  | [], z => z
  | (off, v) :: r, z => dfRes r (z.set off v)
def dfOk (l : List (Nat × Value)) (n : Nat) : Prop := ∀ p ∈ l, p.1 < n ∧ p.2.cells = #[p.2] ∧ p.2.oneCell' = true
section
variable {P : Program}
end
end Go.Msk

namespace Go.Msk
open Go.RowKit
set_option maxRecDepth 100000
def Sc.okB (F : Nat → Nat) (has : Nat → Bool) (u x : Bool) : Sc → Bool
  | .nil => true
  | .prm _ _ r p d rest => selOk F has p u x (r.sel u x) && decide (p.size = d.size) && rest.okB F has u x
  | .enm _ _ r p d rest => selOk F has p u x (r.sel u x) && decide (p.size = d.size) && rest.okB F has u x
  | .lsp _ len bytes d _ r p rest => lenOk F has x (len.sel u x) && decide (bytes.b ≤ 32768) && selOk F has p u x (r.sel u x) && decide (p.size = d.size) && rest.okB F has u x
  | .lss _ len bytes z _ body rest => lenOk F has x (len.sel u x) && decide (bytes.b ≤ 32768) && decide (z.length = body.size) && body.okB F has u x && rest.okB F has u x
  | .sub _ _ body rest => body.okB F has u x && rest.okB F has u x
  | .tags f => !x || (f == F tRead && hasAll has [tRead, rUvarint, kUvarint, rSpan, tSet])
  | .uid _ f rest => selOk F has .uuid u x f && rest.okB F has u x
  | .vst _ _ r1 r2 rest => selOk F has .str u x (r1.sel u x) && selOk F has .nstr u x (r2.sel u x) && rest.okB F has u x
def Sc.dfs : Sc → List (FuncId × List Value × List Value)
  | .nil => []
  | .prm _ _ _ _ _ rest => rest.dfs
  | .enm _ _ _ _ _ rest => rest.dfs
  | .lsp _ _ _ _ _ _ _ rest => rest.dfs
  | .lss _ _ _ z dfl body rest => (dfl, z, body.dcs.flatten) :: (body.dfs ++ rest.dfs)
  | .sub _ dfl body rest => (dfl, body.dcs.flatten, body.dcs.flatten) :: (body.dfs ++ rest.dfs)
  | .tags _ => []
  | .uid _ _ rest => rest.dfs
  | .vst _ _ _ _ rest => rest.dfs
def DfsOk (P : Program) : List (FuncId × List Value × List Value) → Prop
  | [] => True
  | p :: l => DfC P p.1 p.2.1 p.2.2 ∧ DfsOk P l
def Top.okB (F : Nat → Nat) (has : Nat → Bool) (T : Top) : Bool :=
  (match T.rv with | none => true | some f => f == F rInt16 && hasAll has [rInt16, beUint16]) && (!T.sc.lists || (T.ok == F rOk && has rOk)) && (T.cpl == F rComplete && has rComplete) &&
  T.sc.okB F has true false && T.sc.okB F has false false && (T.flex.isNone || (T.sc.okB F has true true && T.sc.okB F has false true))
end Go.Msk

namespace Go.Msk
open Go.RowKit Go.ChangeShapes Go.WideShapes Go.ChangeAt
set_option maxRecDepth 100000
theorem Mod.keptBut {W W' : World} (h : Mod [] W W') (may : MemPlace → Prop) : W.keptBut W' may := by
  refine ⟨h.os, h.output, fun i hi => ?_⟩
  rw [h.block i hi (by simp)]
  cases W.heap[i]? with
  | none => rfl
  | some o => cases o <;> simp
theorem post_of_mod {H : Type} {enc : TypeId × Value → H} {P : Program} {f : Func} {s : ChangeSpec} {apart fresh handsOn : Bool} {W W' : World} {args : Array Value} {v : Value} {ds gs : List (DataW H)} {before pa pv : List MemPlace}
    (hW : DataW.Whole enc P f.params.toList s.vars apart W args.toList ds gs before)
    (hres : ∀ b : Nat, DataW.TrodAll enc P W' b (fun _ => false) handsOn f.resultTypes.toList (v.resultList f.resultTypes.size) (s.fn H (ds ++ gs)).results [])
    (hargs : DataW.TrodAll enc P W' 0 (fun b => decide (b < W.heap.size)) true f.params.toList args.toList (s.fn H (ds ++ gs)).args pa)
    (hvars : DataW.TrodVars enc P W' (fun b => decide (b < W.heap.size)) s.vars (s.fn H (ds ++ gs)).vars pv) (hm : Mod [] W W') : s.post enc P f apart fresh handsOn false W args v W' :=
  ⟨ds, gs, before, [], pa, pv, hW, hres _, hargs, hvars, hm.keptBut _, fun h => by simp at h⟩
theorem u8_of {n : Int} (h : (Lit.int .u8 n).wf = true) : 0 ≤ n ∧ n < 256 := by
  simp only [Lit.wf, Bool.and_eq_true, decide_eq_true_eq] at h
  have h1 : IntKind.u8.min = 0 := by rfl
  have h2 : IntKind.u8.max = 255 := by rfl
  omega
section
variable {H : Type} {enc : TypeId × Value → H} {P : Program} {W : World}
end
end Go.Msk

namespace Go.Msk
open Go.RowKit
set_option maxRecDepth 100000
inductive TR where
  | mk (n : Int) (s : List UInt8) (null : Bool) (l : List TR) (u : List (Nat × List UInt8))
  deriving Inhabited
inductive RepU (ok : Nat → Prop) (w : World) : List (Nat × List UInt8) → List (List Value) → Prop
  | nil : RepU ok w [] []
  | cons {k : Nat} {b : List UInt8} {u : List (Nat × List UInt8)} {v : Value} {css : List (List Value)} : SlC ok w v b.length (u8s b) → RepU ok w u css → RepU ok w ((k, b) :: u) ([.int .u32 k, v] :: css)
mutual
inductive RepT (ok : Nat → Prop) (w : World) : TR → List Value → Prop
  | mk {n : Int} {s : List UInt8} {null : Bool} {l : List TR} {u : List (Nat × List UInt8)} {sv lv uv : Value} {css uss : List (List Value)} : SlC ok w sv s.length (u8s s) → SlC ok w lv l.length css.flatten → RepTL ok w l css →
      SlC ok w uv u.length uss.flatten → RepU ok w u uss → RepT ok w (.mk n s null l u) [.int .i64 n, sv, .bool null, lv, uv]
inductive RepTL (ok : Nat → Prop) (w : World) : List TR → List (List Value) → Prop
  | nil : RepTL ok w [] []
  | cons {t : TR} {l : List TR} {cs : List Value} {css : List (List Value)} : RepT ok w t cs → RepTL ok w l css → RepTL ok w (t :: l) (cs :: css)
end
theorem RepU.mod {ok ok' : Nat → Prop} {S : List Nat} {w w' : World} {u : List (Nat × List UInt8)} {css : List (List Value)} (h : RepU ok w u css) (hm : Mod S w w') (hS : ∀ b ∈ S, ¬ ok b) (ho : ∀ b, b < w.heap.size → ok b → ok' b) : RepU ok' w' u css := by
  induction h with
  | nil => exact .nil
  | cons h _ ih => exact .cons (h.mod hm hS ho) ih
theorem RepT.mod {ok ok' : Nat → Prop} {S : List Nat} {w w' : World} (hm : Mod S w w') (hS : ∀ b ∈ S, ¬ ok b) (ho : ∀ b, b < w.heap.size → ok b → ok' b) {t : TR} {cs : List Value} (h : RepT ok w t cs) : RepT ok' w' t cs := by
  refine RepT.rec (motive_1 := fun t cs _ => RepT ok' w' t cs) (motive_2 := fun l css _ => RepTL ok' w' l css) ?_ ?_ ?_ h
  · intro n s null l u sv lv uv css uss h1 h2 _ h4 h5 ih
    exact .mk (h1.mod hm hS ho) (h2.mod hm hS ho) ih (h4.mod hm hS ho) (h5.mod hm hS ho)
  · exact .nil
  · intro t l cs css _ _ ih1 ih2; exact .cons ih1 ih2
theorem RepTL.mod {ok ok' : Nat → Prop} {S : List Nat} {w w' : World} (hm : Mod S w w') (hS : ∀ b ∈ S, ¬ ok b) (ho : ∀ b, b < w.heap.size → ok b → ok' b) {l : List TR} {css : List (List Value)} (h : RepTL ok w l css) : RepTL ok' w' l css := by
  induction l generalizing css with
  | nil => cases h; exact .nil
  | cons t l ih => cases h with | cons h1 h2 => exact .cons (h1.mod hm hS ho) (ih h2)
theorem RepTL.append {ok : Nat → Prop} {w : World} {l l' : List TR} {css css' : List (List Value)} (h : RepTL ok w l css) (h' : RepTL ok w l' css') : RepTL ok w (l ++ l') (css ++ css') := by
  induction l generalizing css with
  | nil => cases h; exact h'
  | cons g l ih => cases h with | cons h1 h2 => exact .cons h1 (ih h2)
theorem RepTL.length {ok : Nat → Prop} {w : World} {l : List TR} {css : List (List Value)} (h : RepTL ok w l css) : l.length = css.length := by
  induction l generalizing css with
  | nil => cases h; rfl
  | cons g l ih => cases h with | cons h1 h2 => simp [ih h2]
theorem RepT.five {ok : Nat → Prop} {w : World} {t : TR} {cs : List Value} (h : RepT ok w t cs) : cs.length = 5 := by cases h; rfl
theorem RepTL.five {ok : Nat → Prop} {w : World} {l : List TR} {css : List (List Value)} (h : RepTL ok w l css) : ∀ cs ∈ css, cs.length = 5 := by
  induction l generalizing css with
  | nil => cases h; simp
  | cons g l ih =>
    cases h with
    | cons h1 h2 =>
      intro cs hc
      rcases List.mem_cons.1 hc with rfl | hc
      · exact h1.five
      · exact ih h2 cs hc
theorem RepT.oneCell {ok : Nat → Prop} {w : World} {t : TR} {cs : List Value} (h : RepT ok w t cs) : ∀ v ∈ cs, v.oneCell' = true := by
  cases h with
  | mk h1 h2 h3 h4 h5 =>
    intro v hv
    simp only [List.mem_cons, List.not_mem_nil, or_false] at hv
    rcases hv with rfl | rfl | rfl | rfl | rfl
    · rfl
    · exact h1.one
    · rfl
    · exact h2.one
    · exact h4.one
theorem Cells.app {w : World} {B o : Nat} {a b : List Value} (h : Cells w ⟨B, o, none⟩ (a ++ b)) : Cells w ⟨B, o, none⟩ a ∧ Cells w ⟨B, o + a.length, none⟩ b := by
  refine ⟨?_, ?_⟩
  · have := h.take a.length; rwa [List.take_left] at this
  · have := h.sub a.length; rwa [List.drop_left] at this
theorem Cells.each {w : World} {B o sz : Nat} {css : List (List Value)} (h : Cells w ⟨B, o, none⟩ css.flatten) (hs : ∀ c ∈ css, c.length = sz) {j : Nat} {c : List Value} (hj : css[j]? = some c) : Cells w ⟨B, o + j * sz, none⟩ c := by
  induction css generalizing j o with
  | nil => simp at hj
  | cons d css ih =>
    have hd := hs d (by simp)
    simp only [List.flatten_cons] at h
    obtain ⟨h1, h2⟩ := h.app
    cases j with
    | zero => simp at hj; subst hj; simpa using h1
    | succ j =>
      have := ih h2 (fun c hc => hs c (by simp [hc])) (by simpa using hj)
      rw [hd] at this
      rwa [show o + (j + 1) * sz = o + sz + j * sz by rw [Nat.add_mul, Nat.one_mul]; omega]
def TR.zero : TR := .mk 0 [] false [] []
def tzero : List Value := [.int .i64 0, .slice none 0 0, .bool false, .slice none 0 0, .slice none 0 0]
theorem RepT.num {ok : Nat → Prop} {w : World} (n : Int) (b : Bool) : RepT ok w (.mk n [] b [] []) [.int .i64 n, .slice none 0 0, .bool b, .slice none 0 0, .slice none 0 0] :=
  .mk (css := []) (uss := []) SlC.nil SlC.nil .nil SlC.nil .nil
theorem RepT.zero {ok : Nat → Prop} {w : World} : RepT ok w TR.zero tzero := .num 0 false
def insT (k : Nat) (l : List UInt8) : List (Nat × List UInt8) → List (Nat × List UInt8)
  | [] => [(k, l)]
  | (k', l') :: m => if k < k' then (k, l) :: (k', l') :: m else (k', l') :: insT k l m
def sortT : List (Nat × List UInt8) → List (Nat × List UInt8)
  | [] => []
  | (k, l) :: m => insT k l (sortT m)
end Go.Msk

namespace Go.Msk
open Go.RowKit
set_option maxRecDepth 100000
inductive TK where
  | num (conv : Bool)
  | str
  | boo (f : FuncId)
  | txt (f : FuncId)
  | oct (f : FuncId)
  deriving Inhabited
def nd (r : RI) : DI := ⟨r, false, []⟩
def headD (t off : Nat) : List DI :=
  [nd ⟨some t, .fad (.tmp 3) 3, none⟩, nd ⟨some (t + 1), .ld (.tmp t), none⟩, nd ⟨some (t + 2), .mv (.tmp 0), none⟩, nd ⟨some (t + 3), .nilc (.tmp (t + 2)), none⟩, nd ⟨some (t + 4), .fad (.tmp (t + 3)) off, none⟩, nd ⟨some (t + 5), .ld (.tmp (t + 4)), none⟩]
section
variable {P : Program}
end
end Go.Msk

namespace Go.Msk
open Go.RowKit
set_option maxRecDepth 100000
inductive EK where
  | num (conv : Bool)
  | str
  | tell (f : FuncId)
  deriving Inhabited
section
variable {P : Program}
end
end Go.Msk

namespace Go.Msk
open Go.RowKit
set_option maxRecDepth 100000
def own : Value → Option Nat
  | .slice (some a) _ _ => some a.block
  | _ => none
structure LRaw (w : World) (n0 : Nat) (lv : Value) (css : List (List Value)) : Prop where
  five : ∀ cs ∈ css, cs.length = 5
  sl : (lv = .slice none 0 0 ∧ css = []) ∨ ∃ BA cap rest, lv = .slice (some ⟨BA, 0, none⟩) css.length cap ∧ css.length ≤ cap ∧ n0 ≤ BA ∧ Blk w BA (css.flatten ++ rest) ∧ rest.length = (cap - css.length) * 5
theorem LRaw.mod {w w' : World} {n0 : Nat} {lv : Value} {css : List (List Value)} {S : List Nat} (h : LRaw w n0 lv css) (hm : Mod S w w') (hS : ∀ b, own lv = some b → b ∉ S) : LRaw w' n0 lv css := by
  refine ⟨h.five, ?_⟩
  rcases h.sl with h1 | ⟨BA, cap, rest, h1, h2, h3, h4, h5⟩
  · exact .inl h1
  · exact .inr ⟨BA, cap, rest, h1, h2, h3, h4.mod hm (hS _ (by rw [h1]; rfl)), h5⟩
theorem LRaw.own {w : World} {n0 : Nat} {lv : Value} {css : List (List Value)} (h : LRaw w n0 lv css) {b : Nat} (hb : own lv = some b) : n0 ≤ b ∧ b < w.heap.size := by
  rcases h.sl with ⟨h1, -⟩ | ⟨BA, cap, rest, h1, h2, h3, h4, h5⟩
  · rw [h1] at hb; simp [Msk.own] at hb
  · rw [h1] at hb; simp only [Msk.own, Option.some.injEq] at hb; subst hb; exact ⟨h3, h4.lt⟩
theorem flat5 {css : List (List Value)} (h : ∀ cs ∈ css, cs.length = 5) : css.flatten.length = css.length * 5 := flatten_length h
theorem splice_end {p r es : List Value} {o : Nat} (h : p.length = o) : splice (p ++ r) o es = p ++ (es ++ r.drop es.length) := by
  subst h
  unfold splice
  rw [List.take_left, List.drop_length_add_append]
theorem flat_snoc (css : List (List Value)) (es : List Value) : (css ++ [es]).flatten = css.flatten ++ es := by simp
section
variable {P : Program}
theorem append_tree {σ : Sl} {w : World} {x y : Operand} {lv : Value} {css : List (List Value)} {es : List Value} {n0 sb : Nat} {K : Value → World → Prop} (hx : ev σ x = lv) (hraw : LRaw w n0 lv css) (hn0 : n0 ≤ w.heap.size)
    (hy : ev σ y = .slice (some ⟨sb, 0, none⟩) 1 1) (hsb : Blk w sb es) (h5 : es.length = 5) (hone : ∀ v ∈ es, v.oneCell' = true) (hl : css.length ≤ 2147483647)
    (hK : ∀ lv' w', LRaw w' n0 lv' (css ++ [es]) → (((own lv' = own lv ∧ Mod (own lv).toList w w') ∧ ∃ BA c, lv = .slice (some ⟨BA, 0, none⟩) css.length c ∧ css.length + 1 ≤ c) ∨ (own lv' = some w.heap.size ∧ Mod [] w w')) → K lv' w') : (RK.append x y 5 88).run P σ w K := by
  have hsrc : srcCells w 5 (.slice (some ⟨sb, 0, none⟩) 1 1) = some (1, es) := by
    simp only [srcCells, cellsAt_of' hsb.cells (n := 1 * 5) (by omega), Option.map_some]
  simp only [RK.run, hx, hy]
  have h5' : ∀ cs ∈ css ++ [es], cs.length = 5 := fun cs hc => by
    rcases List.mem_append.1 hc with hc | hc
    · exact hraw.five cs hc
    · simp only [List.mem_singleton] at hc; subst hc; exact h5
  have hfl := flat5 hraw.five
  rcases hraw.sl with ⟨rfl, rfl⟩ | ⟨BA, cap, rest, rfl, h2, h3, h4, hr⟩
  · simp only [hsrc, appendRun]
    rw [if_neg (by omega)]
    refine ⟨by omega, by omega, ?_⟩
    intro T cap rest hc hr
    refine hK _ _ ⟨h5', .inr ⟨w.heap.size, cap, rest, rfl, by simpa using hc, hn0, ?_, by simpa using hr⟩⟩ (.inr ⟨rfl, (Mod.drew _ _).trans (Mod.alloc _ _ _)⟩)
    have := Blk.new w.drew (es ++ rest) T
    simpa using this
  · simp only [hsrc, appendRun]
    by_cases hc : css.length + 1 ≤ cap
    · rw [if_pos hc]
      simp only [Addr.add_mk, Nat.zero_add]
      refine ⟨stOk_many h4 (by simp only [List.length_append]; omega) hone, hK _ _ ⟨h5', .inr ⟨BA, cap, rest.drop 5, by simp, by simpa using hc, h3, ?_, by simp; omega⟩⟩ (.inl ⟨⟨rfl, by simpa [own] using Mod.put (by simp)⟩, BA, cap, rfl, hc⟩)⟩
      have hput := h4.put (o := css.length * 5) (vs := es) (by simp only [List.length_append]; omega)
      have : splice (css.flatten ++ rest) (css.length * 5) es = (css ++ [es]).flatten ++ rest.drop 5 := by
        rw [splice_end hfl, h5, flat_snoc, List.append_assoc]
      rwa [this] at hput
    · rw [if_neg hc]
      refine ⟨by omega, by omega, ?_⟩
      have hco : cellsAt w ⟨BA, 0, none⟩ 0 (css.length * 5) = some css.flatten := by
        have := h4.cells.take css.flatten.length
        rw [List.take_left] at this
        exact cellsAt_of' this hfl
      simp only [hco]
      intro T cap' rest' hc' hr'
      refine hK _ _ ⟨h5', .inr ⟨w.heap.size, cap', rest', by simp, by simpa using hc', hn0, ?_, by simpa using hr'⟩⟩ (.inr ⟨rfl, (Mod.drew _ _).trans (Mod.alloc _ _ _)⟩)
      have := Blk.new w.drew (css.flatten ++ (es ++ rest')) T
      simpa using this
end
end Go.Msk

namespace Go.Msk
open Go.RowKit
set_option maxRecDepth 100000
section
variable {P : Program}
theorem LRaw.len {w : World} {n0 : Nat} {lv : Value} {css : List (List Value)} (h : LRaw w n0 lv css) : ∃ b c, lv = .slice b css.length c := by
  rcases h.sl with ⟨rfl, rfl⟩ | ⟨BA, cap, rest, h1, -⟩
  · exact ⟨_, _, rfl⟩
  · exact ⟨_, _, h1⟩
theorem LRaw.one {w : World} {n0 : Nat} {lv : Value} {css : List (List Value)} (h : LRaw w n0 lv css) : lv.cells = #[lv] ∧ lv.oneCell' = true := by
  obtain ⟨b, c, rfl⟩ := h.len
  exact ⟨rfl, rfl⟩
def BS (n0 : Nat) (es : Value → Prop) (v : Value) (w : World) : Prop := ∃ sb cs, v = .slice (some ⟨sb, 0, none⟩) 1 1 ∧ n0 ≤ sb ∧ Blk w sb cs ∧ cs.length = 5 ∧ es (.agg cs.toArray)
theorem bslice_run {σ : Sl} {w : World} {x : Operand} {cs : List Value} {n0 : Nat} {K : Value → World → Prop} (hx : ev σ x = .agg cs.toArray) (h5 : cs.length = 5) (hn : n0 ≤ w.heap.size)
    (hK : ∀ v w', BS n0 (fun v => v = .agg cs.toArray) v w' → Mod [] w w' → K v w') : (RK.bslice 1 tzero [(0, 5, x)]).run P σ w K := by
  have hf : fillL (zrep 1 tzero) [(0, 5, Value.agg cs.toArray)] = some cs := by
    have e : zrep 1 tzero = tzero := by simp [zrep]
    rw [e]
    have ec : (Value.agg cs.toArray).cells = cs.toArray := rfl
    simp only [fillL]
    rw [if_pos ⟨by rw [ec]; simp [h5], by simp [tzero]⟩, ec]
    simp [splice, h5, tzero]
  simp only [RK.run, List.map_cons, List.map_nil, hx, hf]
  intro T
  exact hK _ _ ⟨w.heap.size, cs, rfl, hn, Blk.new _ _ _, h5, rfl⟩ (Mod.alloc _ _ _)
end
end Go.Msk

namespace Go.Msk
open Go.RowKit
set_option maxRecDepth 100000
def nullF (i t off : Nat) : IC :=
  .drw (headD t off ++ [nd ⟨some (t + 6), .isnil .sl false (.tmp (t + 5)), none⟩, nd ⟨some (t + 7), .iad (.tmp (t + 1)) (.const (.int .i64 i)) 5, none⟩, nd ⟨some (t + 8), .fad (.tmp (t + 7)) 2, none⟩])
    [⟨none, .st (.tmp (t + 8)) 1 (.tmp (t + 6)), none⟩]
section
variable {P : Program}
theorem _root_.Go.Msk.RepL.nth {O : List Nat} {w : World} {gs : List GV} {css : List (List Value)} (h : RepL O w gs css) {j : Nat} {g : GV} (hg : gs[j]? = some g) : ∃ cs, css[j]? = some cs ∧ Rep O w g cs := by
  induction gs generalizing css j with
  | nil => simp at hg
  | cons a l ih =>
    cases h with
    | cons h1 h2 =>
      cases j with
      | zero => simp only [List.getElem?_cons_zero, Option.some.injEq] at hg; subst hg; exact ⟨_, rfl, h1⟩
      | succ j => simp only [List.getElem?_cons_succ] at hg ⊢; exact ih h2 hg
theorem flat_cells {w : World} {a : Addr} {css : List (List Value)} {sz j : Nat} {cs : List Value} (h : Cells w a css.flatten) (hsz : ∀ c ∈ css, c.length = sz) (hj : css[j]? = some cs) : Cells w ⟨a.block, a.off + j * sz, none⟩ cs := by
  induction css generalizing a j with
  | nil => simp at hj
  | cons c css ih =>
    cases j with
    | zero =>
      simp only [List.getElem?_cons_zero, Option.some.injEq] at hj; subst hj
      have := h.take c.length
      simp only [List.flatten_cons, List.take_left] at this
      have hs := h.1
      cases a; simp only at hs; subst hs
      simpa using this
    | succ j =>
      simp only [List.getElem?_cons_succ] at hj
      have h1 := h.sub c.length
      simp only [List.flatten_cons, List.drop_left] at h1
      have h2 := ih h1 (fun d hd => hsz d (List.mem_cons_of_mem _ hd)) hj
      rw [hsz c List.mem_cons_self] at h2
      simp only at h2
      rw [show a.off + (j + 1) * sz = a.off + sz + j * sz by rw [Nat.succ_mul]; omega]
      exact h2
end
end Go.Msk

namespace Go.Msk
open Go.RowKit
def ir_lGot (F : Nat → Nat) : IC × List RV × Nat := (.seq (.blk [⟨some 1, .box (.tmp 0), none⟩,
 ⟨some 2, .alloc [.int .i64 0, .slice none 0 0, .bool false, .slice none 0 0, .slice none 0 0], none⟩])
 (.seq (.blk [⟨some 8, .fad (.tmp 1) 0, none⟩,
 ⟨some 9, .ld (.tmp 8), none⟩,
 ⟨some 10, .fad (.tmp 1) 1, none⟩,
 ⟨some 11, .ld (.tmp 10), none⟩,
 ⟨some 12, .fad (.tmp 1) 2, none⟩,
 ⟨some 13, .ld (.tmp 12), none⟩,
 ⟨some 14, .build [.int .i64 0, .slice none 0 0, .bool false, .slice none 0 0, .slice none 0 0] [(0, 1, .tmp 9), (1, 1, .tmp 11), (2, 1, .tmp 13)], none⟩,
 ⟨some 3, .alloc [.int .i64 0, .slice none 0 0, .bool false, .slice none 0 0, .slice none 0 0], none⟩,
 ⟨none, .st (.tmp 3) 5 (.tmp 14), none⟩])
 (.seq (.seq (.blk [⟨some 15, .fad (.tmp 1) 3, none⟩,
 ⟨some 16, .ld (.tmp 15), none⟩,
 ⟨some 17, .len (.tmp 16), none⟩,
 ⟨some 18, .mv (.const (.int .i64 0)), none⟩])
 (.block 0 (.loop (.seq (.blk [⟨some 19, .bin .lss (.tmp 18) (.tmp 17), none⟩])
 (.seq (.cond (.tmp 19)
 (.skip)
 (.exit 0))
 (.seq (.block 1 (.seq (.blk [⟨some 20, .iad (.tmp 16) (.tmp 18) 5, none⟩,
 ⟨some 21, .ldn (.tmp 20) 5, none⟩,
 ⟨some 5, .alloc [.int .i64 0, .slice none 0 0, .bool false, .slice none 0 0, .slice none 0 0], none⟩,
 ⟨none, .st (.tmp 5) 5 (.tmp 21), none⟩])
 (.drw [⟨⟨some 22, .fad (.tmp 3) 3, none⟩, false, []⟩,
 ⟨⟨some 23, .ld (.tmp 22), none⟩, false, []⟩,
 ⟨⟨some 24, .ldn (.tmp 5) 5, none⟩, false, []⟩,
 ⟨⟨some 25, .call (F lGot) [.tmp 24], none⟩, true, []⟩,
 ⟨⟨some 26, .bslice 1 [.int .i64 0, .slice none 0 0, .bool false, .slice none 0 0, .slice none 0 0] [(0, 5, .tmp 25)], none⟩, true, [3]⟩]
 [⟨some 27, .append (.tmp 23) (.tmp 26) 5 88, none⟩,
 ⟨some 28, .fad (.tmp 3) 3, none⟩,
 ⟨none, .st (.tmp 28) 1 (.tmp 27), none⟩])))
 (.blk [⟨some 29, .bin .add (.tmp 18) (.const (.int .i64 1)), none⟩,
 ⟨some 18, .mv (.tmp 29), none⟩])))))))
 (.seq (.seq (.blk [⟨some 30, .fad (.tmp 1) 4, none⟩,
 ⟨some 31, .ld (.tmp 30), none⟩,
 ⟨some 32, .len (.tmp 31), none⟩,
 ⟨some 33, .mv (.const (.int .i64 0)), none⟩])
 (.block 2 (.loop (.seq (.blk [⟨some 34, .bin .lss (.tmp 33) (.tmp 32), none⟩])
 (.seq (.cond (.tmp 34)
 (.skip)
 (.exit 2))
 (.seq (.block 3 (.seq (.blk [⟨some 35, .iad (.tmp 31) (.tmp 33) 2, none⟩,
 ⟨some 36, .ldn (.tmp 35) 2, none⟩,
 ⟨some 7, .alloc [.int .u32 0, .slice none 0 0], none⟩,
 ⟨none, .st (.tmp 7) 2 (.tmp 36), none⟩])
 (.blk [⟨some 37, .fad (.tmp 3) 4, none⟩,
 ⟨some 38, .ld (.tmp 37), none⟩,
 ⟨some 39, .fad (.tmp 7) 0, none⟩,
 ⟨some 40, .ld (.tmp 39), none⟩,
 ⟨some 41, .fad (.tmp 7) 1, none⟩,
 ⟨some 42, .ld (.tmp 41), none⟩,
 ⟨some 43, .build [.int .u32 0, .slice none 0 0] [(0, 1, .tmp 40), (1, 1, .tmp 42)], none⟩,
 ⟨some 44, .bslice 1 [.int .u32 0, .slice none 0 0] [(0, 2, .tmp 43)], none⟩,
 ⟨some 45, .append (.tmp 38) (.tmp 44) 2 32, none⟩,
 ⟨some 46, .fad (.tmp 3) 4, none⟩,
 ⟨none, .st (.tmp 46) 1 (.tmp 45), none⟩])))
 (.blk [⟨some 47, .bin .add (.tmp 33) (.const (.int .i64 1)), none⟩,
 ⟨some 33, .mv (.tmp 47), none⟩])))))))
 (.seq (.blk [⟨some 48, .ldn (.tmp 3) 5, none⟩,
 ⟨none, .st (.tmp 2) 5 (.tmp 48), none⟩])
 (.ret))))),
 [.cells 2 5], 49)
def ir_sSame (_F : Nat → Nat) : IC × List RV × Nat := (.seq (.blk [⟨some 4, .mv (.const (.bool false)), none⟩])
 (.seq (.seq (.blk [⟨some 6, .mv (.tmp 0), none⟩,
 ⟨some 7, .len (.tmp 6), none⟩,
 ⟨some 8, .mv (.tmp 1), none⟩,
 ⟨some 9, .len (.tmp 8), none⟩,
 ⟨some 10, .bin .neq (.tmp 7) (.tmp 9), none⟩])
 (.cond (.tmp 10)
 (.seq (.blk [⟨some 4, .mv (.const (.bool false)), none⟩])
 (.ret))
 (.skip)))
 (.seq (.seq (.blk [⟨some 11, .mv (.tmp 0), none⟩,
 ⟨some 12, .len (.tmp 11), none⟩,
 ⟨some 13, .mv (.const (.int .i64 0)), none⟩])
 (.block 0 (.loop (.seq (.blk [⟨some 14, .bin .lss (.tmp 13) (.tmp 12), none⟩])
 (.seq (.cond (.tmp 14)
 (.skip)
 (.exit 0))
 (.seq (.block 1 (.seq (.blk [⟨some 15, .mv (.tmp 13), none⟩,
 ⟨some 5, .mv (.tmp 15), none⟩])
 (.seq (.drw [⟨⟨some 16, .mv (.tmp 0), none⟩, false, []⟩,
 ⟨⟨some 17, .mv (.tmp 5), none⟩, false, []⟩,
 ⟨⟨some 18, .iad (.tmp 16) (.tmp 17) 1, none⟩, false, []⟩,
 ⟨⟨some 19, .ld (.tmp 18), none⟩, false, []⟩,
 ⟨⟨some 20, .mv (.tmp 1), none⟩, false, []⟩,
 ⟨⟨some 21, .mv (.tmp 5), none⟩, false, []⟩,
 ⟨⟨some 22, .iad (.tmp 20) (.tmp 21) 1, none⟩, false, []⟩,
 ⟨⟨some 23, .ld (.tmp 22), none⟩, false, []⟩,
 ⟨⟨some 24, .bin .neq (.tmp 19) (.tmp 23), none⟩, false, []⟩]
 [])
 (.cond (.tmp 24)
 (.seq (.blk [⟨some 4, .mv (.const (.bool false)), none⟩])
 (.ret))
 (.skip)))))
 (.blk [⟨some 25, .bin .add (.tmp 13) (.const (.int .i64 1)), none⟩,
 ⟨some 13, .mv (.tmp 25), none⟩])))))))
 (.seq (.blk [⟨some 4, .mv (.const (.bool true)), none⟩])
 (.ret)))),
 [.tmp 4], 26)
end Go.Msk

namespace Go.Msk
open Go.RowKit
set_option maxRecDepth 100000
theorem SlC.get {ok : Nat → Prop} {w : World} {v : Value} {l : List UInt8} (h : SlC ok w v l.length (u8s l)) {i : Nat} (hi : i < l.length) :
    ∃ a c b, v = .slice (some a) l.length c ∧ l[i]? = some b ∧ w.cell? (a.add (i * 1)) = some (.int .u8 b.toNat) := by
  obtain ⟨base, cap, rfl, h2, h3, h4⟩ := h
  cases base with
  | none => have := h3 rfl; omega
  | some a =>
    obtain ⟨-, -, hc⟩ := h4 a rfl (by omega)
    have hb : l[i]? = some l[i] := List.getElem?_eq_getElem hi
    exact ⟨a, cap, l[i], rfl, hb, by rw [Nat.mul_one]; exact hc.nth (by rw [u8s_get, hb]; rfl)⟩
theorem SlC.shape {ok : Nat → Prop} {w : World} {v : Value} {n : Nat} {cs : List Value} (h : SlC ok w v n cs) : ∃ b c, v = .slice b n c := by
  obtain ⟨base, cap, rfl, -⟩ := h; exact ⟨_, _, rfl⟩
theorem u8_ne (a b : UInt8) : ((a.toNat : Int) != b.toNat) = (a != b) := by
  by_cases h : a = b
  · subst h; simp
  · have h1 : (a != b) = true := by simpa using h
    have h2 : ((a.toNat : Int) != b.toNat) = true := by
      simp only [bne_iff_ne, ne_eq, Int.natCast_inj]
      exact fun e => h (UInt8.toNat_inj.1 e)
    rw [h1, h2]
section
variable {P : Program} {F : Nat → Nat}
attribute [local simp] bnd wpC wpR RI.wp gOk RK.run thenC inBlockC updo upd ev args0 postC rvals RV.val tup_one isShift
theorem same_call (hm : P.follows .mixedOrders = true) (h : liftF P (F sSame) = some (ir_sSame F)) {ok : Nat → Prop} {w : World} {v1 v2 : Value} {l1 l2 : List UInt8} (h1 : SlC ok w v1 l1.length (u8s l1)) (h2 : SlC ok w v2 l2.length (u8s l2))
    (hl : l1.length ≤ 4611686018427387904) : Calls P (F sSame) [v1, v2].toArray w fun e w' => e = .returned (.bool (decide (l1 = l2))) ∧ Mod [] w w' := by
  refine call_of h hm (by simp) ?_
  obtain ⟨b1, c1, e1⟩ := h1.shape
  obtain ⟨b2, c2, e2⟩ := h2.shape
  have a0 : args0 [v1, v2] 0 = v1 := rfl
  have a1 : args0 [v1, v2] 1 = v2 := rfl
  generalize args0 [v1, v2] = σ0 at a0 a1 ⊢
  rw [wpC_seq, wpC_blk]
  refine wpR_step (v := .bool false) (by simp [RK.val?]) ?_
  simp only [wpR, thenC]
  rw [wpC_seq, wpC_seq, wpC_blk]
  refine wpR_step (v := v1) (by simp [RK.val?, a0]) ?_
  refine wpR_step (v := .int .i64 l1.length) (by simp [RK.val?, e1]) ?_
  refine wpR_step (v := v2) (by simp [RK.val?, a1]) ?_
  refine wpR_step (v := .int .i64 l2.length) (by simp [RK.val?, e2]) ?_
  refine wpR_step (v := .bool ((l1.length : Int) != l2.length)) (by simp [RK.val?, intBin]) ?_
  simp only [wpR, thenC]
  by_cases hlen : l1.length = l2.length
  · have hb : ((l1.length : Int) != l2.length) = false := by simp [hlen]
    rw [wpC_cond_f (by simp [hb]), wpC_skip]
    simp only [thenC]
    rw [wpC_seq, wpC_seq, wpC_blk]
    refine wpR_step (v := v1) (by simp [RK.val?, a0]) ?_
    refine wpR_step (v := .int .i64 l1.length) (by simp [RK.val?, e1]) ?_
    refine wpR_step (v := .int .i64 0) (by simp [RK.val?]) ?_
    simp only [wpR, thenC]
    rw [wpC_block, wpC_loop]
    refine ⟨fun σ1 w1 => ∃ i, i ≤ l1.length ∧ σ1 13 = .int .i64 i ∧ σ1 12 = .int .i64 l1.length ∧ σ1 0 = v1 ∧ σ1 1 = v2 ∧ Mod [] w w1 ∧ ∀ k, k < i → l1[k]? = l2[k]?,
      fun σ1 _ => l1.length - (match σ1 13 with | .int _ j => j.toNat | _ => 0), ⟨0, Nat.zero_le _, by simp, by simp, by simp [a0], by simp [a1], Mod.refl _ _, by simp⟩, ?_⟩
    rintro σ1 w1 ⟨i, hi, h13, h12, hv1, hv2, hm1, hpre⟩
    rw [wpC_seq, wpC_blk]
    refine wpR_step (v := .bool (decide ((i : Int) < l1.length))) (by simp [RK.val?, h13, h12, intBin]) ?_
    simp only [wpR, thenC]
    rw [wpC_seq]
    by_cases hlt : i < l1.length
    · rw [wpC_cond_t (by simp [hlt]), wpC_skip]
      simp only [thenC]
      rw [wpC_seq, wpC_block, wpC_seq, wpC_blk]
      refine wpR_step (v := .int .i64 i) (by simp [RK.val?, h13]) ?_
      refine wpR_step (v := .int .i64 i) (by simp [RK.val?]) ?_
      simp only [wpR, thenC]
      have hm2 : Mod [] w w1.drew := hm1.trans (Mod.drew _ _)
      obtain ⟨p1, d1, x1, f1, f2, f3⟩ := (h1.mod (ok' := ok) hm2 (by simp) fun _ _ h => h).get hlt
      obtain ⟨p2, d2, x2, f4, f5, f6⟩ := (h2.mod (ok' := ok) hm2 (by simp) fun _ _ h => h).get (hlen ▸ hlt)
      rw [wpC_seq]
      show wpD P _ _ _ _ _
      refine wpD_pure rfl ?_
      simp only [List.map_cons, List.map_nil, List.append_nil]
      refine wpR_step (v := v1) (by simp [RK.val?, hv1]) ?_
      refine wpR_step (v := .int .i64 i) (by simp [RK.val?]) ?_
      refine wpR_step (v := .pointer (some (p1.add (i * 1)))) (by simp [RK.val?, f1, hlt]) ?_
      refine wpR_step (v := .int .u8 x1.toNat) (by simp [RK.val?]; simpa using f3) ?_
      refine wpR_step (v := v2) (by simp [RK.val?, hv2]) ?_
      refine wpR_step (v := .int .i64 i) (by simp [RK.val?]) ?_
      refine wpR_step (v := .pointer (some (p2.add (i * 1)))) (by simp [RK.val?, f4, ← hlen, hlt]) ?_
      refine wpR_step (v := .int .u8 x2.toNat) (by simp [RK.val?]; simpa using f6) ?_
      refine wpR_step (v := .bool (x1 != x2)) (by simp [RK.val?, intBin, u8_ne]) ?_
      simp only [wpR, thenC]
      by_cases hx : x1 = x2
      · subst hx
        rw [wpC_cond_f (by simp), wpC_skip]
        have hw : IntKind.i64.wrap ((i : Int) + 1) = ((i + 1 : Nat) : Int) := by
          simp only [IntKind.wrap, IntKind.bits, IntKind.signed]; simp; omega
        simp only [inBlockC, thenC]
        rw [wpC_blk]
        refine wpR_step (v := .int .i64 ((i + 1 : Nat) : Int)) (by simp [RK.val?, intBin, h13, hw]) ?_
        refine wpR_step (v := .int .i64 ((i + 1 : Nat) : Int)) (by simp [RK.val?]) ?_
        simp only [wpR, thenC]
        refine ⟨⟨i + 1, hlt, by simp, by simp [h12], by simp [hv1], by simp [hv2], hm2, fun k hk => ?_⟩, ?_⟩
        · rcases Nat.lt_or_ge k i with hk' | hk'
          · exact hpre k hk'
          · have : k = i := by omega
            subst this; rw [f2, f5]
        · simp [h13]; show l1.length - (i + 1) < l1.length - i; omega
      · rw [wpC_cond_t (by simp [hx]), wpC_seq, wpC_blk]
        refine wpR_step (v := .bool false) (by simp [RK.val?]) ?_
        have hne : l1 ≠ l2 := fun e => by subst e; rw [f2] at f5; simp at f5; exact hx f5
        simp [hne, hm2]
    · rw [wpC_cond_f (by simp; omega)]
      have hie : i = l1.length := by omega
      have heq : l1 = l2 := by
        apply List.ext_getElem? ; intro k
        rcases Nat.lt_or_ge k l1.length with hk | hk
        · exact hpre k (by omega)
        · rw [List.getElem?_eq_none hk, List.getElem?_eq_none (by omega)]
      simp [heq, hm1]
  · have hb : ((l1.length : Int) != l2.length) = true := by simp; omega
    rw [wpC_cond_t (by simp [hb]), wpC_seq, wpC_blk]
    refine wpR_step (v := .bool false) (by simp [RK.val?]) ?_
    have hne : l1 ≠ l2 := fun e => hlen (by rw [e])
    simp [hne, Mod.refl]
end
end Go.Msk

namespace Go.Msk
open Go.RowKit
set_option maxRecDepth 100000
def GotAt (P : Program) (f : FuncId) (t : TR) : Prop :=
  ∀ (N : Nat) (w : World) (cs : List Value), N ≤ w.heap.size → RepT (fun b => b < N) w t cs →
    Calls P f [.agg cs.toArray].toArray w fun e w' => ∃ cs', e = .returned (.agg cs'.toArray) ∧ RepT (fun b => b < N ∨ w.heap.size ≤ b) w' t cs' ∧ Mod [] w w'
structure LRaw2 (w : World) (n0 : Nat) (lv : Value) (css : List (List Value)) : Prop where
  two : ∀ cs ∈ css, cs.length = 2
  sl : (lv = .slice none 0 0 ∧ css = []) ∨ ∃ BA cap rest, lv = .slice (some ⟨BA, 0, none⟩) css.length cap ∧ css.length ≤ cap ∧ n0 ≤ BA ∧ Blk w BA (css.flatten ++ rest) ∧ rest.length = (cap - css.length) * 2
section
variable {P : Program} {F : Nat → Nat}
attribute [local simp] bnd wpC wpR RI.wp gOk RK.run thenC inBlockC updo upd ev args0 postC rvals RV.val tup_one isShift
structure GS (w3 w : World) (Ob : Nat) (n : Int) (sv lv uv : Value) (null : Bool) (N : Nat) (ts : List TR) (tcs : List (List Value)) : Prop where
  ob : Blk w Ob [.int .i64 n, sv, .bool null, lv, uv]
  raw : LRaw w w3.heap.size lv tcs
  rep : RepTL (fun b => b < N ∨ (w3.heap.size ≤ b ∧ own lv ≠ some b)) w ts tcs
  mod : Mod [Ob] w3 w
  lob : Ob < w3.heap.size
  nob : N ≤ Ob
theorem GS.same {w3 w w' : World} {Ob : Nat} {n : Int} {sv lv uv : Value} {null : Bool} {N : Nat} {ts : List TR} {tcs : List (List Value)} (h : GS w3 w Ob n sv lv uv null N ts tcs) (hm : Mod [] w w') : GS w3 w' Ob n sv lv uv null N ts tcs :=
  ⟨h.ob.mod hm (by simp), h.raw.mod hm (by simp), h.rep.mod hm (by simp) (fun _ _ h => h), h.mod.trans hm.nil, h.lob, h.nob⟩
theorem GS.step {w3 w wr : World} {Ob : Nat} {n : Int} {sv lv uv : Value} {null : Bool} {N : Nat} {ts : List TR} {tcs : List (List Value)} {t : TR} {es : List Value} {sb : Nat} {σ : Sl} {x y a : Operand} {d1 d2 : Nat} {Q : Sl → World → Prop} (h : GS w3 w Ob n sv lv uv null N ts tcs)
    (hx : ev σ x = lv) (hy : ev σ y = .slice (some ⟨sb, 0, none⟩) 1 1) (hsb : Blk w sb es) (ht : RepT (fun b => b < N ∨ wr.heap.size ≤ b) w t es) (hlen : tcs.length ≤ 2147483647)
    (hwr : ∀ b, own lv = some b → b < wr.heap.size) (hwr3 : w3.heap.size ≤ wr.heap.size) (ha : ∀ v, ev (upd σ d1 v) a = .pointer (some ⟨Ob, 0, none⟩)) (hd : d1 ≠ d2)
    (hQ : ∀ w' lv', GS w3 w' Ob n sv lv' uv null N (ts ++ [t]) (tcs ++ [es]) → Q (upd (upd σ d1 lv') d2 (.pointer (some ⟨Ob, 3, none⟩))) w') :
    wpR P [⟨some d1, .append x y 5 88, none⟩, ⟨some d2, .fad a 3, none⟩, ⟨none, .st (.tmp d2) 1 (.tmp d1), none⟩] σ w Q := by
  have hlob := h.lob
  have hnob := h.nob
  refine wpR_run ?_
  refine append_tree hx h.raw h.mod.size hy hsb ht.five ht.oneCell hlen fun lv' w1 hraw1 hown => ?_
  refine wpR_step (v := .pointer (some ⟨Ob, 3, none⟩)) (by
    show (RK.fad a 3).val? (upd σ d1 lv') w1 = _
    simp only [RK.val?, ha lv', Addr.add_mk, Nat.zero_add]) ?_
  obtain ⟨o1, o2⟩ := hraw1.one
  have hge : ∀ b, own lv = some b → w3.heap.size ≤ b := fun b hb => (h.raw.own hb).1
  have hge' : ∀ b, own lv' = some b → w3.heap.size ≤ b := fun b hb => (hraw1.own hb).1
  -- the world behind the append
  have key : Blk w1 Ob [.int .i64 n, sv, .bool null, lv, uv] ∧ Mod [Ob] w3 w1 ∧ RepTL (fun b => b < N ∨ (w3.heap.size ≤ b ∧ own lv' ≠ some b)) w1 (ts ++ [t]) (tcs ++ [es]) := by
    rcases hown with ⟨⟨ho, hm⟩, -⟩ | ⟨ho, hm⟩
    · have hS : ∀ b ∈ (own lv).toList, own lv = some b := fun b hb => by simpa using hb
      refine ⟨h.ob.mod hm (fun hc => by have := hge _ (hS _ hc); omega), ?_, (h.rep.mod hm (fun b hb hc => ?_) (fun b _ hb => by rw [ho]; exact hb)).append (.cons (ht.mod hm (fun b hb hc => ?_) fun b _ hb => ?_) .nil)⟩
      · refine ⟨hm.os.trans h.mod.os, hm.tape.trans h.mod.tape, hm.output.trans h.mod.output, Nat.le_trans h.mod.size hm.size, fun k hk hn => ?_⟩
        rw [hm.block k (Nat.lt_of_lt_of_le hk h.mod.size) (fun hc => by have := hge _ (hS _ hc); omega)]
        exact h.mod.block k hk hn
      · have := hge _ (hS _ hb)
        rcases hc with hc | hc
        · omega
        · exact hc.2 (hS b hb)
      · have := hge _ (hS _ hb); have := hwr _ (hS _ hb)
        rcases hc with hc | hc <;> omega
      · rcases hb with hb | hb
        · exact .inl hb
        · refine .inr ⟨by omega, fun e => ?_⟩
          rw [ho] at e
          have := hwr _ e; omega
    · refine ⟨h.ob.mod hm (by simp), h.mod.trans hm.nil, (h.rep.mod hm (by simp) fun b hlt hb => ?_).append (.cons (ht.mod hm (by simp) fun b hlt hb => ?_) .nil)⟩
      · rcases hb with hb | hb
        · exact .inl hb
        · exact .inr ⟨hb.1, fun e => by rw [ho] at e; simp only [Option.some.injEq] at e; omega⟩
      · rcases hb with hb | hb
        · exact .inl hb
        · exact .inr ⟨by omega, fun e => by rw [ho] at e; simp only [Option.some.injEq] at e; omega⟩
  obtain ⟨k1, k2, k3⟩ := key
  have hput : Mod [Ob] w1 (putCells w1 ⟨Ob, 3, none⟩ 0 [lv']) := Mod.put (by simp)
  have hp := k1.put (o := 3) (vs := [lv']) (by simp)
  have e1 : splice [Value.int .i64 n, sv, .bool null, lv, uv] 3 [lv'] = [.int .i64 n, sv, .bool null, lv', uv] := by simp [splice]
  rw [e1] at hp
  have s1 : (updo (updo σ (some d1) lv') (some d2) (.pointer (some ⟨Ob, 3, none⟩))) d1 = lv' := by simp only [updo, upd, hd, if_false, if_true]
  have s2 : (updo (updo σ (some d1) lv') (some d2) (.pointer (some ⟨Ob, 3, none⟩))) d2 = .pointer (some ⟨Ob, 3, none⟩) := by simp only [updo, upd, if_true]
  refine wpR_run ?_
  simp only [RK.run, ev, s1, s2, o1]
  refine ⟨rfl, stOk_one k1 (by simp) o2, ?_⟩
  exact hQ _ lv' ⟨hp, hraw1.mod hput (fun b hb => by have := hge' b hb; simp; omega), k3.mod hput (fun b hb hc => by
    simp only [List.mem_singleton] at hb
    rcases hc with hc | hc <;> omega) (fun _ _ h => h), k2.trans hput, hlob, hnob⟩
theorem SlC.flat {ok : Nat → Prop} {w : World} {v : Value} {n sz j : Nat} {css : List (List Value)} {cs : List Value} (h : SlC ok w v n css.flatten) (hn : n = css.length) (hsz : ∀ c ∈ css, c.length = sz) (hj : css[j]? = some cs) :
    ∃ a c, v = .slice (some a) n c ∧ j < n ∧ cellsAt w (a.add (j * sz)) 0 sz = some cs := by
  have hjl : j < css.length := by
    rcases Nat.lt_or_ge j css.length with h | h
    · exact h
    · rw [List.getElem?_eq_none h] at hj; simp at hj
  obtain ⟨base, cap, rfl, h2, h3, h4⟩ := h
  cases base with
  | none => have := h3 rfl; omega
  | some a =>
    obtain ⟨-, -, hc⟩ := h4 a rfl (by omega)
    refine ⟨a, cap, rfl, by omega, ?_⟩
    have := flat_cells hc hsz hj
    rw [Addr.add_of hc.1]
    exact cellsAt_of' this (hsz _ (List.mem_of_getElem? hj))
theorem SlC.pair {ok : Nat → Prop} {w : World} {v : Value} {n j : Nat} {css : List (List Value)} {a b : Value} (h : SlC ok w v n css.flatten) (hn : n = css.length) (hsz : ∀ c ∈ css, c.length = 2) (hj : css[j]? = some [a, b]) :
    ∃ p c, v = .slice (some p) n c ∧ j < n ∧ w.cell? ((p.add (j * 2)).add 0) = some a ∧ w.cell? ((p.add (j * 2)).add 1) = some b := by
  have hjl : j < css.length := by
    rcases Nat.lt_or_ge j css.length with h | h
    · exact h
    · rw [List.getElem?_eq_none h] at hj; simp at hj
  obtain ⟨base, cap, rfl, h2, h3, h4⟩ := h
  cases base with
  | none => have := h3 rfl; omega
  | some p =>
    obtain ⟨-, -, hc⟩ := h4 p rfl (by omega)
    have hcl := flat_cells hc hsz hj
    refine ⟨p, cap, rfl, by omega, ?_, ?_⟩
    · rw [Addr.add_of hc.1]; exact hcl.nth (i := 0) rfl
    · rw [Addr.add_of hc.1]; exact hcl.nth (i := 1) rfl
theorem RepTL.nth {ok : Nat → Prop} {w : World} {l : List TR} {css : List (List Value)} (h : RepTL ok w l css) {j : Nat} {t : TR} (ht : l[j]? = some t) : ∃ cs, css[j]? = some cs ∧ RepT ok w t cs := by
  induction l generalizing css j with
  | nil => simp at ht
  | cons a l ih =>
    cases h with
    | cons h1 h2 =>
      cases j with
      | zero => simp only [List.getElem?_cons_zero, Option.some.injEq] at ht; subst ht; exact ⟨_, rfl, h1⟩
      | succ j => simp only [List.getElem?_cons_succ] at ht ⊢; exact ih h2 ht
theorem got_loop1 {N : Nat} {w w3 : World} {Pb b2 Ob : Nat} {n : Int} {sv lv0 : Value} {null : Bool} {l : List TR} {css : List (List Value)} {σ : Sl} {Q : Exit → Sl → World → Prop} (hf : ∀ t ∈ l, GotAt P (F lGot) t)
    (hw : Mod [] w w3) (hN : N ≤ w.heap.size) (hl : SlC (fun b => b < N) w lv0 l.length css.flatten) (hr : RepTL (fun b => b < N) w l css) (hlen : l.length ≤ 2147483647)
    (hob : Blk w3 Ob [.int .i64 n, sv, .bool null, .slice none 0 0, .slice none 0 0]) (hoN : N ≤ Ob)
    (h1 : σ 1 = .pointer (some ⟨Pb, 0, none⟩)) (h2 : σ 2 = .pointer (some ⟨b2, 0, none⟩)) (h3 : σ 3 = .pointer (some ⟨Ob, 0, none⟩)) (hpb : w3.cell? ⟨Pb, 3, none⟩ = some lv0)
    (hQ : ∀ σ' w' lv tcs, σ' 1 = .pointer (some ⟨Pb, 0, none⟩) → σ' 2 = .pointer (some ⟨b2, 0, none⟩) → σ' 3 = .pointer (some ⟨Ob, 0, none⟩) → GS w3 w' Ob n sv lv (.slice none 0 0) null N l tcs → tcs.length = l.length → Q .normal σ' w') :
    wpC P (.seq (.blk [⟨some 15, .fad (.tmp 1) 3, none⟩, ⟨some 16, .ld (.tmp 15), none⟩, ⟨some 17, .len (.tmp 16), none⟩, ⟨some 18, .mv (.const (.int .i64 0)), none⟩])
      (.block 0 (.loop (.seq (.blk [⟨some 19, .bin .lss (.tmp 18) (.tmp 17), none⟩]) (.seq (.cond (.tmp 19) .skip (.exit 0))
        (.seq (.block 1 (.seq (.blk [⟨some 20, .iad (.tmp 16) (.tmp 18) 5, none⟩, ⟨some 21, .ldn (.tmp 20) 5, none⟩, ⟨some 5, .alloc tzero, none⟩, ⟨none, .st (.tmp 5) 5 (.tmp 21), none⟩])
            (.drw [⟨⟨some 22, .fad (.tmp 3) 3, none⟩, false, []⟩, ⟨⟨some 23, .ld (.tmp 22), none⟩, false, []⟩, ⟨⟨some 24, .ldn (.tmp 5) 5, none⟩, false, []⟩, ⟨⟨some 25, .call (F lGot) [.tmp 24], none⟩, true, []⟩,
                ⟨⟨some 26, .bslice 1 tzero [(0, 5, .tmp 25)], none⟩, true, [3]⟩]
              [⟨some 27, .append (.tmp 23) (.tmp 26) 5 88, none⟩, ⟨some 28, .fad (.tmp 3) 3, none⟩, ⟨none, .st (.tmp 28) 1 (.tmp 27), none⟩])))
          (.blk [⟨some 29, .bin .add (.tmp 18) (.const (.int .i64 1)), none⟩, ⟨some 18, .mv (.tmp 29), none⟩])))))))
      Q σ w3 := by
  obtain ⟨lb, lc, elv⟩ := hl.shape
  have hol := hob.lt
  rw [wpC_seq, wpC_blk]
  refine wpR_step (v := .pointer (some ⟨Pb, 3, none⟩)) (by simp [RK.val?, h1, Addr.add_mk]) ?_
  refine wpR_step (v := lv0) (by simp [RK.val?, hpb]) ?_
  refine wpR_step (v := .int .i64 l.length) (by simp [RK.val?, elv]) ?_
  refine wpR_step (v := .int .i64 0) (by simp [RK.val?]) ?_
  simp only [wpR, thenC]
  rw [wpC_block, wpC_loop]
  refine ⟨fun σ1 w1 => ∃ j lv tcs, j ≤ l.length ∧ σ1 1 = .pointer (some ⟨Pb, 0, none⟩) ∧ σ1 2 = .pointer (some ⟨b2, 0, none⟩) ∧ σ1 3 = .pointer (some ⟨Ob, 0, none⟩) ∧ σ1 16 = lv0 ∧ σ1 17 = .int .i64 l.length ∧ σ1 18 = .int .i64 j ∧
      GS w3 w1 Ob n sv lv (.slice none 0 0) null N (l.take j) tcs ∧ tcs.length = j,
    fun σ1 _ => l.length - (match σ1 18 with | .int _ j => j.toNat | _ => 0), ⟨0, .slice none 0 0, [], Nat.zero_le _, by simp [h1], by simp [h2], by simp [h3], by simp, by simp, by simp, ⟨hob, ⟨by simp, .inl ⟨rfl, rfl⟩⟩, by simpa using .nil, Mod.refl _ _, hol, hoN⟩, rfl⟩, ?_⟩
  rintro σ1 w1 ⟨j, lv, tcs, hj, s1, s2, s3, s16, s17, s18, hgs, htl⟩
  rw [wpC_seq, wpC_blk]
  refine wpR_step (v := .bool (decide ((j : Int) < l.length))) (by simp [RK.val?, s17, s18, intBin]) ?_
  simp only [wpR, thenC]
  rw [wpC_seq]
  by_cases hlt : j < l.length
  · rw [wpC_cond_t (by simp [hlt]), wpC_skip]
    simp only [thenC]
    rw [wpC_seq, wpC_block, wpC_seq, wpC_blk]
    obtain ⟨tj, htj⟩ : ∃ t, l[j]? = some t := ⟨l[j], List.getElem?_eq_getElem hlt⟩
    have hmw : Mod [Ob] w w1 := hw.nil.trans hgs.mod
    have hNob : ∀ b ∈ [Ob], ¬ b < N := fun b hb => by simp only [List.mem_singleton] at hb; omega
    obtain ⟨cj, hcj, hrj⟩ := (hr.mod (ok' := fun b => b < N) hmw hNob fun _ _ h => h).nth htj
    obtain ⟨pa, pc, ep, -, hcells⟩ := (hl.mod (ok' := fun b => b < N) hmw hNob fun _ _ h => h).flat hr.length hr.five hcj
    refine wpR_step (v := .pointer (some (pa.add (j * 5)))) (by simp [RK.val?, s16, s18, ep, hlt]) ?_
    refine wpR_step (v := .agg cj.toArray) (by simp [RK.val?, hcells]) ?_
    refine wpR_run ?_
    intro Ty
    obtain ⟨q1, q2, q3⟩ := new_put w1 tzero cj Ty (by rw [hrj.five]; rfl) hrj.oneCell
    refine wpR_run ?_
    have ec : (Value.agg cj.toArray).cells = cj.toArray := rfl
    have ec' : (Value.agg cj.toArray).cells.toList = cj := by simp [Value.cells]
    simp only [RK.run, ev, updo, upd]
    simp only [if_true, show (21 : Nat) ≠ 5 by decide, if_false, ec']
    refine ⟨by rw [ec]; simp [hrj.five], q1, ?_⟩
    generalize hw4 : putCells (w1.alloc (.cells tzero.toArray Ty)) ⟨w1.heap.size, 0, none⟩ 0 cj = w4 at q2 q3
    simp only [wpR, thenC]
    -- the region
    have hgs4 := hgs.same q3
    have hrj4 := hrj.mod (ok' := fun b => b < N) q3 (by simp) fun _ _ h => h
    have hN4 : N ≤ w4.heap.size := Nat.le_trans hN (Nat.le_trans hmw.size q3.size)
    have sz4 : w3.heap.size ≤ w4.heap.size := Nat.le_trans hgs.mod.size q3.size
    show wpD P _ _ _ w4.drew _
    refine wpD_of_B (fun jj v w' => if jj = 3 then ∃ cs', v = .agg cs'.toArray ∧ RepT (fun b => b < N ∨ w4.heap.size ≤ b) w' tj cs' else ∃ sb cs', v = .slice (some ⟨sb, 0, none⟩) 1 1 ∧ Blk w' sb cs' ∧ RepT (fun b => b < N ∨ w4.heap.size ≤ b) w' tj cs') ?_ ?_
    · intro jj v w5 w6 h hm
      split at h
      · rename_i hjj; rw [if_pos hjj]
        obtain ⟨cs', g1, g2⟩ := h
        exact ⟨cs', g1, g2.mod hm (by simp) fun _ _ h => h⟩
      · rename_i hjj; rw [if_neg hjj]
        obtain ⟨sb, cs', g1, g2, g3⟩ := h
        exact ⟨sb, cs', g1, g2.mod hm (by simp), g3.mod hm (by simp) fun _ _ h => h⟩
    refine walkB_step (v := .pointer (some ⟨Ob, 3, none⟩)) (by simp [RK.val?, s3, Addr.add_mk]) ?_
    refine walkB_step (v := lv) (by simp [RK.val?]; exact hgs4.ob.cell 3) ?_
    refine walkB_step (v := .agg cj.toArray) (by
      have : cellsAt w4.drew ⟨w1.heap.size, 0, none⟩ 0 5 = some cj := cellsAt_of' (show Cells w4.drew _ _ from q2.cells) hrj.five
      simp [RK.val?, this]) ?_
    refine walkB_node (fun w5 hm5 _ => ?_) fun u hu => ?_
    · have hm45 : Mod [] w4 w5 := (Mod.drew _ _).trans hm5
      have := hf tj (List.mem_of_getElem? htj) N w5 cj (Nat.le_trans hN4 hm45.size) (hrj4.mod hm45 (by simp) fun _ _ h => h)
      simp only [RK.run, List.map_cons, List.map_nil, ev, updo, upd, if_true]
      refine this.mono ?_
      rintro e w6 ⟨cs', rfl, g1, g2⟩
      refine ⟨_, rfl, g2, ?_⟩
      exact ⟨cs', rfl, g1.mod (Mod.refl [] _) (by simp) fun b _ hb => hb.imp id fun h => Nat.le_trans hm45.size h⟩
    obtain ⟨wu, hu⟩ := hu
    obtain ⟨cu, rfl, hcu⟩ := hu
    refine walkB_node (fun w5 hm5 hkn => ?_) fun u2 hu2 => ?_
    · have h3 := hkn 3 (by simp) _ rfl rfl rfl 25 rfl
      dsimp only at h3
      rw [if_pos rfl] at h3
      simp only [updo, upd, if_true] at h3
      obtain ⟨cs', e3, h3⟩ := h3
      have : cu = cs' := by
        have := congrArg (fun v => match v with | Value.agg a => a.toList | _ => []) e3
        simpa using this
      subst this
      refine bslice_run (cs := cu) (n0 := 0) (by simp) h3.five (Nat.zero_le _) fun v w6 hbs hm6 => ?_
      obtain ⟨sb, cs', g1, g2, g3, g4, g5⟩ := hbs
      have : cs' = cu := by
        have := congrArg (fun v => match v with | Value.agg a => a.toList | _ => []) g5
        simpa using this
      subst this
      refine ⟨hm6, ?_⟩
      rw [if_neg (by omega)]
      exact ⟨sb, cs', g1, g3, h3.mod hm6 (by simp) fun _ _ h => h⟩
    simp only [walkB]
    intro w5 hm5 hkn
    have h4 := hkn 4 (by simp) _ rfl rfl rfl 26 rfl
    dsimp only at h4
    rw [if_neg (by omega)] at h4
    simp only [updo, upd, if_true] at h4
    obtain ⟨sb, es, rfl, hblk, htree⟩ := h4
    have hm45 : Mod [] w4 w5 := (Mod.drew _ _).trans hm5
    refine (hgs4.same hm45).step (wr := w4) (t := tj) (by simp) (by simp) hblk htree (by omega) (fun b hb => (hgs4.raw.own hb).2) sz4 (fun v => by simp [s3]) (by decide) fun w6 lv' hgs6 => ?_
    simp only [inBlockC, thenC]
    have hw : IntKind.i64.wrap ((j : Int) + 1) = ((j + 1 : Nat) : Int) := by
      simp only [IntKind.wrap, IntKind.bits, IntKind.signed]; simp; omega
    rw [wpC_blk]
    refine wpR_step (v := .int .i64 ((j + 1 : Nat) : Int)) (by simp [RK.val?, intBin, s18, hw]) ?_
    refine wpR_step (v := .int .i64 ((j + 1 : Nat) : Int)) (by simp [RK.val?]) ?_
    simp only [wpR, thenC]
    refine ⟨⟨j + 1, lv', tcs ++ [es], hlt, by simp [s1], by simp [s2], by simp [s3], by simp [s16], by simp [s17], by simp, ?_, by simp [htl]⟩, ?_⟩
    · rw [List.take_add_one, htj]; simpa using hgs6
    · simp [s18]; show l.length - (j + 1) < l.length - j; omega
  · rw [wpC_cond_f (by simp; omega)]
    have hje : j = l.length := by omega
    subst hje
    rw [List.take_length] at hgs
    simp only [wpC, inBlockC, thenC, if_true]
    exact hQ _ w1 lv tcs (by simp [s1]) (by simp [s2]) (by simp [s3]) hgs htl
end
end Go.Msk

namespace Go.Msk
open Go.RowKit
set_option maxRecDepth 100000
def tabU : ByteArray := ⟨#[1, 1, 1, 1, 1, 1, 1, 1, 2, 2, 2, 2, 2, 2, 2, 3, 3, 3, 3, 3, 3, 3, 4, 4, 4, 4, 4, 4, 4, 5, 5, 5, 5, 5, 5, 5, 6, 6, 6, 6, 6, 6, 6, 7, 7, 7, 7, 7, 7, 7, 8, 8, 8, 8, 8, 8, 8, 9, 9, 9, 9, 9, 9, 9, 10, 0, 0, 0, 0, 0, 0, 0, 0, 0, 0, 0, 0, 0, 0, 0, 0, 0, 0, 0, 0, 0, 0, 0, 0, 0, 0, 0, 0, 0, 0, 0, 0, 0, 0, 0, 0, 0, 0, 0, 0, 0, 0, 0, 0, 0, 0, 0, 0, 0, 0, 0, 0, 0, 0, 0, 0, 0, 0, 0, 0, 0, 0, 0, 0, 0, 0, 0, 0, 0, 0, 0, 0, 0, 0, 0, 0, 0, 0, 0, 0, 0, 0, 0, 0, 0, 0, 0, 0, 0, 0, 0, 0, 0, 0, 0, 0, 0, 0, 0, 0, 0, 0, 0, 0, 0, 0, 0, 0, 0, 0, 0, 0, 0, 0, 0, 0, 0, 0, 0, 0, 0, 0, 0, 0, 0, 0, 0, 0, 0, 0, 0, 0, 0, 0, 0, 0, 0, 0, 0, 0, 0, 0, 0, 0, 0, 0, 0, 0, 0, 0, 0, 0, 0, 0, 0, 0, 0, 0, 0, 0, 0, 0, 0, 0, 0, 0, 0, 0, 0, 0, 0, 0, 0, 0, 0, 0, 0, 0, 0, 0, 0, 0, 0, 0, 0, 0, 0, 0, 0, 0, 0]⟩
def tab8 : ByteArray := ⟨#[0, 1, 2, 2, 3, 3, 3, 3, 4, 4, 4, 4, 4, 4, 4, 4, 5, 5, 5, 5, 5, 5, 5, 5, 5, 5, 5, 5, 5, 5, 5, 5, 6, 6, 6, 6, 6, 6, 6, 6, 6, 6, 6, 6, 6, 6, 6, 6, 6, 6, 6, 6, 6, 6, 6, 6, 6, 6, 6, 6, 6, 6, 6, 6, 7, 7, 7, 7, 7, 7, 7, 7, 7, 7, 7, 7, 7, 7, 7, 7, 7, 7, 7, 7, 7, 7, 7, 7, 7, 7, 7, 7, 7, 7, 7, 7, 7, 7, 7, 7, 7, 7, 7, 7, 7, 7, 7, 7, 7, 7, 7, 7, 7, 7, 7, 7, 7, 7, 7, 7, 7, 7, 7, 7, 7, 7, 7, 7, 8, 8, 8, 8, 8, 8, 8, 8, 8, 8, 8, 8, 8, 8, 8, 8, 8, 8, 8, 8, 8, 8, 8, 8, 8, 8, 8, 8, 8, 8, 8, 8, 8, 8, 8, 8, 8, 8, 8, 8, 8, 8, 8, 8, 8, 8, 8, 8, 8, 8, 8, 8, 8, 8, 8, 8, 8, 8, 8, 8, 8, 8, 8, 8, 8, 8, 8, 8, 8, 8, 8, 8, 8, 8, 8, 8, 8, 8, 8, 8, 8, 8, 8, 8, 8, 8, 8, 8, 8, 8, 8, 8, 8, 8, 8, 8, 8, 8, 8, 8, 8, 8, 8, 8, 8, 8, 8, 8, 8, 8, 8, 8, 8, 8, 8, 8, 8, 8, 8, 8, 8, 8, 8, 8, 8, 8, 8, 8]⟩
def ir_kAppendBool (_F : Nat → Nat) : IC × List RV × Nat := (.seq (.blk [⟨some 4, .mv (.const (.slice none 0 0)), none⟩])
 (.seq (.seq (.blk [⟨some 5, .mv (.tmp 1), none⟩])
 (.cond (.tmp 5)
 (.seq (.blk [⟨some 6, .mv (.tmp 0), none⟩,
 ⟨some 7, .bslice 1 [.int .u8 0] [(0, 1, .const (.int .u8 1))], none⟩,
 ⟨some 8, .append (.tmp 6) (.tmp 7) 1 1, none⟩,
 ⟨some 4, .mv (.tmp 8), none⟩])
 (.ret))
 (.skip)))
 (.seq (.blk [⟨some 9, .mv (.tmp 0), none⟩,
 ⟨some 10, .bslice 1 [.int .u8 0] [(0, 1, .const (.int .u8 0))], none⟩,
 ⟨some 11, .append (.tmp 9) (.tmp 10) 1 1, none⟩,
 ⟨some 4, .mv (.tmp 11), none⟩])
 (.ret))),
 [.tmp 4], 12)
def ir_kAppendInt8 (_F : Nat → Nat) : IC × List RV × Nat := (.seq (.blk [⟨some 4, .mv (.const (.slice none 0 0)), none⟩])
 (.seq (.blk [⟨some 5, .mv (.tmp 0), none⟩,
 ⟨some 6, .mv (.tmp 1), none⟩,
 ⟨some 7, .conv .u8 (.tmp 6), none⟩,
 ⟨some 8, .bslice 1 [.int .u8 0] [(0, 1, .tmp 7)], none⟩,
 ⟨some 9, .append (.tmp 5) (.tmp 8) 1 1, none⟩,
 ⟨some 4, .mv (.tmp 9), none⟩])
 (.ret)),
 [.tmp 4], 10)
def ir_kAppendInt16 (F : Nat → Nat) : IC × List RV × Nat := (.seq (.blk [⟨some 4, .mv (.const (.slice none 0 0)), none⟩])
 (.seq (.blk [⟨some 5, .mv (.tmp 0), none⟩,
 ⟨some 6, .mv (.tmp 1), none⟩,
 ⟨some 7, .conv .u16 (.tmp 6), none⟩,
 ⟨some 8, .call (F kAppendUint16) [.tmp 5, .tmp 7], none⟩,
 ⟨some 4, .mv (.tmp 8), none⟩])
 (.ret)),
 [.tmp 4], 9)
def ir_kAppendUint16 (_F : Nat → Nat) : IC × List RV × Nat := (.seq (.blk [⟨some 4, .mv (.const (.slice none 0 0)), none⟩])
 (.seq (.blk [⟨some 5, .mv (.tmp 0), none⟩,
 ⟨some 6, .mv (.tmp 1), none⟩,
 ⟨some 7, .bin .shr (.tmp 6) (.const (.int .u64 8)), none⟩,
 ⟨some 8, .conv .u8 (.tmp 7), none⟩,
 ⟨some 9, .mv (.tmp 1), none⟩,
 ⟨some 10, .conv .u8 (.tmp 9), none⟩,
 ⟨some 11, .bslice 2 [.int .u8 0] [(0, 1, .tmp 8), (1, 1, .tmp 10)], none⟩,
 ⟨some 12, .append (.tmp 5) (.tmp 11) 1 1, none⟩,
 ⟨some 4, .mv (.tmp 12), none⟩])
 (.ret)),
 [.tmp 4], 13)
def ir_kAppendInt32 (F : Nat → Nat) : IC × List RV × Nat := (.seq (.blk [⟨some 4, .mv (.const (.slice none 0 0)), none⟩])
 (.seq (.blk [⟨some 5, .mv (.tmp 0), none⟩,
 ⟨some 6, .mv (.tmp 1), none⟩,
 ⟨some 7, .conv .u32 (.tmp 6), none⟩,
 ⟨some 8, .call (F kAppendUint32) [.tmp 5, .tmp 7], none⟩,
 ⟨some 4, .mv (.tmp 8), none⟩])
 (.ret)),
 [.tmp 4], 9)
def ir_kAppendUint32 (_F : Nat → Nat) : IC × List RV × Nat := (.seq (.blk [⟨some 4, .mv (.const (.slice none 0 0)), none⟩])
 (.seq (.blk [⟨some 5, .mv (.tmp 0), none⟩,
 ⟨some 6, .mv (.tmp 1), none⟩,
 ⟨some 7, .bin .shr (.tmp 6) (.const (.int .u64 24)), none⟩,
 ⟨some 8, .conv .u8 (.tmp 7), none⟩,
 ⟨some 9, .mv (.tmp 1), none⟩,
 ⟨some 10, .bin .shr (.tmp 9) (.const (.int .u64 16)), none⟩,
 ⟨some 11, .conv .u8 (.tmp 10), none⟩,
 ⟨some 12, .mv (.tmp 1), none⟩,
 ⟨some 13, .bin .shr (.tmp 12) (.const (.int .u64 8)), none⟩,
 ⟨some 14, .conv .u8 (.tmp 13), none⟩,
 ⟨some 15, .mv (.tmp 1), none⟩,
 ⟨some 16, .conv .u8 (.tmp 15), none⟩,
 ⟨some 17, .bslice 4 [.int .u8 0] [(0, 1, .tmp 8), (1, 1, .tmp 11), (2, 1, .tmp 14), (3, 1, .tmp 16)], none⟩,
 ⟨some 18, .append (.tmp 5) (.tmp 17) 1 1, none⟩,
 ⟨some 4, .mv (.tmp 18), none⟩])
 (.ret)),
 [.tmp 4], 19)
def ir_kAppendInt64 (F : Nat → Nat) : IC × List RV × Nat := (.seq (.blk [⟨some 4, .mv (.const (.slice none 0 0)), none⟩])
 (.seq (.blk [⟨some 5, .mv (.tmp 0), none⟩,
 ⟨some 6, .mv (.tmp 1), none⟩,
 ⟨some 7, .conv .u64 (.tmp 6), none⟩,
 ⟨some 8, .call (F kAppendUint64) [.tmp 5, .tmp 7], none⟩,
 ⟨some 4, .mv (.tmp 8), none⟩])
 (.ret)),
 [.tmp 4], 9)
def ir_kAppendUint64 (_F : Nat → Nat) : IC × List RV × Nat := (.seq (.blk [⟨some 4, .mv (.const (.slice none 0 0)), none⟩])
 (.seq (.blk [⟨some 5, .mv (.tmp 0), none⟩,
 ⟨some 6, .mv (.tmp 1), none⟩,
 ⟨some 7, .bin .shr (.tmp 6) (.const (.int .u64 56)), none⟩,
 ⟨some 8, .conv .u8 (.tmp 7), none⟩,
 ⟨some 9, .mv (.tmp 1), none⟩,
 ⟨some 10, .bin .shr (.tmp 9) (.const (.int .u64 48)), none⟩,
 ⟨some 11, .conv .u8 (.tmp 10), none⟩,
 ⟨some 12, .mv (.tmp 1), none⟩,
 ⟨some 13, .bin .shr (.tmp 12) (.const (.int .u64 40)), none⟩,
 ⟨some 14, .conv .u8 (.tmp 13), none⟩,
 ⟨some 15, .mv (.tmp 1), none⟩,
 ⟨some 16, .bin .shr (.tmp 15) (.const (.int .u64 32)), none⟩,
 ⟨some 17, .conv .u8 (.tmp 16), none⟩,
 ⟨some 18, .mv (.tmp 1), none⟩,
 ⟨some 19, .bin .shr (.tmp 18) (.const (.int .u64 24)), none⟩,
 ⟨some 20, .conv .u8 (.tmp 19), none⟩,
 ⟨some 21, .mv (.tmp 1), none⟩,
 ⟨some 22, .bin .shr (.tmp 21) (.const (.int .u64 16)), none⟩,
 ⟨some 23, .conv .u8 (.tmp 22), none⟩,
 ⟨some 24, .mv (.tmp 1), none⟩,
 ⟨some 25, .bin .shr (.tmp 24) (.const (.int .u64 8)), none⟩,
 ⟨some 26, .conv .u8 (.tmp 25), none⟩,
 ⟨some 27, .mv (.tmp 1), none⟩,
 ⟨some 28, .conv .u8 (.tmp 27), none⟩,
 ⟨some 29, .bslice 8 [.int .u8 0] [(0, 1, .tmp 8), (1, 1, .tmp 11), (2, 1, .tmp 14), (3, 1, .tmp 17), (4, 1, .tmp 20), (5, 1, .tmp 23), (6, 1, .tmp 26), (7, 1, .tmp 28)], none⟩,
 ⟨some 30, .append (.tmp 5) (.tmp 29) 1 1, none⟩,
 ⟨some 4, .mv (.tmp 30), none⟩])
 (.ret)),
 [.tmp 4], 31)
def ir_kAppendUuid (_F : Nat → Nat) : IC × List RV × Nat := (.seq (.blk [⟨some 3, .box (.tmp 1), none⟩,
 ⟨some 4, .mv (.const (.slice none 0 0)), none⟩])
 (.seq (.blk [⟨some 5, .mv (.tmp 0), none⟩,
 ⟨some 6, .slicea (.tmp 3) 16, none⟩,
 ⟨some 7, .append (.tmp 5) (.tmp 6) 1 1, none⟩,
 ⟨some 4, .mv (.tmp 7), none⟩])
 (.ret)),
 [.tmp 4], 8)
def ir_kAppendUvarint (F : Nat → Nat) : IC × List RV × Nat := (.seq (.blk [⟨some 4, .mv (.const (.slice none 0 0)), none⟩])
 (.seq (.seq (.blk [⟨some 5, .mv (.tmp 1), none⟩,
 ⟨some 6, .call (F kUvarintLen) [.tmp 5], none⟩])
 (.block 0 (.seq (.blk [⟨some 8, .bin .eql (.tmp 6) (.const (.int .i64 5)), none⟩,
 ⟨some 7, .mv (.tmp 8), none⟩])
 (.cond (.tmp 7)
 (.seq (.blk [⟨some 9, .mv (.tmp 0), none⟩,
 ⟨some 10, .mv (.tmp 1), none⟩,
 ⟨some 11, .bin .and (.tmp 10) (.const (.int .u32 127)), none⟩,
 ⟨some 12, .bin .or (.tmp 11) (.const (.int .u32 128)), none⟩,
 ⟨some 13, .conv .u8 (.tmp 12), none⟩,
 ⟨some 14, .mv (.tmp 1), none⟩,
 ⟨some 15, .bin .shr (.tmp 14) (.const (.int .u64 7)), none⟩,
 ⟨some 16, .bin .and (.tmp 15) (.const (.int .u32 127)), none⟩,
 ⟨some 17, .bin .or (.tmp 16) (.const (.int .u32 128)), none⟩,
 ⟨some 18, .conv .u8 (.tmp 17), none⟩,
 ⟨some 19, .mv (.tmp 1), none⟩,
 ⟨some 20, .bin .shr (.tmp 19) (.const (.int .u64 14)), none⟩,
 ⟨some 21, .bin .and (.tmp 20) (.const (.int .u32 127)), none⟩,
 ⟨some 22, .bin .or (.tmp 21) (.const (.int .u32 128)), none⟩,
 ⟨some 23, .conv .u8 (.tmp 22), none⟩,
 ⟨some 24, .mv (.tmp 1), none⟩,
 ⟨some 25, .bin .shr (.tmp 24) (.const (.int .u64 21)), none⟩,
 ⟨some 26, .bin .and (.tmp 25) (.const (.int .u32 127)), none⟩,
 ⟨some 27, .bin .or (.tmp 26) (.const (.int .u32 128)), none⟩,
 ⟨some 28, .conv .u8 (.tmp 27), none⟩,
 ⟨some 29, .mv (.tmp 1), none⟩,
 ⟨some 30, .bin .shr (.tmp 29) (.const (.int .u64 28)), none⟩,
 ⟨some 31, .conv .u8 (.tmp 30), none⟩,
 ⟨some 32, .bslice 5 [.int .u8 0] [(0, 1, .tmp 13), (1, 1, .tmp 18), (2, 1, .tmp 23), (3, 1, .tmp 28), (4, 1, .tmp 31)], none⟩,
 ⟨some 33, .append (.tmp 9) (.tmp 32) 1 1, none⟩,
 ⟨some 4, .mv (.tmp 33), none⟩])
 (.ret))
 (.seq (.blk [⟨some 35, .bin .eql (.tmp 6) (.const (.int .i64 4)), none⟩,
 ⟨some 34, .mv (.tmp 35), none⟩])
 (.cond (.tmp 34)
 (.seq (.blk [⟨some 36, .mv (.tmp 0), none⟩,
 ⟨some 37, .mv (.tmp 1), none⟩,
 ⟨some 38, .bin .and (.tmp 37) (.const (.int .u32 127)), none⟩,
 ⟨some 39, .bin .or (.tmp 38) (.const (.int .u32 128)), none⟩,
 ⟨some 40, .conv .u8 (.tmp 39), none⟩,
 ⟨some 41, .mv (.tmp 1), none⟩,
 ⟨some 42, .bin .shr (.tmp 41) (.const (.int .u64 7)), none⟩,
 ⟨some 43, .bin .and (.tmp 42) (.const (.int .u32 127)), none⟩,
 ⟨some 44, .bin .or (.tmp 43) (.const (.int .u32 128)), none⟩,
 ⟨some 45, .conv .u8 (.tmp 44), none⟩,
 ⟨some 46, .mv (.tmp 1), none⟩,
 ⟨some 47, .bin .shr (.tmp 46) (.const (.int .u64 14)), none⟩,
 ⟨some 48, .bin .and (.tmp 47) (.const (.int .u32 127)), none⟩,
 ⟨some 49, .bin .or (.tmp 48) (.const (.int .u32 128)), none⟩,
 ⟨some 50, .conv .u8 (.tmp 49), none⟩,
 ⟨some 51, .mv (.tmp 1), none⟩,
 ⟨some 52, .bin .shr (.tmp 51) (.const (.int .u64 21)), none⟩,
 ⟨some 53, .conv .u8 (.tmp 52), none⟩,
 ⟨some 54, .bslice 4 [.int .u8 0] [(0, 1, .tmp 40), (1, 1, .tmp 45), (2, 1, .tmp 50), (3, 1, .tmp 53)], none⟩,
 ⟨some 55, .append (.tmp 36) (.tmp 54) 1 1, none⟩,
 ⟨some 4, .mv (.tmp 55), none⟩])
 (.ret))
 (.seq (.blk [⟨some 57, .bin .eql (.tmp 6) (.const (.int .i64 3)), none⟩,
 ⟨some 56, .mv (.tmp 57), none⟩])
 (.cond (.tmp 56)
 (.seq (.blk [⟨some 58, .mv (.tmp 0), none⟩,
 ⟨some 59, .mv (.tmp 1), none⟩,
 ⟨some 60, .bin .and (.tmp 59) (.const (.int .u32 127)), none⟩,
 ⟨some 61, .bin .or (.tmp 60) (.const (.int .u32 128)), none⟩,
 ⟨some 62, .conv .u8 (.tmp 61), none⟩,
 ⟨some 63, .mv (.tmp 1), none⟩,
 ⟨some 64, .bin .shr (.tmp 63) (.const (.int .u64 7)), none⟩,
 ⟨some 65, .bin .and (.tmp 64) (.const (.int .u32 127)), none⟩,
 ⟨some 66, .bin .or (.tmp 65) (.const (.int .u32 128)), none⟩,
 ⟨some 67, .conv .u8 (.tmp 66), none⟩,
 ⟨some 68, .mv (.tmp 1), none⟩,
 ⟨some 69, .bin .shr (.tmp 68) (.const (.int .u64 14)), none⟩,
 ⟨some 70, .conv .u8 (.tmp 69), none⟩,
 ⟨some 71, .bslice 3 [.int .u8 0] [(0, 1, .tmp 62), (1, 1, .tmp 67), (2, 1, .tmp 70)], none⟩,
 ⟨some 72, .append (.tmp 58) (.tmp 71) 1 1, none⟩,
 ⟨some 4, .mv (.tmp 72), none⟩])
 (.ret))
 (.seq (.blk [⟨some 74, .bin .eql (.tmp 6) (.const (.int .i64 2)), none⟩,
 ⟨some 73, .mv (.tmp 74), none⟩])
 (.cond (.tmp 73)
 (.seq (.blk [⟨some 75, .mv (.tmp 0), none⟩,
 ⟨some 76, .mv (.tmp 1), none⟩,
 ⟨some 77, .bin .and (.tmp 76) (.const (.int .u32 127)), none⟩,
 ⟨some 78, .bin .or (.tmp 77) (.const (.int .u32 128)), none⟩,
 ⟨some 79, .conv .u8 (.tmp 78), none⟩,
 ⟨some 80, .mv (.tmp 1), none⟩,
 ⟨some 81, .bin .shr (.tmp 80) (.const (.int .u64 7)), none⟩,
 ⟨some 82, .conv .u8 (.tmp 81), none⟩,
 ⟨some 83, .bslice 2 [.int .u8 0] [(0, 1, .tmp 79), (1, 1, .tmp 82)], none⟩,
 ⟨some 84, .append (.tmp 75) (.tmp 83) 1 1, none⟩,
 ⟨some 4, .mv (.tmp 84), none⟩])
 (.ret))
 (.seq (.blk [⟨some 86, .bin .eql (.tmp 6) (.const (.int .i64 1)), none⟩,
 ⟨some 85, .mv (.tmp 86), none⟩])
 (.cond (.tmp 85)
 (.seq (.blk [⟨some 87, .mv (.tmp 0), none⟩,
 ⟨some 88, .mv (.tmp 1), none⟩,
 ⟨some 89, .conv .u8 (.tmp 88), none⟩,
 ⟨some 90, .bslice 1 [.int .u8 0] [(0, 1, .tmp 89)], none⟩,
 ⟨some 91, .append (.tmp 87) (.tmp 90) 1 1, none⟩,
 ⟨some 4, .mv (.tmp 91), none⟩])
 (.ret))
 (.skip)))))))))))))
 (.seq (.blk [⟨some 92, .mv (.tmp 0), none⟩,
 ⟨some 4, .mv (.tmp 92), none⟩])
 (.ret))),
 [.tmp 4], 93)
def ir_kUvarintLen (F : Nat → Nat) : IC × List RV × Nat := (.seq (.blk [⟨some 2, .mv (.const (.int .i64 0)), none⟩])
 (.seq (.blk [⟨some 3, .mv (.tmp 0), none⟩,
 ⟨some 4, .call (F bLen32) [.tmp 3], none⟩,
 ⟨some 5, .conv .u8 (.tmp 4), none⟩,
 ⟨some 6, .idx (.const (.string tabU)) (.tmp 5), none⟩,
 ⟨some 7, .conv .i64 (.tmp 6), none⟩,
 ⟨some 2, .mv (.tmp 7), none⟩])
 (.ret)),
 [.tmp 2], 8)
def ir_kAppendString (F : Nat → Nat) : IC × List RV × Nat := (.seq (.blk [⟨some 4, .mv (.const (.slice none 0 0)), none⟩])
 (.seq (.blk [⟨some 5, .mv (.tmp 0), none⟩,
 ⟨some 6, .mv (.tmp 1), none⟩,
 ⟨some 7, .slen (.tmp 6), none⟩,
 ⟨some 8, .conv .i16 (.tmp 7), none⟩,
 ⟨some 9, .call (F kAppendInt16) [.tmp 5, .tmp 8], none⟩,
 ⟨some 0, .mv (.tmp 9), none⟩])
 (.seq (.blk [⟨some 10, .mv (.tmp 0), none⟩,
 ⟨some 11, .mv (.tmp 1), none⟩,
 ⟨some 12, .append (.tmp 10) (.tmp 11) 1 1, none⟩,
 ⟨some 4, .mv (.tmp 12), none⟩])
 (.ret))),
 [.tmp 4], 13)
def ir_kAppendCompactString (F : Nat → Nat) : IC × List RV × Nat := (.seq (.blk [⟨some 4, .mv (.const (.slice none 0 0)), none⟩])
 (.seq (.blk [⟨some 5, .mv (.tmp 0), none⟩,
 ⟨some 6, .mv (.tmp 1), none⟩,
 ⟨some 7, .slen (.tmp 6), none⟩,
 ⟨some 8, .conv .u32 (.tmp 7), none⟩,
 ⟨some 9, .bin .add (.const (.int .u32 1)) (.tmp 8), none⟩,
 ⟨some 10, .call (F kAppendUvarint) [.tmp 5, .tmp 9], none⟩,
 ⟨some 0, .mv (.tmp 10), none⟩])
 (.seq (.blk [⟨some 11, .mv (.tmp 0), none⟩,
 ⟨some 12, .mv (.tmp 1), none⟩,
 ⟨some 13, .append (.tmp 11) (.tmp 12) 1 1, none⟩,
 ⟨some 4, .mv (.tmp 13), none⟩])
 (.ret))),
 [.tmp 4], 14)
def ir_kAppendNullableString (F : Nat → Nat) : IC × List RV × Nat := (.seq (.blk [⟨some 4, .mv (.const (.slice none 0 0)), none⟩])
 (.seq (.seq (.blk [⟨some 5, .mv (.tmp 1), none⟩,
 ⟨some 6, .isnil .pt false (.tmp 5), none⟩])
 (.cond (.tmp 6)
 (.seq (.blk [⟨some 7, .mv (.tmp 0), none⟩,
 ⟨some 8, .call (F kAppendInt16) [.tmp 7, .const (.int .i16 (-1))], none⟩,
 ⟨some 4, .mv (.tmp 8), none⟩])
 (.ret))
 (.skip)))
 (.seq (.blk [⟨some 9, .mv (.tmp 0), none⟩,
 ⟨some 10, .mv (.tmp 1), none⟩,
 ⟨some 11, .nilc (.tmp 10), none⟩,
 ⟨some 12, .ld (.tmp 11), none⟩,
 ⟨some 13, .call (F kAppendString) [.tmp 9, .tmp 12], none⟩,
 ⟨some 4, .mv (.tmp 13), none⟩])
 (.ret))),
 [.tmp 4], 14)
def ir_kAppendCompactNullableString (F : Nat → Nat) : IC × List RV × Nat := (.seq (.blk [⟨some 4, .mv (.const (.slice none 0 0)), none⟩])
 (.seq (.seq (.blk [⟨some 5, .mv (.tmp 1), none⟩,
 ⟨some 6, .isnil .pt false (.tmp 5), none⟩])
 (.cond (.tmp 6)
 (.seq (.blk [⟨some 7, .mv (.tmp 0), none⟩,
 ⟨some 8, .call (F kAppendUvarint) [.tmp 7, .const (.int .u32 0)], none⟩,
 ⟨some 4, .mv (.tmp 8), none⟩])
 (.ret))
 (.skip)))
 (.seq (.blk [⟨some 9, .mv (.tmp 0), none⟩,
 ⟨some 10, .mv (.tmp 1), none⟩,
 ⟨some 11, .nilc (.tmp 10), none⟩,
 ⟨some 12, .ld (.tmp 11), none⟩,
 ⟨some 13, .call (F kAppendCompactString) [.tmp 9, .tmp 12], none⟩,
 ⟨some 4, .mv (.tmp 13), none⟩])
 (.ret))),
 [.tmp 4], 14)
def ir_kAppendBytes (F : Nat → Nat) : IC × List RV × Nat := (.seq (.blk [⟨some 4, .mv (.const (.slice none 0 0)), none⟩])
 (.seq (.blk [⟨some 5, .mv (.tmp 0), none⟩,
 ⟨some 6, .mv (.tmp 1), none⟩,
 ⟨some 7, .len (.tmp 6), none⟩,
 ⟨some 8, .conv .i32 (.tmp 7), none⟩,
 ⟨some 9, .call (F kAppendInt32) [.tmp 5, .tmp 8], none⟩,
 ⟨some 0, .mv (.tmp 9), none⟩])
 (.seq (.blk [⟨some 10, .mv (.tmp 0), none⟩,
 ⟨some 11, .mv (.tmp 1), none⟩,
 ⟨some 12, .append (.tmp 10) (.tmp 11) 1 1, none⟩,
 ⟨some 4, .mv (.tmp 12), none⟩])
 (.ret))),
 [.tmp 4], 13)
def ir_kAppendCompactBytes (F : Nat → Nat) : IC × List RV × Nat := (.seq (.blk [⟨some 4, .mv (.const (.slice none 0 0)), none⟩])
 (.seq (.blk [⟨some 5, .mv (.tmp 0), none⟩,
 ⟨some 6, .mv (.tmp 1), none⟩,
 ⟨some 7, .len (.tmp 6), none⟩,
 ⟨some 8, .conv .u32 (.tmp 7), none⟩,
 ⟨some 9, .bin .add (.const (.int .u32 1)) (.tmp 8), none⟩,
 ⟨some 10, .call (F kAppendUvarint) [.tmp 5, .tmp 9], none⟩,
 ⟨some 0, .mv (.tmp 10), none⟩])
 (.seq (.blk [⟨some 11, .mv (.tmp 0), none⟩,
 ⟨some 12, .mv (.tmp 1), none⟩,
 ⟨some 13, .append (.tmp 11) (.tmp 12) 1 1, none⟩,
 ⟨some 4, .mv (.tmp 13), none⟩])
 (.ret))),
 [.tmp 4], 14)
def ir_kAppendArrayLen (F : Nat → Nat) : IC × List RV × Nat := (.seq (.blk [⟨some 4, .mv (.const (.slice none 0 0)), none⟩])
 (.seq (.blk [⟨some 5, .mv (.tmp 0), none⟩,
 ⟨some 6, .mv (.tmp 1), none⟩,
 ⟨some 7, .conv .i32 (.tmp 6), none⟩,
 ⟨some 8, .call (F kAppendInt32) [.tmp 5, .tmp 7], none⟩,
 ⟨some 4, .mv (.tmp 8), none⟩])
 (.ret)),
 [.tmp 4], 9)
def ir_kAppendCompactArrayLen (F : Nat → Nat) : IC × List RV × Nat := (.seq (.blk [⟨some 4, .mv (.const (.slice none 0 0)), none⟩])
 (.seq (.blk [⟨some 5, .mv (.tmp 0), none⟩,
 ⟨some 6, .mv (.tmp 1), none⟩,
 ⟨some 7, .conv .u32 (.tmp 6), none⟩,
 ⟨some 8, .bin .add (.const (.int .u32 1)) (.tmp 7), none⟩,
 ⟨some 9, .call (F kAppendUvarint) [.tmp 5, .tmp 8], none⟩,
 ⟨some 4, .mv (.tmp 9), none⟩])
 (.ret)),
 [.tmp 4], 10)
def ir_kAppendNullableArrayLen (F : Nat → Nat) : IC × List RV × Nat := (.seq (.blk [⟨some 6, .mv (.const (.slice none 0 0)), none⟩])
 (.seq (.seq (.blk [⟨some 7, .mv (.tmp 2), none⟩])
 (.cond (.tmp 7)
 (.seq (.blk [⟨some 8, .mv (.tmp 0), none⟩,
 ⟨some 9, .call (F kAppendInt32) [.tmp 8, .const (.int .i32 (-1))], none⟩,
 ⟨some 6, .mv (.tmp 9), none⟩])
 (.ret))
 (.skip)))
 (.seq (.blk [⟨some 10, .mv (.tmp 0), none⟩,
 ⟨some 11, .mv (.tmp 1), none⟩,
 ⟨some 12, .conv .i32 (.tmp 11), none⟩,
 ⟨some 13, .call (F kAppendInt32) [.tmp 10, .tmp 12], none⟩,
 ⟨some 6, .mv (.tmp 13), none⟩])
 (.ret))),
 [.tmp 6], 14)
def ir_kAppendCompactNullableArrayLen (F : Nat → Nat) : IC × List RV × Nat := (.seq (.blk [⟨some 6, .mv (.const (.slice none 0 0)), none⟩])
 (.seq (.seq (.blk [⟨some 7, .mv (.tmp 2), none⟩])
 (.cond (.tmp 7)
 (.seq (.blk [⟨some 8, .mv (.tmp 0), none⟩,
 ⟨some 9, .call (F kAppendUvarint) [.tmp 8, .const (.int .u32 0)], none⟩,
 ⟨some 6, .mv (.tmp 9), none⟩])
 (.ret))
 (.skip)))
 (.seq (.blk [⟨some 10, .mv (.tmp 0), none⟩,
 ⟨some 11, .mv (.tmp 1), none⟩,
 ⟨some 12, .conv .u32 (.tmp 11), none⟩,
 ⟨some 13, .bin .add (.const (.int .u32 1)) (.tmp 12), none⟩,
 ⟨some 14, .call (F kAppendUvarint) [.tmp 10, .tmp 13], none⟩,
 ⟨some 6, .mv (.tmp 14), none⟩])
 (.ret))),
 [.tmp 6], 15)
def ir_tAppendEach (F : Nat → Nat) : IC × List RV × Nat := (.seq (.blk [⟨some 3, .box (.tmp 1), none⟩,
 ⟨some 4, .mv (.const (.slice none 0 0)), none⟩])
 (.seq (.blk [⟨some 5, .mv (.tmp 0), none⟩,
 ⟨some 6, .mkfunc (.func (F tAppendEach1)) [] [.tmp 3], none⟩,
 ⟨some 7, .call (F tEach) [.tmp 5, .tmp 6], none⟩])
 (.seq (.blk [⟨some 8, .ld (.tmp 3), none⟩,
 ⟨some 4, .mv (.tmp 8), none⟩])
 (.ret))),
 [.tmp 4], 9)
def ir_tAppendEach1 (F : Nat → Nat) : IC × List RV × Nat := (.seq (.blk [⟨some 5, .ld (.tmp 2), none⟩,
 ⟨some 6, .mv (.tmp 0), none⟩,
 ⟨some 7, .call (F kAppendUvarint) [.tmp 5, .tmp 6], none⟩,
 ⟨none, .st (.tmp 2) 1 (.tmp 7), none⟩])
 (.seq (.blk [⟨some 8, .ld (.tmp 2), none⟩,
 ⟨some 9, .mv (.tmp 1), none⟩,
 ⟨some 10, .len (.tmp 9), none⟩,
 ⟨some 11, .conv .u32 (.tmp 10), none⟩,
 ⟨some 12, .call (F kAppendUvarint) [.tmp 8, .tmp 11], none⟩,
 ⟨none, .st (.tmp 2) 1 (.tmp 12), none⟩])
 (.blk [⟨some 13, .ld (.tmp 2), none⟩,
 ⟨some 14, .mv (.tmp 1), none⟩,
 ⟨some 15, .append (.tmp 13) (.tmp 14) 1 1, none⟩,
 ⟨none, .st (.tmp 2) 1 (.tmp 15), none⟩])),
 [], 16)
def ir_bLen32 (_F : Nat → Nat) : IC × List RV × Nat := (.seq (.blk [⟨some 2, .mv (.const (.int .i64 0)), none⟩])
 (.seq (.seq (.blk [⟨some 3, .mv (.tmp 0), none⟩,
 ⟨some 4, .bin .geq (.tmp 3) (.const (.int .u32 65536)), none⟩])
 (.cond (.tmp 4)
 (.seq (.blk [⟨some 5, .mv (.tmp 0), none⟩,
 ⟨some 6, .bin .shr (.tmp 5) (.const (.int .u64 16)), none⟩,
 ⟨some 0, .mv (.tmp 6), none⟩])
 (.blk [⟨some 2, .mv (.const (.int .i64 16)), none⟩]))
 (.skip)))
 (.seq (.seq (.blk [⟨some 7, .mv (.tmp 0), none⟩,
 ⟨some 8, .bin .geq (.tmp 7) (.const (.int .u32 256)), none⟩])
 (.cond (.tmp 8)
 (.seq (.blk [⟨some 9, .mv (.tmp 0), none⟩,
 ⟨some 10, .bin .shr (.tmp 9) (.const (.int .u64 8)), none⟩,
 ⟨some 0, .mv (.tmp 10), none⟩])
 (.blk [⟨some 11, .mv (.tmp 2), none⟩,
 ⟨some 12, .bin .add (.tmp 11) (.const (.int .i64 8)), none⟩,
 ⟨some 2, .mv (.tmp 12), none⟩]))
 (.skip)))
 (.seq (.blk [⟨some 13, .mv (.tmp 2), none⟩,
 ⟨some 14, .mv (.tmp 0), none⟩,
 ⟨some 15, .conv .u8 (.tmp 14), none⟩,
 ⟨some 16, .idx (.const (.string tab8)) (.tmp 15), none⟩,
 ⟨some 17, .conv .i64 (.tmp 16), none⟩,
 ⟨some 18, .bin .add (.tmp 13) (.tmp 17), none⟩,
 ⟨some 2, .mv (.tmp 18), none⟩])
 (.ret)))),
 [.tmp 2], 19)
end Go.Msk
