/- A small language of resolved operations, and what the generic and the generated functions do in it (part 9). -/
import Derived.Test.YtieneknlekaonaaDoorFh

/-! The reader's methods: numbers of 64 bits, sixteen octets, texts, octets and lengths of flexible messages. -/
namespace Go.Msk
open Go.RowKit
set_option maxRecDepth 100000

/-- Sixteen octets. -/
def rdUuid (s : RS) : List UInt8 × RS := ((rdSpan 16 s).1.getD (List.replicate 16 0), (rdSpan 16 s).2)

/-- The length behind which a text, or octets, of a flexible message stand. -/
def rdCl (s : RS) : Int × RS := (((rdUv s).1 : Int) - 1, (rdUv s).2)

def rdCString (s : RS) : List UInt8 × RS := ((rdSpan (rdCl s).1 (rdCl s).2).1.getD [], (rdSpan (rdCl s).1 (rdCl s).2).2)
def rdCNullableString (s : RS) : Option (List UInt8) × RS :=
  if (rdCl s).1 < 0 then (none, (rdCl s).2) else (some ((rdSpan (rdCl s).1 (rdCl s).2).1.getD []), (rdSpan (rdCl s).1 (rdCl s).2).2)
def rdBytes (s : RS) : Option (List UInt8) × RS :=
  let n := IntKind.i32.wrap (rdN 4 s).1
  if n = -1 then (some [], (rdN 4 s).2) else rdSpan n (rdN 4 s).2
def rdCBytes (s : RS) : Option (List UInt8) × RS := if (rdCl s).1 = -1 then (some [], (rdCl s).2) else rdSpan (rdCl s).1 (rdCl s).2
def rdCNullableBytes (s : RS) : Option (List UInt8) × RS := if (rdCl s).1 < 0 then (none, (rdCl s).2) else rdSpan (rdCl s).1 (rdCl s).2
def rdCArrayLen (s : RS) : Int × RS :=
  let n := IntKind.i32.wrap (IntKind.i32.wrap (rdUv s).1 - 1)
  if ((rdUv s).2.src.length : Int) < n then (0, RS.fail) else (n, (rdUv s).2)

theorem rdSpan_16 {s : RS} {l : List UInt8} (h : (rdSpan 16 s).1 = some l) : l.length = 16 := by
  unfold rdSpan at h
  split at h
  · simp at h
  · simp only at h
    split at h
    · simp at h
    · simp only [Option.some.injEq] at h; subst h; simp; omega

theorem rdUuid_len (s : RS) : (rdUuid s).1.length = 16 := by
  unfold rdUuid
  cases h : (rdSpan 16 s).1 with
  | none => simp
  | some l => simpa using rdSpan_16 h

theorem IsRd.freshL {S S' : List Nat} {w w' : World} {rb : Nat} {s : RS} (h : IsRd S w rb s) (hm : Mod [] w w') (hS : ∀ x ∈ S', x ∈ S ∨ w.heap.size ≤ x) : IsRd S' w' rb s := by
  obtain ⟨base, len, cap, h1, h2, h3, h4⟩ := h.ex
  refine ⟨⟨base, len, cap, h1.mod hm (by simp), h2.mod hm (by simp), h3, fun a ha => ?_⟩, h.short⟩
  obtain ⟨k1, k2, k3⟩ := h4 a ha
  refine ⟨k1, fun hx => ?_, Nat.lt_of_lt_of_le k3 hm.size⟩
  rcases hS _ hx with hx | hx
  · exact k2 hx
  · omega

theorem IsRd.weakL {S S' : List Nat} {w : World} {rb : Nat} {s : RS} (h : IsRd S w rb s) (hS : ∀ x ∈ S', x ∈ S) : IsRd S' w rb s := by
  obtain ⟨base, len, cap, h1, h2, h3, h4⟩ := h.ex
  exact ⟨⟨base, len, cap, h1, h2, h3, fun a ha => ⟨(h4 a ha).1, fun hx => (h4 a ha).2.1 (hS _ hx), (h4 a ha).2.2⟩⟩, h.short⟩

section
variable {P : Program} {F : Nat → Nat}

theorem rUuid_call (hm : P.follows .mixedOrders = true) (h : liftF P (F rUuid) = some (ir_rUuid F)) (hsp : liftF P (F rSpan) = some (ir_rSpan F)) :
    RdC P (F rUuid) fun s => (.agg (u8s (rdUuid s).1).toArray, (rdUuid s).2) := by
  intro S w rb s hr hS
  unfold ir_rUuid at h
  have hz : ([.int .u8 0, .int .u8 0, .int .u8 0, .int .u8 0, .int .u8 0, .int .u8 0, .int .u8 0, .int .u8 0, .int .u8 0, .int .u8 0, .int .u8 0, .int .u8 0, .int .u8 0, .int .u8 0, .int .u8 0, .int .u8 0] : List Value) = u8s (List.replicate 16 0) := by rfl
  rw [hz] at h
  refine call_of h hm (by simp) ?_
  have a0 : args0 [.pointer (some ⟨rb, 0, none⟩)] 0 = .pointer (some ⟨rb, 0, none⟩) := rfl
  generalize args0 [.pointer (some ⟨rb, 0, none⟩)] = σ0 at a0 ⊢
  have hrlt := hr.lt
  rw [wpC_seq, wpC_blk]
  refine wpR_run ?_
  intro T2
  have b2 := Blk.new w (u8s (List.replicate 16 0)) T2
  have m1 : Mod [] w (w.alloc (.cells (u8s (List.replicate 16 0)).toArray T2)) := Mod.alloc _ _ _
  have z1 : (w.alloc (.cells (u8s (List.replicate 16 0)).toArray T2)).heap.size = w.heap.size + 1 := by simp
  generalize w.alloc (.cells (u8s (List.replicate 16 0)).toArray T2) = w1 at b2 m1 z1 ⊢
  refine wpR_done ?_
  rw [wpC_seq, wpC_blk]
  refine wpR_run ?_
  intro T3
  have b3 := Blk.new w1 (u8s (List.replicate 16 0)) T3
  have m2 : Mod [] w1 (w1.alloc (.cells (u8s (List.replicate 16 0)).toArray T3)) := Mod.alloc _ _ _
  have z2 : (w1.alloc (.cells (u8s (List.replicate 16 0)).toArray T3)).heap.size = w1.heap.size + 1 := by simp
  generalize w1.alloc (.cells (u8s (List.replicate 16 0)).toArray T3) = w2 at b3 m2 z2 ⊢
  refine wpR_done ?_
  rw [wpC_seq]
  generalize hσ : updo _ (some 3) _ = σ1
  have k0 : σ1 0 = .pointer (some ⟨rb, 0, none⟩) := by rw [← hσ]; simp [updo, upd, a0]
  have k2 : σ1 2 = .pointer (some ⟨w.heap.size, 0, none⟩) := by rw [← hσ]; simp [updo, upd]
  have k3 : σ1 3 = .pointer (some ⟨w1.heap.size, 0, none⟩) := by rw [← hσ]; simp [updo, upd]
  clear hσ
  have md : Mod [] w2 w2.drew := Mod.drew _ _
  have m02 : Mod [] w w2.drew := (m1.trans m2).trans md
  have hrd : IsRd (w.heap.size :: w1.heap.size :: S) w2.drew rb s := hr.freshL m02 (fun x hx => by
    rcases List.mem_cons.1 hx with rfl | hx
    · exact .inr (Nat.le_refl _)
    · rcases List.mem_cons.1 hx with rfl | hx
      · exact .inr (by omega)
      · exact .inl hx)
  have b3d : Blk w2.drew w1.heap.size (u8s (List.replicate 16 0)) := b3.of_heap rfl
  have b2d : Blk w2.drew w.heap.size (u8s (List.replicate 16 0)) := (b2.mod m2 (by simp)).of_heap rfl
  show wpD P _ _ _ w2.drew _
  generalize w2.drew = wd at md m02 hrd b3d b2d ⊢
  generalize hS' : w.heap.size :: w1.heap.size :: S = S' at hrd
  refine ⟨fun u v => Mod [rb] u v ∧ (IsRd S' u rb (rdSpan 16 s).2 → IsRd S' v rb (rdSpan 16 s).2), fun _ v w' => OctX (rb :: S') w' v (rdSpan 16 s).1 ∧ IsRd S' w' rb (rdSpan 16 s).2, fun j w' => j = 2 → w' = wd,
    fun _ => ⟨Mod.refl _ _, fun h => h⟩, fun _ _ _ h1 h2 => ⟨h1.1.trans h2.1, fun h => h2.2 (h1.2 h)⟩, fun _ v w' w'' h1 h2 => ⟨OctX.mod h1.1 h2.1 (by simp), h2.2 h1.2⟩, fun _ _ => rfl, ?_⟩
  refine walkN_step (v := .slice (some ⟨w1.heap.size, 0, none⟩) 16 16) (fun _ _ => by simp only [RK.val?, ev, k3]) ?_
  refine walkN_step (v := .pointer (some ⟨rb, 0, none⟩)) (fun _ _ => by simp only [RK.val?, ev, updo, upd]; simp [k0]) ?_
  refine walkN_node (fun w3 hR hN _ => ?_) fun v hv => ?_
  · have hN := hN rfl
    subst hN
    have hc := rSpan_call hm hsp hrd 16
    simp only [RK.run]
    have ha : ([.tmp 5, .const (.int .i64 16)] : List Operand).map (ev (updo (updo σ1 (some 4) (.slice (some ⟨w1.heap.size, 0, none⟩) 16 16)) (some 5) (.pointer (some ⟨rb, 0, none⟩)))) = [.pointer (some ⟨rb, 0, none⟩), .int .i64 16] := by
      simp only [List.map_cons, List.map_nil, ev, updo, upd, if_true]
    rw [ha]
    refine hc.mono ?_
    rintro e w4 ⟨v, rfl, h1, h2, h3⟩
    exact ⟨v, rfl, ⟨h3, fun _ => h2⟩, ⟨h1, h2⟩, fun j hj _ h => absurd h hj⟩
  simp only [walk]
  intro w4 hR hk
  have hk2 := hk 2 (by simp) _ rfl rfl rfl 6 rfl
  obtain ⟨ho, hr4⟩ := hk2
  have e6 : updo (updo (updo σ1 (some 4) (.slice (some ⟨w1.heap.size, 0, none⟩) 16 16)) (some 5) (.pointer (some ⟨rb, 0, none⟩))) (some 6) v 6 = v := by simp only [updo, upd, if_true]
  rw [e6] at ho
  have nb3 : w1.heap.size ≠ rb := by omega
  have b34 : Blk w4 w1.heap.size (u8s (List.replicate 16 0)) := b3d.mod hR.1 (by simpa using nb3)
  have b24 : Blk w4 w.heap.size (u8s (List.replicate 16 0)) := b2d.mod hR.1 (by simp; omega)
  -- what is copied
  obtain ⟨n, src, hsrc, hsrc2, hn1, hn2⟩ : ∃ n src, srcCells w4 1 v = some (n, src) ∧ splice (u8s (List.replicate 16 0)) 0 (src.take (Nat.min n 16 * 1)) = u8s (rdUuid s).1 ∧ (src.take (Nat.min n 16 * 1)).length ≤ 16 ∧ ∀ y ∈ src.take (Nat.min n 16 * 1), y.oneCell' = true := by
    obtain ⟨h1, -⟩ := ho
    unfold rdUuid
    cases hd : (rdSpan 16 s).1 with
    | none =>
      rw [hd] at h1
      have : v = .slice none 0 0 := h1
      subst this
      exact ⟨0, [], rfl, by simp [splice], by simp, by simp⟩
    | some l =>
      rw [hd] at h1
      obtain ⟨a, len, cap, rfl, hb⟩ := h1
      have hl16 := rdSpan_16 hd
      have hlen := hb.hlen
      have e16 : len = 16 := by omega
      subst e16
      refine ⟨16, u8s l, ?_, ?_, ?_, ?_⟩
      · simp only [srcCells]
        rw [cellsAt_of' (hb.hcells a rfl) (by rw [u8s_length]; omega)]; rfl
      · have : (u8s l).take (Nat.min 16 16 * 1) = u8s l := List.take_of_length_le (by rw [u8s_length]; simp; omega)
        rw [this, splice_all (by simp [u8s_length]; omega)]; rfl
      · simp; omega
      · intro y hy
        have := List.mem_of_mem_take hy
        simp [u8s] at this; obtain ⟨b, -, rfl⟩ := this; rfl
  refine wpR_run ?_
  have e4 : ev (updo (updo (updo σ1 (some 4) (.slice (some ⟨w1.heap.size, 0, none⟩) 16 16)) (some 5) (.pointer (some ⟨rb, 0, none⟩))) (some 6) v) (.tmp 4) = .slice (some ⟨w1.heap.size, 0, none⟩) 16 16 := by simp [ev, updo, upd]
  have e6' : ev (updo (updo (updo σ1 (some 4) (.slice (some ⟨w1.heap.size, 0, none⟩) 16 16)) (some 5) (.pointer (some ⟨rb, 0, none⟩))) (some 6) v) (.tmp 6) = v := e6
  simp only [RK.run, e4, e6', hsrc]
  have hput : Mod [w1.heap.size] w4 (putCells w4 ⟨w1.heap.size, 0, none⟩ 0 (src.take (Nat.min n 16 * 1))) := Mod.put (by simp)
  have hp := b34.put (o := 0) (vs := src.take (Nat.min n 16 * 1)) (by rw [u8s_length, List.length_replicate]; omega)
  rw [hsrc2] at hp
  refine ⟨stOk_many b34 (by simp only [u8s_length, List.length_replicate]; omega) hn2, ?_⟩
  refine wpR_done ?_
  have hl := rdUuid_len s
  rw [wpC_seq, wpC_blk]
  refine wpR_step (v := .agg (u8s (rdUuid s).1).toArray) (by
    simp only [RK.val?, ev, updo, upd, show (3 : Nat) ≠ 7 by decide, show (3 : Nat) ≠ 6 by decide, show (3 : Nat) ≠ 5 by decide, show (3 : Nat) ≠ 4 by decide, if_false, k3]
    rw [cellsAt_of' hp.cells (n := 16) (by rw [u8s_length]; omega)]; rfl) ?_
  refine wpR_run ?_
  have ec : (Value.agg (u8s (rdUuid s).1).toArray).cells = (u8s (rdUuid s).1).toArray := rfl
  have hne2 : w.heap.size ≠ w1.heap.size := by omega
  have b25 := b24.mod hput (by simpa using hne2)
  generalize hw5 : putCells w4 ⟨w1.heap.size, 0, none⟩ 0 (src.take (Nat.min n 16 * 1)) = w5 at hput hp b25 ⊢
  have hput2 : Mod [w.heap.size] w5 (putCells w5 ⟨w.heap.size, 0, none⟩ 0 (u8s (rdUuid s).1)) := Mod.put (by simp)
  have hp2 := b25.put (o := 0) (vs := u8s (rdUuid s).1) (by simp [u8s_length]; omega)
  rw [splice_all (by simp [u8s_length]; omega)] at hp2
  simp only [RK.run, ev, updo, upd, if_true, show (2 : Nat) ≠ 8 by decide, show (2 : Nat) ≠ 7 by decide, show (2 : Nat) ≠ 6 by decide, show (2 : Nat) ≠ 5 by decide, show (2 : Nat) ≠ 4 by decide, if_false, k2, ec]
  refine ⟨by simp [u8s_length, hl], stOk_many b25 (by simp [u8s_length]; omega) (by
    intro y hy
    simp [u8s] at hy; obtain ⟨b, -, rfl⟩ := hy; rfl), ?_⟩
  refine wpR_done ?_
  simp only [wpC, postC, rvals, List.mapM_cons, List.mapM_nil, RV.val, upd, show (2 : Nat) ≠ 8 by decide, show (2 : Nat) ≠ 7 by decide, show (2 : Nat) ≠ 6 by decide, show (2 : Nat) ≠ 5 by decide, show (2 : Nat) ≠ 4 by decide, if_false, k2, cellsAt_of' hp2.cells (n := 16) (by rw [u8s_length]; omega), Option.bind_eq_bind, Option.map_some, Option.bind_some, Option.pure_def, tup_one]
  subst hS'
  refine ⟨trivial, ((hr4.mod hput (by simpa using nb3.symm) (by simp)).mod hput2 (by simp; omega) (by simp)).weakL (by simp; intro x hx; exact .inr (.inr hx)), ?_⟩
  refine Mod.drop (b := w.heap.size) (S := [rb]) ?_ (Nat.le_refl _)
  refine Mod.drop (b := w1.heap.size) (S := [w.heap.size, rb]) ?_ (by omega)
  exact ((m02.mono (by simp)).trans (hR.1.mono (by simp))).trans ((hput.mono (by simp)).trans (hput2.mono (by simp)))

theorem rdCl_bound (s : RS) : -1 ≤ (rdCl s).1 ∧ (rdCl s).1 < 4294967295 := by
  have := rdUv_lt s
  simp only [rdCl]; omega

theorem i64_small {n : Int} (h1 : -9223372036854775808 ≤ n) (h2 : n < 9223372036854775808) : IntKind.i64.wrap n = n := by
  simp [IntKind.wrap, IntKind.bits, IntKind.signed]; omega

attribute [local simp] bnd wpC wpR RI.wp gOk RK.run thenC inBlockC updo upd ev args0 postC rvals RV.val tup_one isShift

theorem rReadUint64_call (hm : P.follows .mixedOrders = true) (h : liftF P (F rReadUint64) = some (ir_rReadUint64 F)) (hbe : liftF P (F beUint64) = some (ir_beUint64 F)) :
    RdC P (F rReadUint64) fun s => (.int .u64 (rdN 8 s).1, (rdN 8 s).2) := by
  intro S w rb s hr hS
  obtain ⟨base, len, cap, h1, h2, h3, h4⟩ := hr.ex
  refine call_of h hm (by simp) ?_
  have hlen := h2.hlen
  have c0 : w.cell? ⟨rb, 0, none⟩ = some (.slice base len cap) := h1.cell 0
  by_cases hlt : len < 8
  · have hlt' : (len : Int) < 8 := by omega
    obtain ⟨f1, f2, f3, f4⟩ := rd_fail (S := S) h1
    have hv : rdN 8 s = (0, RS.fail) := by unfold rdN; rw [if_neg (by omega)]
    simp [Addr.add_mk, c0, hlt', Value.cells, f1, f2, f3, f4, hv]
  · have hlt' : ¬ (len : Int) < 8 := by omega
    have hv : rdN 8 s = (beNat (s.src.take 8), { s with src := s.src.drop 8 }) := by unfold rdN; rw [if_pos (by omega)]
    simp [Addr.add_mk, c0, hlt']
    obtain ⟨a, rfl⟩ : ∃ a, base = some a := by
      cases base with
      | some a => exact ⟨a, rfl⟩
      | none => have := h2.hnone rfl; have := h2.hcap; omega
    refine wpD_one (.int .u64 (beNat (s.src.take 8) : Nat)) ?_
    have c0' : w.drew.cell? ⟨rb, 0, none⟩ = some (.slice (some a) len cap) := c0
    simp [walkB, RK.val?, Addr.add_mk, c0', cellsAt]
    refine ⟨fun w1 hw => ?_, fun w1 hw => ?_⟩
    · have hw' : Mod [] w w1 := (Mod.drew _ _).trans hw
      exact (beUint64_call (w := w1) hm hbe (h2.mod hw' (by simp)) (by omega)).mono fun e w' h => h
    · have hw' : Mod [] w w1 := (Mod.drew _ _).trans hw
      have c1 : w1.cell? ⟨rb, 0, none⟩ = some (.slice (some a) len cap) := (h1.mod hw' (by simp)).cell 0
      obtain ⟨g1, g2, g3⟩ := rd_cut (S := S) (h1.mod hw' (by simp)) (h2.mod hw' (by simp)) h3 (fun a h => ⟨(h4 a h).1, (h4 a h).2.1, Nat.lt_of_lt_of_le (h4 a h).2.2 hw'.size⟩) hr.short (k := 8) (by omega)
      have hcap := h2.hcap
      simp [c1, Value.cells, hv]
      simp at g1 g2 g3
      exact ⟨by omega, by omega, g1, g2, hw'.nil.trans g3⟩

theorem rInt64_call (hm : P.follows .mixedOrders = true) (h : liftF P (F rInt64) = some (ir_rInt64 F)) (h64 : liftF P (F rReadUint64) = some (ir_rReadUint64 F)) (hbe : liftF P (F beUint64) = some (ir_beUint64 F)) :
    RdC P (F rInt64) fun s => (.int .i64 (IntKind.i64.wrap (rdN 8 s).1), (rdN 8 s).2) := by
  intro S w rb s hr hS
  refine call_of h hm (by simp) ?_
  simp []
  refine (rReadUint64_call hm h64 hbe S w rb s hr hS).mono ?_
  rintro e w1 ⟨rfl, hr1, hm1⟩
  simp [hr1, hm1]

theorem rCompactString_call (hm : P.follows .mixedOrders = true) (h : liftF P (F rCompactString) = some (ir_rCompactString F)) (huv : liftF P (F rUvarint) = some (ir_rUvarint F)) (hk : liftF P (F kUvarint) = some (ir_kUvarint F))
    (hsp : liftF P (F rSpan) = some (ir_rSpan F)) : RdC P (F rCompactString) fun s => (str (rdCString s).1, (rdCString s).2) := by
  intro S w rb s hr hS
  refine call_of h hm (by simp) ?_
  simp []
  refine (rUvarint_call hm huv hk S w rb s hr hS).mono ?_
  rintro e w1 ⟨rfl, hr1, hm1⟩
  have hlt := rdUv_lt s
  simp [i64_small (n := (rdUv s).1) (by omega) (by omega), i64_small (n := ((rdUv s).1 : Int) - 1) (by omega) (by omega)]
  refine (rSpan_call hm hsp hr1 _).mono ?_
  rintro e w2 ⟨v, rfl, ho, hr2, hm2⟩
  obtain ⟨base, n, c, rfl, hb⟩ := ho.bytes
  cases base with
  | none => simp at hb; simp [rdCString, rdCl, hb, str]; exact ⟨rfl, hr2, hm1.trans hm2⟩
  | some a => simp only at hb; simp [rdCString, rdCl, hb, str]; exact ⟨hr2, hm1.trans hm2⟩

theorem rUnsafeCompactString_call (hm : P.follows .mixedOrders = true) (h : liftF P (F rUnsafeCompactString) = some (ir_rUnsafeCompactString F)) (huv : liftF P (F rUvarint) = some (ir_rUvarint F)) (hk : liftF P (F kUvarint) = some (ir_kUvarint F))
    (hsp : liftF P (F rSpan) = some (ir_rSpan F)) (hus : liftF P (F kUnsafeString) = some (ir_kUnsafeString F)) : RdC P (F rUnsafeCompactString) fun s => (str (rdCString s).1, (rdCString s).2) := by
  intro S w rb s hr hS
  refine call_of h hm (by simp) ?_
  simp []
  refine (rUvarint_call hm huv hk S w rb s hr hS).mono ?_
  rintro e w1 ⟨rfl, hr1, hm1⟩
  have hlt := rdUv_lt s
  simp [i64_small (n := (rdUv s).1) (by omega) (by omega), i64_small (n := ((rdUv s).1 : Int) - 1) (by omega) (by omega)]
  refine (rSpan_call hm hsp hr1 _).mono ?_
  rintro e w2 ⟨v, rfl, ho, hr2, hm2⟩
  simp
  refine (kUnsafeString_call hm hus ho).mono ?_
  rintro e w3 ⟨rfl, rfl⟩
  simp [rdCString, rdCl]
  exact ⟨hr2, hm1.trans hm2⟩

theorem rCompactNullableBytes_call (hm : P.follows .mixedOrders = true) (h : liftF P (F rCompactNullableBytes) = some (ir_rCompactNullableBytes F)) (huv : liftF P (F rUvarint) = some (ir_rUvarint F)) (hk : liftF P (F kUvarint) = some (ir_kUvarint F))
    (hsp : liftF P (F rSpan) = some (ir_rSpan F)) {w : World} {S : List Nat} {rb : Nat} {s : RS} (hr : IsRd S w rb s) (hS : rb ∉ S) :
    Calls P (F rCompactNullableBytes) [.pointer (some ⟨rb, 0, none⟩)].toArray w fun e w' => ∃ v, e = .returned v ∧ OctX (rb :: S) w' v (rdCNullableBytes s).1 ∧ IsRd S w' rb (rdCNullableBytes s).2 ∧ Mod [rb] w w' := by
  refine call_of h hm (by simp) ?_
  simp []
  refine (rUvarint_call hm huv hk S w rb s hr hS).mono ?_
  rintro e w1 ⟨rfl, hr1, hm1⟩
  have hlt := rdUv_lt s
  by_cases hn : ((rdUv s).1 : Int) - 1 < 0
  · have hv : rdCNullableBytes s = (none, (rdUv s).2) := by unfold rdCNullableBytes; rw [if_pos (by simpa [rdCl] using hn)]; rfl
    simp [i64_small (n := (rdUv s).1) (by omega) (by omega), i64_small (n := ((rdUv s).1 : Int) - 1) (by omega) (by omega), hn, hv]
    exact ⟨⟨rfl, fun a n c h => by simp at h⟩, hr1, hm1⟩
  · have hv : rdCNullableBytes s = rdSpan (((rdUv s).1 : Int) - 1) (rdUv s).2 := by unfold rdCNullableBytes; rw [if_neg (by simpa [rdCl] using hn)]; rfl
    simp [i64_small (n := (rdUv s).1) (by omega) (by omega), i64_small (n := ((rdUv s).1 : Int) - 1) (by omega) (by omega), hn, hv]
    refine (rSpan_call hm hsp hr1 _).mono ?_
    rintro e w2 ⟨v, rfl, ho, hr2, hm2⟩
    simp
    exact ⟨ho, hr2, hm1.trans hm2⟩

/-- Octets, none of them, that are not nil. -/
theorem oct_empty {S : List Nat} {w : World} {T : TypeId} (hS : ∀ x ∈ S, x < w.heap.size) : OctX S (w.alloc (.cells [].toArray T)) (.slice (some ⟨w.heap.size, 0, none⟩) 0 0) (some []) := by
  have hb := Blk.new w [] T
  refine ⟨⟨⟨w.heap.size, 0, none⟩, 0, 0, rfl, ⟨rfl, Nat.le_refl _, fun h => by simp at h, fun a ha => ?_⟩⟩, fun a n c h => ?_⟩
  · simp only [Option.some.injEq] at ha; subst ha
    exact hb.cells
  · simp only [Value.slice.injEq, Option.some.injEq] at h
    rw [← h.1]
    exact ⟨fun hx => by have := hS _ hx; simp at this, hb.lt⟩

theorem rBytes_call (hm : P.follows .mixedOrders = true) (h : liftF P (F rBytes) = some (ir_rBytes F)) (h32 : liftF P (F rInt32) = some (ir_rInt32 F)) (hbe : liftF P (F beUint32) = some (ir_beUint32 F))
    (hsp : liftF P (F rSpan) = some (ir_rSpan F)) {w : World} {S : List Nat} {rb : Nat} {s : RS} (hr : IsRd S w rb s) (hS : rb ∉ S) (hSl : ∀ x ∈ S, x < w.heap.size) :
    Calls P (F rBytes) [.pointer (some ⟨rb, 0, none⟩)].toArray w fun e w' => ∃ v, e = .returned v ∧ OctX (rb :: S) w' v (rdBytes s).1 ∧ IsRd S w' rb (rdBytes s).2 ∧ Mod [rb] w w' := by
  refine call_of h hm (by simp) ?_
  simp []
  refine (rInt32_call hm h32 hbe S w rb s hr hS).mono ?_
  rintro e w1 ⟨rfl, hr1, hm1⟩
  by_cases hn : IntKind.i32.wrap (rdN 4 s).1 = -1
  · have hv : rdBytes s = (some [], (rdN 4 s).2) := by unfold rdBytes; simp only; rw [if_pos hn]
    have hoe := fun T => oct_empty (S := rb :: S) (w := w1) (T := T) (fun x hx => by
      rcases List.mem_cons.1 hx with rfl | hx
      · exact hr1.lt
      · exact Nat.lt_of_lt_of_le (hSl x hx) hm1.size)
    simp [hn, hv, zrep, fillL]
    exact fun T => ⟨hoe T, hr1.mod (Mod.alloc [] _ _) (by simp) (by simp), hm1.trans (Mod.alloc _ _ _)⟩
  · have hv : rdBytes s = rdSpan (IntKind.i32.wrap (rdN 4 s).1) (rdN 4 s).2 := by unfold rdBytes; simp only; rw [if_neg hn]
    have hnb : (IntKind.i32.wrap (rdN 4 s).1 == -1) = false := by simpa using hn
    simp [hnb, hv, i32_to_int]
    refine (rSpan_call hm hsp hr1 _).mono ?_
    rintro e w2 ⟨v, rfl, ho, hr2, hm2⟩
    simp
    exact ⟨ho, hr2, hm1.trans hm2⟩

theorem rCompactBytes_call (hm : P.follows .mixedOrders = true) (h : liftF P (F rCompactBytes) = some (ir_rCompactBytes F)) (huv : liftF P (F rUvarint) = some (ir_rUvarint F)) (hk : liftF P (F kUvarint) = some (ir_kUvarint F))
    (hsp : liftF P (F rSpan) = some (ir_rSpan F)) {w : World} {S : List Nat} {rb : Nat} {s : RS} (hr : IsRd S w rb s) (hS : rb ∉ S) (hSl : ∀ x ∈ S, x < w.heap.size) :
    Calls P (F rCompactBytes) [.pointer (some ⟨rb, 0, none⟩)].toArray w fun e w' => ∃ v, e = .returned v ∧ OctX (rb :: S) w' v (rdCBytes s).1 ∧ IsRd S w' rb (rdCBytes s).2 ∧ Mod [rb] w w' := by
  refine call_of h hm (by simp) ?_
  simp []
  refine (rUvarint_call hm huv hk S w rb s hr hS).mono ?_
  rintro e w1 ⟨rfl, hr1, hm1⟩
  have hlt := rdUv_lt s
  by_cases hn : ((rdUv s).1 : Int) - 1 = -1
  · have hv : rdCBytes s = (some [], (rdUv s).2) := by unfold rdCBytes; rw [if_pos (by simpa [rdCl] using hn)]; rfl
    have hoe := fun T => oct_empty (S := rb :: S) (w := w1) (T := T) (fun x hx => by
      rcases List.mem_cons.1 hx with rfl | hx
      · exact hr1.lt
      · exact Nat.lt_of_lt_of_le (hSl x hx) hm1.size)
    simp [i64_small (n := (rdUv s).1) (by omega) (by omega), hn, hv, zrep, fillL]
    exact fun T => ⟨hoe T, hr1.mod (Mod.alloc [] _ _) (by simp) (by simp), hm1.trans (Mod.alloc _ _ _)⟩
  · have hv : rdCBytes s = rdSpan (((rdUv s).1 : Int) - 1) (rdUv s).2 := by unfold rdCBytes; rw [if_neg (by simpa [rdCl] using hn)]; rfl
    have hnb : (((rdUv s).1 : Int) - 1 == -1) = false := by simpa using hn
    simp [i64_small (n := (rdUv s).1) (by omega) (by omega), i64_small (n := ((rdUv s).1 : Int) - 1) (by omega) (by omega), hnb, hv]
    refine (rSpan_call hm hsp hr1 _).mono ?_
    rintro e w2 ⟨v, rfl, ho, hr2, hm2⟩
    simp
    exact ⟨ho, hr2, hm1.trans hm2⟩

theorem rCompactArrayLen_call (hm : P.follows .mixedOrders = true) (h : liftF P (F rCompactArrayLen) = some (ir_rCompactArrayLen F)) (huv : liftF P (F rUvarint) = some (ir_rUvarint F)) (hk : liftF P (F kUvarint) = some (ir_kUvarint F)) :
    RdC P (F rCompactArrayLen) fun s => (.int .i32 (rdCArrayLen s).1, (rdCArrayLen s).2) := by
  intro S w rb s hr hS
  refine call_of h hm (by simp) ?_
  simp []
  refine (rUvarint_call hm huv hk S w rb s hr hS).mono ?_
  rintro e w1 ⟨rfl, hr1, hm1⟩
  obtain ⟨base, len, cap, h1, h2, h3, h4⟩ := hr1.ex
  have c0 : w1.cell? ⟨rb, 0, none⟩ = some (.slice base len cap) := h1.cell 0
  have hlen := h2.hlen
  generalize hN : IntKind.i32.wrap (IntKind.i32.wrap (rdUv s).1 - 1) = N
  by_cases hlt : (len : Int) < N
  · obtain ⟨f1, f2, f3, f4⟩ := rd_fail (S := S) h1
    have hv : rdCArrayLen s = (0, RS.fail) := by unfold rdCArrayLen; simp only; rw [hN, if_pos (by rw [← hlen]; exact hlt)]
    simp [Addr.add_mk, c0, hN]
    rw [← hN, i32_to_int, hN]
    simp [hlt, Value.cells, f1, f2, hv]
    exact ⟨f3, hm1.trans f4⟩
  · have hv : rdCArrayLen s = (N, (rdUv s).2) := by unfold rdCArrayLen; simp only; rw [hN, if_neg (by rw [← hlen]; exact hlt)]
    simp [Addr.add_mk, c0, hN]
    rw [← hN, i32_to_int, hN]
    simp [hlt, hv]
    exact ⟨hr1, hm1⟩

end
end Go.Msk

/-! The reader's methods: texts of flexible messages that may be null. -/
namespace Go.Msk
open Go.RowKit
set_option maxRecDepth 100000

section
variable {P : Program} {F : Nat → Nat}
attribute [local simp] bnd wpC wpR RI.wp gOk RK.run thenC inBlockC updo upd ev args0 postC rvals RV.val tup_one isShift

theorem rCompactNullableString_call {w : World} (hm : P.follows .mixedOrders = true) (h : liftF P (F rCompactNullableString) = some (ir_rCompactNullableString F)) (huv : liftF P (F rUvarint) = some (ir_rUvarint F)) (hk : liftF P (F kUvarint) = some (ir_kUvarint F))
    (hsp : liftF P (F rSpan) = some (ir_rSpan F)) {S : List Nat} {rb : Nat} {s : RS} (hr : IsRd S w rb s) (hS : rb ∉ S) :
    Calls P (F rCompactNullableString) [.pointer (some ⟨rb, 0, none⟩)].toArray w fun e w' => ∃ v, e = .returned v ∧ PStr w.heap.size w' v (rdCNullableString s).1 ∧ IsRd S w' rb (rdCNullableString s).2 ∧ Mod [rb] w w' := by
  refine call_of h hm (by simp) ?_
  simp []
  refine (rUvarint_call hm huv hk S w rb s hr hS).mono ?_
  rintro e w1 ⟨rfl, hr1, hm1⟩
  have hlt := rdUv_lt s
  by_cases hn : ((rdUv s).1 : Int) - 1 < 0
  · have hv : rdCNullableString s = (none, (rdUv s).2) := by unfold rdCNullableString; rw [if_pos (by simpa [rdCl] using hn)]; rfl
    simp [i64_small (n := (rdUv s).1) (by omega) (by omega), i64_small (n := ((rdUv s).1 : Int) - 1) (by omega) (by omega), hn, hv]
    exact ⟨rfl, hr1, hm1⟩
  · have hv : rdCNullableString s = (some ((rdSpan (((rdUv s).1 : Int) - 1) (rdUv s).2).1.getD []), (rdSpan (((rdUv s).1 : Int) - 1) (rdUv s).2).2) := by unfold rdCNullableString; rw [if_neg (by simpa [rdCl] using hn)]; rfl
    simp [i64_small (n := (rdUv s).1) (by omega) (by omega), i64_small (n := ((rdUv s).1 : Int) - 1) (by omega) (by omega), hn, hv]
    refine (rSpan_call hm hsp hr1 _).mono ?_
    rintro e w2 ⟨v, rfl, ho, hr2, hm2⟩
    obtain ⟨base, n, c, rfl, hb⟩ := ho.bytes
    simp only at hr1 hr2 hb
    generalize (rdSpan (((rdUv s).1 : Int) - 1) (rdUv s).2).1.getD [] = L at hb
    generalize (rdSpan (((rdUv s).1 : Int) - 1) (rdUv s).2).2 = s2 at hr2
    have hbox : ∀ T, _ := fun T => new_put w2 [.string .empty] [str L] T rfl (by simp [str, Value.oneCell'])
    have hfin : ∀ T, PStr w.heap.size (putCells (w2.alloc (.cells [.string .empty].toArray T)) ⟨w2.heap.size, 0, none⟩ 0 [str L])
        (.pointer (some ⟨w2.heap.size, 0, none⟩)) (some L) := fun T =>
      ⟨_, rfl, Nat.le_trans hm1.size hm2.size, (hbox T).2.1.cell 0⟩
    have hrd : ∀ T, IsRd S (putCells (w2.alloc (.cells [.string .empty].toArray T)) ⟨w2.heap.size, 0, none⟩ 0 [str L]) rb s2 :=
      fun T => hr2.mod (hbox T).2.2 (by simp) (by simp)
    have hmod : ∀ T, Mod [rb] w (putCells (w2.alloc (.cells [.string .empty].toArray T)) ⟨w2.heap.size, 0, none⟩ 0 [str L]) :=
      fun T => (hm1.trans hm2).trans (hbox T).2.2.nil
    cases base with
    | none =>
      simp only at hb
      rw [hb] at hbox hfin hrd hmod
      have e : str [] = .string .empty := rfl
      rw [e] at hbox hfin hrd hmod
      simp [hb, Value.cells]
      intro T
      exact ⟨(hbox T).1, hfin T, hrd T, hmod T⟩
    | some a =>
      simp only at hb
      simp [hb, Value.cells]
      intro T
      exact ⟨(hbox T).1, hfin T, hrd T, hmod T⟩

theorem rUnsafeCompactNullableString_call {w : World} (hm : P.follows .mixedOrders = true) (h : liftF P (F rUnsafeCompactNullableString) = some (ir_rUnsafeCompactNullableString F)) (huv : liftF P (F rUvarint) = some (ir_rUvarint F)) (hk : liftF P (F kUvarint) = some (ir_kUvarint F))
    (hsp : liftF P (F rSpan) = some (ir_rSpan F)) (hus : liftF P (F kUnsafeString) = some (ir_kUnsafeString F)) {S : List Nat} {rb : Nat} {s : RS} (hr : IsRd S w rb s) (hS : rb ∉ S) :
    Calls P (F rUnsafeCompactNullableString) [.pointer (some ⟨rb, 0, none⟩)].toArray w fun e w' => ∃ v, e = .returned v ∧ PStr w.heap.size w' v (rdCNullableString s).1 ∧ IsRd S w' rb (rdCNullableString s).2 ∧ Mod [rb] w w' := by
  refine call_of h hm (by simp) ?_
  simp []
  refine (rUvarint_call hm huv hk S w rb s hr hS).mono ?_
  rintro e w1 ⟨rfl, hr1, hm1⟩
  have hlt := rdUv_lt s
  by_cases hn : ((rdUv s).1 : Int) - 1 < 0
  · have hv : rdCNullableString s = (none, (rdUv s).2) := by unfold rdCNullableString; rw [if_pos (by simpa [rdCl] using hn)]; rfl
    simp [i64_small (n := (rdUv s).1) (by omega) (by omega), i64_small (n := ((rdUv s).1 : Int) - 1) (by omega) (by omega), hn, hv]
    exact ⟨rfl, hr1, hm1⟩
  · have hv : rdCNullableString s = (some ((rdSpan (((rdUv s).1 : Int) - 1) (rdUv s).2).1.getD []), (rdSpan (((rdUv s).1 : Int) - 1) (rdUv s).2).2) := by unfold rdCNullableString; rw [if_neg (by simpa [rdCl] using hn)]; rfl
    simp [i64_small (n := (rdUv s).1) (by omega) (by omega), i64_small (n := ((rdUv s).1 : Int) - 1) (by omega) (by omega), hn, hv]
    refine (rSpan_call hm hsp hr1 _).mono ?_
    rintro e w2 ⟨v, rfl, ho, hr2, hm2⟩
    simp only at hr1 hr2
    simp
    refine (kUnsafeString_call hm hus ho).mono ?_
    rintro e w3 ⟨rfl, rfl⟩
    simp [Value.cells, str]
    intro T
    obtain ⟨b1, b2, b3⟩ := new_put w3 [.string .empty] [str ((rdSpan (((rdUv s).1 : Int) - 1) (rdUv s).2).1.getD [])] T rfl (by simp [str, Value.oneCell'])
    exact ⟨b1, ⟨_, rfl, Nat.le_trans hm1.size hm2.size, b2.cell 0⟩, hr2.mod b3 (by simp) (by simp), (hm1.trans hm2).trans b3.nil⟩

end
end Go.Msk

/-! The lifted forms of the functions about unknown tags, as the tool prints them. -/
namespace Go.Msk

/-- pub-mailsack/impl.boolTree -/
def ir_iBoolTree (_F : Nat → Nat) : IC × List RV × Nat := (.seq (.blk [⟨(some (2)), .alloc [.int .i64 0, .slice none 0 0, .bool false, .slice none 0 0, .slice none 0 0], none⟩])
  (.seq (.seq (.blk [⟨(some (3)), .mv (.tmp 0), none⟩])
    (.cond (.tmp 3)
      (.seq (.blk [⟨(some (4)), .build [.int .i64 0, .slice none 0 0, .bool false, .slice none 0 0, .slice none 0 0] [(0, 1, .const (.int .i64 1))], none⟩,
          ⟨none, .st (.tmp 2) 5 (.tmp 4), none⟩])
      (.ret))
      (.skip)))
  (.seq (.blk [⟨(some (5)), .build [.int .i64 0, .slice none 0 0, .bool false, .slice none 0 0, .slice none 0 0] [], none⟩,
      ⟨none, .st (.tmp 2) 5 (.tmp 5), none⟩])
  (.ret))),
  [.cells 2 5], 6)

/-- (*pub-mailsack/pub/kmsg.Tags).Set -/
def ir_tSet (_F : Nat → Nat) : IC × List RV × Nat := (.seq (.seq (.blk [⟨(some (6)), .mv (.tmp 0), none⟩,
        ⟨(some (7)), .nilc (.tmp 6), none⟩,
        ⟨(some (8)), .fad (.tmp 7) 0, none⟩,
        ⟨(some (9)), .ld (.tmp 8), none⟩,
        ⟨(some (10)), .isnil .mp false (.tmp 9), none⟩])
    (.cond (.tmp 10)
      (.blk [⟨(some (11)), .mv (.tmp 0), none⟩,
        ⟨(some (12)), .mkmap, none⟩,
        ⟨(some (13)), .nilc (.tmp 11), none⟩,
        ⟨(some (14)), .fad (.tmp 13) 0, none⟩,
        ⟨none, .st (.tmp 14) 1 (.tmp 12), none⟩])
      (.skip)))
  (.blk [⟨(some (15)), .mv (.tmp 0), none⟩,
    ⟨(some (16)), .nilc (.tmp 15), none⟩,
    ⟨(some (17)), .fad (.tmp 16) 0, none⟩,
    ⟨(some (18)), .ld (.tmp 17), none⟩,
    ⟨(some (19)), .mv (.tmp 1), none⟩,
    ⟨(some (20)), .mv (.tmp 2), none⟩,
    ⟨none, .mapup (.tmp 18) (.tmp 19) (.tmp 20), none⟩]),
  [], 21)

/-- (*pub-mailsack/pub/kmsg.Tags).Len -/
def ir_tLen (_F : Nat → Nat) : IC × List RV × Nat := (.seq (.blk [⟨(some (2)), .mv (.const (.int .i64 0)), none⟩])
  (.seq (.blk [⟨(some (3)), .mv (.tmp 0), none⟩,
      ⟨(some (4)), .nilc (.tmp 3), none⟩,
      ⟨(some (5)), .fad (.tmp 4) 0, none⟩,
      ⟨(some (6)), .ld (.tmp 5), none⟩,
      ⟨(some (7)), .mlen (.tmp 6), none⟩,
      ⟨(some (2)), .mv (.tmp 7), none⟩])
  (.ret)),
  [.tmp 2], 8)

/-- (*pub-mailsack/pub/kmsg.Tags).Each -/
def ir_tEach (F : Nat → Nat) : IC × List RV × Nat := (.seq (.seq (.blk [⟨(some (8)), .mv (.tmp 0), none⟩,
        ⟨(some (9)), .nilc (.tmp 8), none⟩,
        ⟨(some (10)), .fad (.tmp 9) 0, none⟩,
        ⟨(some (11)), .ld (.tmp 10), none⟩,
        ⟨(some (12)), .mlen (.tmp 11), none⟩,
        ⟨(some (13)), .bin .eql (.tmp 12) (.const (.int .i64 0)), none⟩])
    (.cond (.tmp 13)
      (.ret)
      (.skip)))
  (.seq (.blk [⟨(some (14)), .mv (.tmp 0), none⟩,
      ⟨(some (15)), .nilc (.tmp 14), none⟩,
      ⟨(some (16)), .fad (.tmp 15) 0, none⟩,
      ⟨(some (17)), .ld (.tmp 16), none⟩,
      ⟨(some (18)), .mlen (.tmp 17), none⟩,
      ⟨(some (19)), .mkslice (.const (.int .i64 0)) (.tmp 18) 4 [.int .u32 0], none⟩,
      ⟨(some (4)), .alloc [.slice none 0 0], none⟩,
      ⟨none, .st (.tmp 4) 1 (.tmp 19), none⟩])
  (.seq (.seq (.blk [⟨(some (20)), .mv (.tmp 0), none⟩,
        ⟨(some (21)), .nilc (.tmp 20), none⟩,
        ⟨(some (22)), .fad (.tmp 21) 0, none⟩,
        ⟨(some (23)), .ld (.tmp 22), none⟩,
        ⟨(some (24)), .mrng (.tmp 23), none⟩])
    (.block 0 (.loop (.seq (.blk [⟨(some (25)), .mnext (.tmp 24), none⟩,
            ⟨(some (26)), .ext (.tmp 25) 0, none⟩])
        (.seq (.cond (.tmp 26)
            (.skip)
            (.exit 0))
        (.block 1 (.seq (.blk [⟨(some (27)), .mentry (.tmp 24), none⟩,
              ⟨(some (28)), .ext (.tmp 27) 0, none⟩,
              ⟨(some (5)), .mv (.tmp 28), none⟩])
          (.blk [⟨(some (29)), .ld (.tmp 4), none⟩,
            ⟨(some (30)), .mv (.tmp 5), none⟩,
            ⟨(some (31)), .bslice 1 [.int .u32 0] [(0, 1, .tmp 30)], none⟩,
            ⟨(some (32)), .append (.tmp 29) (.tmp 31) 1 4, none⟩,
            ⟨none, .st (.tmp 4) 1 (.tmp 32), none⟩]))))))))
  (.seq (.blk [⟨(some (33)), .ld (.tmp 4), none⟩,
      ⟨(some (34)), .mkif (F tyU32s) (.tmp 33), none⟩,
      ⟨(some (35)), .mkfunc (.func (F tEach1)) [] [.tmp 4], none⟩,
      ⟨(some (36)), .call (F sortSlice) [.tmp 34, .tmp 35], none⟩])
  (.seq (.blk [⟨(some (37)), .ld (.tmp 4), none⟩,
      ⟨(some (38)), .len (.tmp 37), none⟩,
      ⟨(some (39)), .mv (.const (.int .i64 0)), none⟩])
  (.block 2 (.loop (.seq (.blk [⟨(some (40)), .bin .lss (.tmp 39) (.tmp 38), none⟩])
      (.seq (.cond (.tmp 40)
          (.skip)
          (.exit 2))
      (.seq (.block 3 (.seq (.blk [⟨(some (41)), .iad (.tmp 37) (.tmp 39) 1, none⟩,
              ⟨(some (42)), .ld (.tmp 41), none⟩,
              ⟨(some (7)), .mv (.tmp 42), none⟩])
          (.blk [⟨(some (43)), .mv (.tmp 1), none⟩,
            ⟨(some (44)), .mv (.tmp 7), none⟩,
            ⟨(some (45)), .mv (.tmp 0), none⟩,
            ⟨(some (46)), .nilc (.tmp 45), none⟩,
            ⟨(some (47)), .fad (.tmp 46) 0, none⟩,
            ⟨(some (48)), .ld (.tmp 47), none⟩,
            ⟨(some (49)), .mv (.tmp 7), none⟩,
            ⟨(some (50)), .mlook (.tmp 48) (.tmp 49) (.slice none 0 0), none⟩,
            ⟨(some (51)), .callv (.tmp 43) [.tmp 44, .tmp 50], none⟩])))
      (.blk [⟨(some (52)), .bin .add (.tmp 39) (.const (.int .i64 1)), none⟩,
        ⟨(some (39)), .mv (.tmp 52), none⟩])))))))))),
  [], 53)

/-- (*pub-mailsack/pub/kmsg.Tags).Each$1 -/
def ir_tEach1 (_F : Nat → Nat) : IC × List RV × Nat := (.seq (.blk [⟨(some (5)), .mv (.const (.bool false)), none⟩])
  (.seq (.drw [⟨⟨(some (6)), .ld (.tmp 2), none⟩, false, []⟩,
      ⟨⟨(some (7)), .mv (.tmp 0), none⟩, false, []⟩,
      ⟨⟨(some (8)), .iad (.tmp 6) (.tmp 7) 1, none⟩, false, []⟩,
      ⟨⟨(some (9)), .ld (.tmp 8), none⟩, false, []⟩,
      ⟨⟨(some (10)), .ld (.tmp 2), none⟩, false, []⟩,
      ⟨⟨(some (11)), .mv (.tmp 1), none⟩, false, []⟩,
      ⟨⟨(some (12)), .iad (.tmp 10) (.tmp 11) 1, none⟩, false, []⟩,
      ⟨⟨(some (13)), .ld (.tmp 12), none⟩, false, []⟩,
      ⟨⟨(some (14)), .bin .lss (.tmp 9) (.tmp 13), none⟩, false, []⟩,
      ⟨⟨(some (5)), .mv (.tmp 14), none⟩, false, []⟩]
      [])
  (.ret)),
  [.tmp 5], 15)

/-- pub-mailsack/pub/kmsg.internalReadTags -/
def ir_tRead (F : Nat → Nat) : IC × List RV × Nat := (.seq (.blk [⟨(some (2)), .alloc [.map none], none⟩])
  (.seq (.blk [⟨(some (3)), .alloc [.map none], none⟩])
  (.seq (.seq (.blk [⟨(some (7)), .mv (.tmp 0), none⟩,
        ⟨(some (8)), .call (F rUvarint) [.tmp 7], none⟩,
        ⟨(some (4)), .mv (.tmp 8), none⟩])
    (.block 0 (.loop (.seq (.seq (.blk [⟨(some (9)), .mv (.tmp 4), none⟩,
              ⟨(some (10)), .bin .gtr (.tmp 9) (.const (.int .u32 0)), none⟩])
          (.cond (.tmp 10)
            (.skip)
            (.exit 0)))
        (.seq (.block 1 (.seq (.blk [⟨(some (13)), .mv (.tmp 0), none⟩,
                ⟨(some (14)), .call (F rUvarint) [.tmp 13], none⟩,
                ⟨(some (15)), .mv (.tmp 0), none⟩,
                ⟨(some (16)), .call (F rUvarint) [.tmp 15], none⟩,
                ⟨(some (5)), .mv (.tmp 14), none⟩,
                ⟨(some (6)), .mv (.tmp 16), none⟩])
            (.blk [⟨(some (17)), .mv (.tmp 5), none⟩,
              ⟨(some (18)), .mv (.tmp 0), none⟩,
              ⟨(some (19)), .mv (.tmp 6), none⟩,
              ⟨(some (20)), .conv .i64 (.tmp 19), none⟩,
              ⟨(some (21)), .call (F rSpan) [.tmp 18, .tmp 20], none⟩,
              ⟨(some (22)), .call (F tSet) [.tmp 3, .tmp 17, .tmp 21], none⟩])))
        (.blk [⟨(some (11)), .mv (.tmp 4), none⟩,
          ⟨(some (12)), .bin .sub (.tmp 11) (.const (.int .u32 1)), none⟩,
          ⟨(some (4)), .mv (.tmp 12), none⟩]))))))
  (.seq (.blk [⟨(some (23)), .ldn (.tmp 3) 1, none⟩,
      ⟨none, .st (.tmp 2) 1 (.tmp 23), none⟩])
  (.ret)))),
  [.cells 2 1], 24)

/-- pub-mailsack/impl.sorted -/
def ir_iSorted (_F : Nat → Nat) : IC × List RV × Nat := (.seq (.blk [⟨(some (4)), .mv (.tmp 0), none⟩,
      ⟨(some (5)), .len (.tmp 4), none⟩,
      ⟨(some (6)), .mv (.const (.int .i64 0)), none⟩])
  (.block 0 (.loop (.seq (.blk [⟨(some (7)), .bin .lss (.tmp 6) (.tmp 5), none⟩])
      (.seq (.cond (.tmp 7)
          (.skip)
          (.exit 0))
      (.seq (.block 1 (.seq (.blk [⟨(some (8)), .mv (.tmp 6), none⟩,
              ⟨(some (2)), .mv (.tmp 8), none⟩])
          (.seq (.blk [⟨(some (9)), .mv (.tmp 2), none⟩,
              ⟨(some (3)), .mv (.tmp 9), none⟩])
          (.block 2 (.loop (.seq (.seq (.drw [⟨⟨(some (10)), .mv (.tmp 3), none⟩, false, []⟩,
                    ⟨⟨(some (11)), .bin .gtr (.tmp 10) (.const (.int .i64 0)), none⟩, false, []⟩,
                    ⟨⟨(some (12)), .mv (.tmp 11), none⟩, false, []⟩,
                    ⟨⟨(some (13)), .mv (.tmp 0), some (12, true)⟩, false, []⟩,
                    ⟨⟨(some (14)), .mv (.tmp 3), some (12, true)⟩, false, []⟩,
                    ⟨⟨(some (15)), .iad (.tmp 13) (.tmp 14) 2, some (12, true)⟩, false, []⟩,
                    ⟨⟨(some (16)), .fad (.tmp 15) 0, some (12, true)⟩, false, []⟩,
                    ⟨⟨(some (17)), .ld (.tmp 16), some (12, true)⟩, false, []⟩,
                    ⟨⟨(some (18)), .mv (.tmp 0), some (12, true)⟩, false, []⟩,
                    ⟨⟨(some (19)), .mv (.tmp 3), some (12, true)⟩, false, []⟩,
                    ⟨⟨(some (20)), .bin .sub (.tmp 19) (.const (.int .i64 1)), some (12, true)⟩, false, []⟩,
                    ⟨⟨(some (21)), .iad (.tmp 18) (.tmp 20) 2, some (12, true)⟩, false, []⟩,
                    ⟨⟨(some (22)), .fad (.tmp 21) 0, some (12, true)⟩, false, []⟩,
                    ⟨⟨(some (23)), .ld (.tmp 22), some (12, true)⟩, false, []⟩,
                    ⟨⟨(some (24)), .bin .lss (.tmp 17) (.tmp 23), some (12, true)⟩, false, []⟩,
                    ⟨⟨(some (25)), .pick (.tmp 12) (.tmp 24) (.const (.bool false)), none⟩, false, []⟩]
                    [])
                (.cond (.tmp 25)
                  (.skip)
                  (.exit 2)))
              (.seq (.block 3 (.bad))
              (.blk [⟨(some (26)), .mv (.tmp 3), none⟩,
                ⟨(some (27)), .bin .sub (.tmp 26) (.const (.int .i64 1)), none⟩,
                ⟨(some (3)), .mv (.tmp 27), none⟩]))))))))
      (.blk [⟨(some (44)), .bin .add (.tmp 6) (.const (.int .i64 1)), none⟩,
        ⟨(some (6)), .mv (.tmp 44), none⟩])))))),
  [], 45)

end Go.Msk

/-! Unknown tags: how a map of them is filled from octets. -/
namespace Go.Msk
open Go.RowKit
set_option maxRecDepth 100000

/-- A tag is set. -/
def putTag : List (Nat × List UInt8) → Nat → List UInt8 → List (Nat × List UInt8)
  | [], k, l => [(k, l)]
  | (k', l') :: m, k, l => if k = k' then (k, l) :: m else (k', l') :: putTag m k l

def rdTagsN : Nat → List (Nat × List UInt8) → RS → List (Nat × List UInt8) × RS
  | 0, m, s => (m, s)
  | n + 1, m, s => rdTagsN n (putTag m (rdUv s).1 ((rdSpan (rdUv (rdUv s).2).1 (rdUv (rdUv s).2).2).1.getD [])) (rdSpan (rdUv (rdUv s).2).1 (rdUv (rdUv s).2).2).2

/-- Unknown tags are read. -/
def rdTags (s : RS) : List (Nat × List UInt8) × RS := rdTagsN (rdUv s).1 [] (rdUv s).2

theorem putTag_keys : ∀ (m : List (Nat × List UInt8)) (k : Nat) (l : List UInt8), (putTag m k l).map (·.1) = if k ∈ m.map (·.1) then m.map (·.1) else m.map (·.1) ++ [k]
  | [], k, l => by simp [putTag]
  | (k', l') :: m, k, l => by
    have ih := putTag_keys m k l
    simp only [putTag]
    by_cases h : k = k'
    · subst h; simp
    · rw [if_neg h]
      simp only [List.map_cons, ih, List.mem_cons, h, false_or]
      split <;> simp

theorem putTag_nodup {m : List (Nat × List UInt8)} {k : Nat} {l : List UInt8} (h : (m.map (·.1)).Nodup) : ((putTag m k l).map (·.1)).Nodup := by
  rw [putTag_keys]
  split
  · exact h
  · rename_i hk
    rw [List.nodup_append]
    refine ⟨h, by simp, fun a ha b hb => ?_⟩
    simp only [List.mem_singleton] at hb
    subst hb
    exact fun e => hk (e ▸ ha)

/-- A map's entries when a value is laid. -/
def putE : List MapEntry → Nat → Nat → Value → List MapEntry
  | [], c, k, v => [{ key := .int .u32 k, val := v, born := c }]
  | e :: r, c, k, v => if keyIs k e = true then { e with key := .int .u32 k, val := v } :: r else e :: putE r c k v

theorem putE_some (c k : Nat) (v : Value) : ∀ (l : List MapEntry) (i : Nat), l.findIdx? (keyIs k) = some i → l.modify i (fun e => { e with key := .int .u32 k, val := v }) = putE l c k v
  | [], i, h => by simp at h
  | e :: r, i, h => by
    rw [List.findIdx?_cons] at h
    simp only [putE]
    split at h
    · rename_i he
      simp only [Option.some.injEq] at h; subst h
      rw [if_pos he]; rfl
    · rename_i he
      rw [if_neg he]
      cases hr : r.findIdx? (keyIs k) with
      | none => simp [hr] at h
      | some j =>
        simp only [hr, Option.map_some, Option.some.injEq] at h
        subst h
        rw [List.modify_succ_cons, putE_some c k v r j hr]

theorem putE_none (c k : Nat) (v : Value) : ∀ (l : List MapEntry), l.findIdx? (keyIs k) = none → l ++ [{ key := .int .u32 k, val := v, born := c }] = putE l c k v
  | [], _ => rfl
  | e :: r, h => by
    rw [List.findIdx?_cons] at h
    split at h
    · simp at h
    · rename_i he
      simp only [Option.map_eq_none_iff] at h
      simp only [putE, if_neg he, List.cons_append, putE_none c k v r h]

theorem mapPut_list (es : Array MapEntry) (clock k : Nat) (v : Value) (hb : (es.toList.map (·.born)).Nodup) (hc : ∀ e ∈ es.toList, e.born < clock) :
    ∃ es' c', mapPut es clock .u32 k v = .map es' c' ∧ es'.toList = putE es.toList clock k v ∧ (es'.toList.map (·.born)).Nodup ∧ ∀ e ∈ es'.toList, e.born < c' := by
  unfold mapPut
  cases hf : es.toList.findIdx? (keyIs k) with
  | none =>
    refine ⟨_, _, rfl, ?_, ?_, ?_⟩
    · rw [Array.toList_push]; exact putE_none clock k v _ hf
    · rw [Array.toList_push, List.map_append, List.nodup_append]
      refine ⟨hb, by simp, fun a ha b hb' => ?_⟩
      simp only [List.map_cons, List.map_nil, List.mem_singleton] at hb'
      obtain ⟨e, he, rfl⟩ := List.mem_map.1 ha
      have := hc e he
      omega
    · intro e he
      rw [Array.toList_push, List.mem_append] at he
      rcases he with he | he
      · have := hc e he; omega
      · simp only [List.mem_singleton] at he; subst he; simp
  | some i =>
    have hm : (es.modify i fun e => { e with key := .int .u32 k, val := v }).toList = putE es.toList clock k v := by
      rw [Array.toList_modify]; exact putE_some clock k v _ i hf
    have hmap : (putE es.toList clock k v).map (·.born) = es.toList.map (·.born) := by
      rw [← putE_some clock k v _ i hf]
      apply List.ext_getElem?
      intro j
      simp only [List.getElem?_map, List.getElem?_modify]
      cases es.toList[j]? with
      | none => simp
      | some e => simp only [Option.map_some]; split <;> rfl
    refine ⟨_, _, rfl, hm, by rw [hm, hmap]; exact hb, fun e he => ?_⟩
    rw [hm] at he
    have : e.born ∈ (putE es.toList clock k v).map (·.born) := List.mem_map.2 ⟨e, he, rfl⟩
    rw [hmap] at this
    obtain ⟨e', he', h⟩ := List.mem_map.1 this
    rw [← h]; exact hc e' he'

theorem EntL.put {ok : Nat → Prop} {w : World} {c k : Nat} {v : Value} {l : List UInt8} (hk : k < 4294967296) (hv : SlC ok w v l.length (u8s l)) {es : List MapEntry} {m : List (Nat × List UInt8)} (h : EntL ok w es m) : EntL ok w (putE es c k v) (putTag m k l) := by
  induction h with
  | nil => exact .cons rfl hk hv .nil
  | @cons e k' l' es m h1 h2 h3 h4 ih =>
    have hki : keyIs k e = decide (k = k') := by
      unfold keyIs; rw [h1]
      by_cases hkk : k = k'
      · simp [hkk]
      · have : ¬ (k : Int) = k' := by omega
        simp [hkk, this]
    simp only [putE, putTag, hki, decide_eq_true_eq]
    split
    · exact .cons rfl hk hv h4
    · exact .cons h1 h2 h3 ih

theorem EntL.keys {ok : Nat → Prop} {w : World} {es : List MapEntry} {m : List (Nat × List UInt8)} (h : EntL ok w es m) : ∀ e ∈ es, ∃ a, e.key = .int .u32 a := by
  induction h with
  | nil => simp
  | cons h1 _ _ _ ih =>
    intro e he
    rcases List.mem_cons.1 he with rfl | he
    · exact ⟨_, h1⟩
    · exact ih e he

/-- Only a map's block differs. -/
theorem Mod.putObj {w : World} {r : Nat} {o : Obj} {S : List Nat} (hr : r ∈ S) : Mod S w (Msk.putObj w r o) := by
  refine ⟨rfl, rfl, rfl, by simp [Msk.putObj], fun k hk hkS => ?_⟩
  simp only [Msk.putObj]
  exact Array.getElem?_setIfInBounds_ne (fun e => hkS (by rw [← e]; exact hr))

theorem putObj_get {w : World} {r : Nat} {o : Obj} (h : r < w.heap.size) : (putObj w r o).heap[r]? = some o := by
  simp [putObj, h]

/-- What a variable of tags holds. -/
def TagM (ok : Nat → Prop) (w : World) (v : Value) (m : List (Nat × List UInt8)) : Prop :=
  (v = .map none ∧ m = []) ∨ ∃ r, v = .map (some r) ∧ MapRep ok w r m

section
variable {P : Program} {F : Nat → Nat}

theorem tSet_call {w : World} (hm : P.follows .mixedOrders = true) (h : liftF P (F tSet) = some (ir_tSet F)) {tb k : Nat} {mv v : Value} {m : List (Nat × List UInt8)} {l : List UInt8} {ok : Nat → Prop} (hb : Blk w tb [mv]) (hM : TagM ok w mv m) (hk : k < 4294967296)
    (hv : SlC ok w v l.length (u8s l)) (htb : ¬ ok tb) (hr0 : ∀ r, mv = .map (some r) → ¬ ok r ∧ r ≠ tb) :
    Calls P (F tSet) [.pointer (some ⟨tb, 0, none⟩), .int .u32 k, v].toArray w fun e w' => e = .returned (.tuple #[]) ∧ ∃ r, Blk w' tb [.map (some r)] ∧ MapRep (fun b => ok b ∧ b < w.heap.size) w' r (putTag m k l) ∧ r ≠ tb ∧
      ((mv = .map (some r) ∧ Mod [tb, r] w w') ∨ (mv = .map none ∧ w.heap.size ≤ r ∧ Mod [tb] w w')) := by
  unfold ir_tSet at h
  refine call_of h hm (by simp) ?_
  have a0 : args0 [.pointer (some ⟨tb, 0, none⟩), .int .u32 k, v] 0 = .pointer (some ⟨tb, 0, none⟩) := rfl
  have a1 : args0 [.pointer (some ⟨tb, 0, none⟩), .int .u32 k, v] 1 = .int .u32 k := rfl
  have a2 : args0 [.pointer (some ⟨tb, 0, none⟩), .int .u32 k, v] 2 = v := rfl
  generalize args0 [.pointer (some ⟨tb, 0, none⟩), .int .u32 k, v] = σ0 at a0 a1 a2 ⊢
  have c0 : w.cell? ⟨tb, 0, none⟩ = some mv := hb.cell 0
  have htl := hb.lt
  -- what happens once there is a map
  have key : ∀ (σ : Sl) (w1 : World) (r : Nat), σ 0 = .pointer (some ⟨tb, 0, none⟩) → σ 1 = .int .u32 k → σ 2 = v → Blk w1 tb [.map (some r)] → MapRep (fun b => ok b ∧ b < w.heap.size) w1 r m → r ≠ tb → ¬ (ok r ∧ r < w.heap.size) → w.heap.size ≤ w1.heap.size → SlC (fun b => ok b ∧ b < w.heap.size) w1 v l.length (u8s l) →
      ((mv = .map (some r) ∧ w1 = w) ∨ (mv = .map none ∧ w.heap.size ≤ r ∧ Mod [tb] w w1)) →
      wpC P (.blk [⟨some 15, .mv (.tmp 0), none⟩, ⟨some 16, .nilc (.tmp 15), none⟩, ⟨some 17, .fad (.tmp 16) 0, none⟩, ⟨some 18, .ld (.tmp 17), none⟩, ⟨some 19, .mv (.tmp 1), none⟩, ⟨some 20, .mv (.tmp 2), none⟩, ⟨none, .mapup (.tmp 18) (.tmp 19) (.tmp 20), none⟩])
        (postC [] fun e w' => e = .returned (.tuple #[]) ∧ ∃ r, Blk w' tb [.map (some r)] ∧ MapRep (fun b => ok b ∧ b < w.heap.size) w' r (putTag m k l) ∧ r ≠ tb ∧
          ((mv = .map (some r) ∧ Mod [tb, r] w w') ∨ (mv = .map none ∧ w.heap.size ≤ r ∧ Mod [tb] w w'))) σ w1 := by
    intro σ w1 r s0 s1 s2 hb1 hM1 hrt hnr hsz hv1 hcase
    have c1 : w1.cell? ⟨tb, 0, none⟩ = some (.map (some r)) := hb1.cell 0
    have hrl := hM1.lt
    obtain ⟨es, clock, he1, he2, he3, he4⟩ := hM1.ex
    obtain ⟨es', c', p1, p2, p3, p4⟩ := mapPut_list es clock k v he3 he4
    rw [wpC_blk]
    refine wpR_step (v := .pointer (some ⟨tb, 0, none⟩)) (congrArg some s0) ?_
    refine wpR_step (v := .pointer (some ⟨tb, 0, none⟩)) (by simp only [RK.val?, ev, updo, upd, if_true]) ?_
    refine wpR_step (v := .pointer (some ⟨tb, 0, none⟩)) (by simp only [RK.val?, ev, updo, upd, if_true, Addr.add_mk]) ?_
    refine wpR_step (v := .map (some r)) (by simp only [RK.val?, ev, updo, upd, if_true, c1]) ?_
    refine wpR_step (v := .int .u32 k) (by simp only [RK.val?, ev, updo, upd]; simp [s1]) ?_
    refine wpR_step (v := v) (by simp only [RK.val?, ev, updo, upd]; simp [s2]) ?_
    refine wpR_run ?_
    simp only [RK.run, ev, updo, upd, show (18 : Nat) ≠ 20 by decide, show (18 : Nat) ≠ 19 by decide, show (19 : Nat) ≠ 20 by decide, if_false, if_true, he1]
    refine ⟨he2.keys, ?_⟩
    simp only [wpR, postC, rvals, List.mapM_nil, Option.pure_def, tup]
    refine ⟨trivial, r, ?_, ?_, hrt, ?_⟩
    · exact hb1.mod (Mod.putObj (S := [r]) (by simp)) (by simp; omega)
    · rw [p1]
      have hmd : Mod [r] w1 (putObj w1 r (.map es' c')) := Mod.putObj (by simp)
      refine ⟨⟨es', c', putObj_get hrl, ?_, p3, p4⟩, putTag_nodup hM1.keys⟩
      rw [p2]
      exact (he2.put hk hv1).mod hmd (fun b hb hx => by simp only [List.mem_singleton] at hb; subst hb; exact hnr hx) fun _ _ h => h
    · rcases hcase with ⟨h1, h2⟩ | ⟨h1, h2, h3⟩
      · refine .inl ⟨h1, ?_⟩
        rw [h2]; exact Mod.putObj (by simp)
      · refine .inr ⟨h1, h2, ?_⟩
        have hmd : Mod [r, tb] w1 (putObj w1 r (mapPut es clock .u32 k v)) := Mod.putObj (by simp)
        exact Mod.drop (b := r) (S := [tb]) ((h3.mono (by simp)).trans hmd) h2
  generalize postC [] _ = Q at key ⊢
  rw [wpC_seq, wpC_seq, wpC_blk]
  refine wpR_step (v := .pointer (some ⟨tb, 0, none⟩)) (congrArg some a0) ?_
  refine wpR_step (v := .pointer (some ⟨tb, 0, none⟩)) (by simp only [RK.val?, ev, updo, upd, if_true]) ?_
  refine wpR_step (v := .pointer (some ⟨tb, 0, none⟩)) (by simp only [RK.val?, ev, updo, upd, if_true, Addr.add_mk]) ?_
  refine wpR_step (v := mv) (by simp only [RK.val?, ev, updo, upd, if_true, c0]) ?_
  have hv2 : SlC (fun b => ok b ∧ b < w.heap.size) w v l.length (u8s l) := hv.mod (Mod.refl [] _) (by simp) fun b hb hx => ⟨hx, hb⟩
  rcases hM with ⟨rfl, rfl⟩ | ⟨r, rfl, hM⟩
  · refine wpR_step (v := .bool true) (by simp only [RK.val?, ev, updo, upd, if_true]; rfl) ?_
    refine wpR_done ?_
    rw [wpC_cond_t rfl, wpC_blk]
    refine wpR_step (v := .pointer (some ⟨tb, 0, none⟩)) (by simp only [RK.val?, ev, updo, upd]; simp [a0]) ?_
    refine wpR_run ?_
    simp only [RK.run]
    refine wpR_step (v := .pointer (some ⟨tb, 0, none⟩)) (by simp only [RK.val?, ev, updo, upd]; simp) ?_
    refine wpR_step (v := .pointer (some ⟨tb, 0, none⟩)) (by simp only [RK.val?, ev, updo, upd, if_true, Addr.add_mk]) ?_
    refine wpR_run ?_
    have hma : Mod [] w (w.alloc (.map #[] 0)) := Mod.alloc _ _ _
    have hsz : (w.alloc (.map #[] 0)).heap.size = w.heap.size + 1 := by simp
    have hget : (w.alloc (.map #[] 0)).heap[w.heap.size]? = some (.map #[] 0) := heap_alloc_new w _
    have hba := hb.mod hma (by simp)
    generalize w.alloc (.map #[] 0) = w1 at hma hsz hget hba ⊢
    simp only [RK.run, ev, updo, upd, if_true, show (12 : Nat) ≠ 14 by decide, show (12 : Nat) ≠ 13 by decide, if_false]
    have ec : (Value.map (some w.heap.size)).cells = #[.map (some w.heap.size)] := rfl
    rw [ec]
    have hput : Mod [tb] w1 (putCells w1 ⟨tb, 0, none⟩ 0 [.map (some w.heap.size)]) := Mod.put (by simp)
    have hp := hba.put (o := 0) (vs := [.map (some w.heap.size)]) (by simp)
    rw [splice_all (by rfl)] at hp
    refine ⟨rfl, stOk_one hba (by simp) rfl, ?_⟩
    refine wpR_done ?_
    generalize hσ : upd _ 14 _ = σ1
    have s0 : σ1 0 = .pointer (some ⟨tb, 0, none⟩) := by rw [← hσ]; simp [upd, a0]
    have s1 : σ1 1 = .int .u32 k := by rw [← hσ]; simp [upd, a1]
    have s2 : σ1 2 = v := by rw [← hσ]; simp [upd, a2]
    clear hσ
    refine key σ1 _ w.heap.size s0 s1 s2 hp ?_ (by omega) (fun h => by omega) (by rw [size_putCells]; omega) ?_ (.inr ⟨rfl, Nat.le_refl _, hma.nil.trans hput⟩)
    · refine ⟨⟨#[], 0, ?_, .nil, by simp, by simp⟩, by simp⟩
      rw [hput.block _ (by omega) (by simp; omega)]; exact hget
    · exact (hv2.mod hma (by simp) fun _ _ h => h).mod hput (fun b hb hx => by simp only [List.mem_singleton] at hb; subst hb; exact htb hx.1) fun _ _ h => h
  · refine wpR_step (v := .bool false) (by simp only [RK.val?, ev, updo, upd, if_true]; rfl) ?_
    refine wpR_done ?_
    rw [wpC_cond_f rfl, wpC_skip]
    simp only [thenC]
    obtain ⟨q1, q2⟩ := hr0 r rfl
    generalize hσ : updo _ (some 10) _ = σ1
    have s0 : σ1 0 = .pointer (some ⟨tb, 0, none⟩) := by rw [← hσ]; simp [updo, upd, a0]
    have s1 : σ1 1 = .int .u32 k := by rw [← hσ]; simp [updo, upd, a1]
    have s2 : σ1 2 = v := by rw [← hσ]; simp [updo, upd, a2]
    clear hσ
    refine key σ1 _ r s0 s1 s2 hb (hM.mod (Mod.refl [] _) (by simp) (by simp) fun b hb hx => ⟨hx, hb⟩) q2 (fun h => q1 h.1) (Nat.le_refl _) hv2 (.inl ⟨rfl, rfl⟩)

end
end Go.Msk

/-! Unknown tags: their reading. -/
namespace Go.Msk
open Go.RowKit
set_option maxRecDepth 100000

/-- The tags read so far. -/
def TagS (S : List Nat) (n0 : Nat) (w : World) (rb tb b2 : Nat) (mv : Value) (m : List (Nat × List UInt8)) (s : RS) : Prop :=
  (mv = .map none ∧ m = [] ∧ IsRd (b2 :: tb :: S) w rb s) ∨
  ∃ r, mv = .map (some r) ∧ n0 ≤ r ∧ r ≠ tb ∧ r ≠ b2 ∧ r ≠ rb ∧ MapRep (fun b => b ∉ rb :: r :: b2 :: tb :: S) w r m ∧ IsRd (r :: b2 :: tb :: S) w rb s

theorem TagS.rd {S : List Nat} {n0 : Nat} {w : World} {rb tb b2 : Nat} {mv : Value} {m : List (Nat × List UInt8)} {s : RS} (h : TagS S n0 w rb tb b2 mv m s) : ∃ S', (∀ x ∈ b2 :: tb :: S, x ∈ S') ∧ (∀ x ∈ S', x ∈ b2 :: tb :: S ∨ (n0 ≤ x ∧ x ≠ rb)) ∧ IsRd S' w rb s ∧
    (∀ (w' : World) (s' : RS), IsRd S' w' rb s' → Mod [rb] w w' → TagS S n0 w' rb tb b2 mv m s') ∧ (mv = .map none ∧ m = [] ∧ S' = b2 :: tb :: S ∨ ∃ r, mv = .map (some r) ∧ n0 ≤ r ∧ r ≠ tb ∧ r ≠ b2 ∧ r ≠ rb ∧ S' = r :: b2 :: tb :: S ∧ MapRep (fun b => b ∉ rb :: S') w r m) := by
  rcases h with ⟨h1, h2, h3⟩ | ⟨r, h1, h2, h3, h4, h5, h6, h7⟩
  · exact ⟨b2 :: tb :: S, fun _ h => h, fun _ h => .inl h, h3, fun w' s' hr hm => .inl ⟨h1, h2, hr⟩, .inl ⟨h1, h2, rfl⟩⟩
  · refine ⟨r :: b2 :: tb :: S, fun x h => List.mem_cons_of_mem _ h, fun x hx => ?_, h7, fun w' s' hr hm => .inr ⟨r, h1, h2, h3, h4, h5, h6.mod hm (by simpa using h5) (by simp) (fun _ _ h => h), hr⟩, .inr ⟨r, h1, h2, h3, h4, h5, rfl, h6⟩⟩
    rcases List.mem_cons.1 hx with rfl | hx
    · exact .inr ⟨h2, h5⟩
    · exact .inl hx

theorem OctX.slcN {O : List Nat} {w : World} {v : Value} {o : Option (List UInt8)} (h : OctX O w v o) : SlC (fun b => b ∉ O) w v (o.getD []).length (u8s (o.getD [])) := by
  obtain ⟨h1, h2⟩ := h
  cases o with
  | none => simp only [IsOct] at h1; subst h1; exact SlC.nil
  | some l =>
    obtain ⟨a, n, c, rfl, hb⟩ := h1
    refine ⟨some a, c, by rw [hb.hlen]; rfl, by have := hb.hcap; have := hb.hlen; simp only [Option.getD_some]; omega, fun h => by simp at h, fun a' e => ?_⟩
    simp only [Option.some.injEq] at e; subst e
    exact ⟨(h2 a n c rfl).1, (h2 a n c rfl).2, hb.hcells a rfl⟩

section
variable {P : Program} {F : Nat → Nat}

/-- One tag. -/
theorem tag_step {S : List Nat} (hm : P.follows .mixedOrders = true) (huv : liftF P (F rUvarint) = some (ir_rUvarint F)) (hk : liftF P (F kUvarint) = some (ir_kUvarint F)) (hsp : liftF P (F rSpan) = some (ir_rSpan F)) (hset : liftF P (F tSet) = some (ir_tSet F))
    {rb tb b2 : Nat} {mv : Value} {m : List (Nat × List UInt8)} {s : RS} {σ : Sl} {w w0 : World} {Q : Exit → Sl → World → Prop} (h0 : σ 0 = .pointer (some ⟨rb, 0, none⟩)) (h3 : σ 3 = .pointer (some ⟨tb, 0, none⟩))
    (hb : Blk w tb [mv]) (hb2 : Blk w b2 [.map none]) (hS : TagS S w0.heap.size w rb tb b2 mv m s) (hrt : rb ≠ tb) (hr2 : rb ≠ b2) (h2t : b2 ≠ tb) (hrS : rb ∉ S) (_hSl : ∀ x ∈ S, x < w0.heap.size) (htb : w0.heap.size ≤ tb) (hmw : Mod [rb] w0 w)
    (hQ : ∀ σ' w' mv', (∀ j, j < 5 → σ' j = σ j) → Blk w' tb [mv'] → Blk w' b2 [.map none] → Mod [rb] w0 w' →
      TagS S w0.heap.size w' rb tb b2 mv' (putTag m (rdUv s).1 ((rdSpan (rdUv (rdUv s).2).1 (rdUv (rdUv s).2).2).1.getD [])) (rdSpan (rdUv (rdUv s).2).1 (rdUv (rdUv s).2).2).2 → Q .normal σ' w') :
    wpC P (.seq (.blk [⟨some 13, .mv (.tmp 0), none⟩, ⟨some 14, .call (F rUvarint) [.tmp 13], none⟩, ⟨some 15, .mv (.tmp 0), none⟩, ⟨some 16, .call (F rUvarint) [.tmp 15], none⟩, ⟨some 5, .mv (.tmp 14), none⟩, ⟨some 6, .mv (.tmp 16), none⟩])
      (.blk [⟨some 17, .mv (.tmp 5), none⟩, ⟨some 18, .mv (.tmp 0), none⟩, ⟨some 19, .mv (.tmp 6), none⟩, ⟨some 20, .conv .i64 (.tmp 19), none⟩, ⟨some 21, .call (F rSpan) [.tmp 18, .tmp 20], none⟩, ⟨some 22, .call (F tSet) [.tmp 3, .tmp 17, .tmp 21], none⟩])) Q σ w := by
  obtain ⟨S', e1, e2, hr, hkeep, hcase⟩ := hS.rd
  have hrS' : rb ∉ S' := fun hx => by
    rcases e2 _ hx with hx | ⟨-, hx⟩
    · simp only [List.mem_cons] at hx
      rcases hx with hx | hx | hx
      · exact hr2 hx
      · exact hrt hx
      · exact hrS hx
    · exact hx rfl
  rw [wpC_seq, wpC_blk]
  refine wpR_step (v := .pointer (some ⟨rb, 0, none⟩)) (congrArg some h0) ?_
  refine wpR_call (vs := [.pointer (some ⟨rb, 0, none⟩)]) (by simp only [List.map_cons, List.map_nil, ev, updo, upd, if_true]) (rUvarint_call hm huv hk S' w rb s hr hrS') ?_
  rintro e w1 ⟨rfl, hr1, m1⟩
  refine ⟨_, rfl, ?_⟩
  refine wpR_step (v := .pointer (some ⟨rb, 0, none⟩)) (by simp only [RK.val?, ev, updo, upd]; simp [h0]) ?_
  refine wpR_call (vs := [.pointer (some ⟨rb, 0, none⟩)]) (by simp only [List.map_cons, List.map_nil, ev, updo, upd, if_true]) (rUvarint_call hm huv hk S' w1 rb _ hr1 hrS') ?_
  rintro e w2 ⟨rfl, hr2', m2⟩
  refine ⟨_, rfl, ?_⟩
  simp only at hr1 hr2' ⊢
  have hk1 := rdUv_lt s
  have hk2 := rdUv_lt (rdUv s).2
  generalize rdUv s = q1 at *
  obtain ⟨k, s1⟩ := q1
  simp only at *
  generalize rdUv s1 = q2 at *
  obtain ⟨z, s2⟩ := q2
  simp only at *
  refine wpR_step (v := .int .u32 k) (by simp only [RK.val?, ev, updo, upd]; simp) ?_
  refine wpR_step (v := .int .u32 z) (by simp only [RK.val?, ev, updo, upd]; simp) ?_
  refine wpR_done ?_
  generalize hσ : updo _ (some 6) _ = σ1
  have q0 : σ1 0 = .pointer (some ⟨rb, 0, none⟩) := by rw [← hσ]; simp [updo, upd, h0]
  have q3 : σ1 3 = .pointer (some ⟨tb, 0, none⟩) := by rw [← hσ]; simp [updo, upd, h3]
  have q5 : σ1 5 = .int .u32 k := by rw [← hσ]; simp [updo, upd]
  have q6 : σ1 6 = .int .u32 z := by rw [← hσ]; simp [updo, upd]
  have qa : ∀ j, j < 5 → σ1 j = σ j := fun j hj => by
    rw [← hσ]; simp only [updo, upd, show j ≠ 6 by omega, show j ≠ 5 by omega, show j ≠ 16 by omega, show j ≠ 15 by omega, show j ≠ 14 by omega, show j ≠ 13 by omega, if_false]
  clear hσ
  rw [wpC_blk]
  refine wpR_step (v := .int .u32 k) (congrArg some q5) ?_
  refine wpR_step (v := .pointer (some ⟨rb, 0, none⟩)) (by simp only [RK.val?, ev, updo, upd]; simp [q0]) ?_
  refine wpR_step (v := .int .u32 z) (by simp only [RK.val?, ev, updo, upd]; simp [q6]) ?_
  refine wpR_step (v := .int .i64 z) (by simp only [RK.val?, ev, updo, upd, if_true, i64_small (n := z) (by omega) (by omega)]) ?_
  refine wpR_call (vs := [.pointer (some ⟨rb, 0, none⟩), .int .i64 z]) (by simp only [List.map_cons, List.map_nil, ev, updo, upd]; simp) (rSpan_call hm hsp hr2' z) ?_
  rintro e w3 ⟨v, rfl, ho, hr3, m3⟩
  refine ⟨_, rfl, ?_⟩
  have m03 : Mod [rb] w w3 := (m1.trans m2).trans m3
  have hT3 := hkeep w3 _ hr3 m03
  have hb3 := hb.mod m03 (by simpa using hrt.symm)
  have hb23 := hb2.mod m03 (by simpa using hr2.symm)
  have hv := ho.slcN
  have ntb : tb ∈ S' := e1 _ (by simp)
  have nb2 : b2 ∈ S' := e1 _ (by simp)
  have hTM : TagM (fun b => b ∉ rb :: S') w3 mv m := by
    rcases hcase with ⟨c1, c2, -⟩ | ⟨r, c1, c2, c3, c4, c5, c6, c7⟩
    · exact .inl ⟨c1, c2⟩
    · exact .inr ⟨r, c1, c7.mod m03 (by simpa using c5) (by simp) fun _ _ h => h⟩
  refine wpR_call (vs := [.pointer (some ⟨tb, 0, none⟩), .int .u32 k, v]) (by simp only [List.map_cons, List.map_nil, ev, updo, upd]; simp [q3]) (tSet_call hm hset hb3 hTM hk1 hv (fun h => h (List.mem_cons_of_mem _ ntb)) (fun r hr => by
    rcases hcase with ⟨c1, -, -⟩ | ⟨r', c1, c2, c3, c4, c5, c6, c7⟩
    · rw [c1] at hr; simp at hr
    · rw [c1] at hr
      simp only [Value.map.injEq, Option.some.injEq] at hr; subst hr
      exact ⟨fun h => h (by rw [c6]; simp), c3⟩)) ?_
  rintro e w4 ⟨rfl, r, hb4, hM4, hrtb, hmod4⟩
  refine ⟨_, rfl, ?_⟩
  have hwl : w0.heap.size ≤ w3.heap.size := (hmw.trans m03).size
  have hb2l := hb23.lt
  have hb3l := hb3.lt
  have hrl := hr3.lt
  have hsub : ∀ {x}, x ∈ S → x ∈ S' := fun hx => e1 _ (by simp [hx])
  simp only [wpR]
  rcases hmod4 with ⟨c0, mm⟩ | ⟨c0, c1, mm⟩
  · -- the map was there
    rcases hcase with ⟨k1, -, -⟩ | ⟨r', k1, k2, k3, k4, k5, k6, k7⟩
    · rw [k1] at c0; simp at c0
    · rw [k1] at c0
      simp only [Value.map.injEq, Option.some.injEq] at c0; subst c0
      refine hQ _ w4 _ (fun j hj => ?_) hb4 (hb23.mod mm (by simp [h2t, k4.symm])) ?_ (.inr ⟨r', rfl, k2, k3, k4, k5, ?_, ?_⟩)
      · rw [← qa j hj]
        simp only [updo, upd, show j ≠ 22 by omega, show j ≠ 21 by omega, show j ≠ 20 by omega, show j ≠ 19 by omega, show j ≠ 18 by omega, show j ≠ 17 by omega, if_false]
      · refine Mod.drop (b := tb) (S := [rb]) ?_ htb
        refine Mod.drop (b := r') (S := [tb, rb]) ?_ k2
        exact ((hmw.trans m03).mono (by simp)).trans (mm.mono (by simp))
      · rw [← k6]
        exact hM4.mod (Mod.refl [] _) (by simp) (by simp) fun b _ hb => hb.1
      · rw [← k6]
        refine hr3.mod mm (by simp [hrt, k5.symm]) fun x hx => ?_
        simp only [List.mem_cons, List.not_mem_nil, or_false] at hx
        rcases hx with rfl | rfl
        · exact ntb
        · rw [k6]; simp
  · rcases hcase with ⟨k1, k2, k3⟩ | ⟨r', k1, -⟩
    · subst k3
      have hrr : r ≠ rb := by omega
      have hr2b : r ≠ b2 := by omega
      refine hQ _ w4 _ (fun j hj => ?_) hb4 (hb23.mod mm (by simpa using h2t)) ?_ (.inr ⟨r, rfl, by omega, hrtb, hr2b, hrr, ?_, ?_⟩)
      · rw [← qa j hj]
        simp only [updo, upd, show j ≠ 22 by omega, show j ≠ 21 by omega, show j ≠ 20 by omega, show j ≠ 19 by omega, show j ≠ 18 by omega, show j ≠ 17 by omega, if_false]
      · refine Mod.drop (b := tb) (S := [rb]) ?_ htb
        exact ((hmw.trans m03).mono (by simp)).trans (mm.mono (by simp))
      · refine hM4.mod (Mod.refl [] _) (by simp) (by simp) fun b _ hb => ?_
        simp only [List.mem_cons, not_or] at hb ⊢
        obtain ⟨⟨q1, q2, q3, q4⟩, q5⟩ := hb
        exact ⟨q1, by omega, q2, q3, q4⟩
      · have h5 : IsRd (b2 :: tb :: S) w4 rb _ := hr3.mod mm (by simpa using hrt) (by simp)
        obtain ⟨base, len, cap, p1, p2, p3, p4⟩ := h5.ex
        obtain ⟨base', len', cap', p1', p2', p3', p4'⟩ := hr3.ex
        refine ⟨⟨base, len, cap, p1, p2, p3, fun a ha => ⟨(p4 a ha).1, ?_, (p4 a ha).2.2⟩⟩, h5.short⟩
        -- the source's block is an old one
        have hsame : base' = base := by
          have x1 := p1.cell 0
          have x2 := (p1'.mod mm (by simpa using hrt)).cell 0
          rw [x1] at x2
          have x3 : base' = base ∧ len' = len ∧ cap' = cap := by simpa using x2.symm
          exact x3.1
        subst hsame
        have := (p4' a ha).2.2
        simp only [List.mem_cons, not_or]
        have q := (p4 a ha).2.1
        simp only [List.mem_cons, not_or] at q
        exact ⟨by omega, q.1, q.2.1, q.2.2⟩
    · rw [k1] at c0; simp at c0

theorem tRead_call (hm : P.follows .mixedOrders = true) (h : liftF P (F tRead) = some (ir_tRead F)) (huv : liftF P (F rUvarint) = some (ir_rUvarint F)) (hk : liftF P (F kUvarint) = some (ir_kUvarint F)) (hsp : liftF P (F rSpan) = some (ir_rSpan F)) (hset : liftF P (F tSet) = some (ir_tSet F)) :
    RdG P (F tRead) 1 fun s => (.tag (rdTags s).1, (rdTags s).2) := by
  intro S w rb s hr hrb hSl
  unfold ir_tRead at h
  refine call_of h hm (by simp) ?_
  have a0 : args0 [.pointer (some ⟨rb, 0, none⟩)] 0 = .pointer (some ⟨rb, 0, none⟩) := rfl
  generalize args0 [.pointer (some ⟨rb, 0, none⟩)] = σ0 at a0 ⊢
  have hrl := hr.lt
  rw [wpC_seq, wpC_blk]
  refine wpR_run ?_
  intro T2
  have b2 := Blk.new w [.map none] T2
  have m1 : Mod [] w (w.alloc (.cells [Value.map none].toArray T2)) := Mod.alloc _ _ _
  have z1 : (w.alloc (.cells [Value.map none].toArray T2)).heap.size = w.heap.size + 1 := by simp
  generalize w.alloc (.cells [Value.map none].toArray T2) = w1 at b2 m1 z1 ⊢
  refine wpR_done ?_
  rw [wpC_seq, wpC_blk]
  refine wpR_run ?_
  intro T3
  have b3 := Blk.new w1 [.map none] T3
  have m2 : Mod [] w1 (w1.alloc (.cells [Value.map none].toArray T3)) := Mod.alloc _ _ _
  have z2 : (w1.alloc (.cells [Value.map none].toArray T3)).heap.size = w1.heap.size + 1 := by simp
  generalize w1.alloc (.cells [Value.map none].toArray T3) = w2 at b3 m2 z2 ⊢
  refine wpR_done ?_
  have hrd2 : IsRd (w.heap.size :: w1.heap.size :: S) w2 rb s := hr.freshL (m1.trans m2) fun x hx => by
    simp only [List.mem_cons] at hx
    rcases hx with rfl | rfl | hx
    · exact .inr (Nat.le_refl _)
    · exact .inr (by omega)
    · exact .inl hx
  have n1 : rb ≠ w.heap.size := by omega
  have n2 : rb ≠ w1.heap.size := by omega
  rw [wpC_seq, wpC_seq, wpC_blk]
  refine wpR_step (v := .pointer (some ⟨rb, 0, none⟩)) (by simp only [RK.val?, ev, updo, upd]; simp [a0]) ?_
  refine wpR_call (vs := [.pointer (some ⟨rb, 0, none⟩)]) (by simp only [List.map_cons, List.map_nil, ev, updo, upd, if_true]) (rUvarint_call hm huv hk _ w2 rb s hrd2 (by simp [n1, n2, hrb])) ?_
  rintro e w3 ⟨rfl, hr3, m3⟩
  refine ⟨_, rfl, ?_⟩
  simp only at hr3 ⊢
  refine wpR_step (v := .int .u32 (rdUv s).1) (by simp only [RK.val?, ev, updo, upd, if_true]) ?_
  refine wpR_done ?_
  generalize hσ : updo _ (some 4) _ = σ1
  have q0 : σ1 0 = .pointer (some ⟨rb, 0, none⟩) := by rw [← hσ]; simp [updo, upd, a0]
  have q2 : σ1 2 = .pointer (some ⟨w.heap.size, 0, none⟩) := by rw [← hσ]; simp [updo, upd]
  have q3 : σ1 3 = .pointer (some ⟨w1.heap.size, 0, none⟩) := by rw [← hσ]; simp [updo, upd]
  have q4 : σ1 4 = .int .u32 (rdUv s).1 := by rw [← hσ]; simp [updo, upd]
  clear hσ
  have hk1 := rdUv_lt s
  have hres : rdTagsN (rdUv s).1 [] (rdUv s).2 = rdTags s := rfl
  rw [wpC_block, wpC_loop]
  -- behind the loop
  have hfin : ∀ (σ' : Sl) (w' : World) (mv : Value), σ' 2 = .pointer (some ⟨w.heap.size, 0, none⟩) → σ' 3 = .pointer (some ⟨w1.heap.size, 0, none⟩) → Blk w' w1.heap.size [mv] → Blk w' w.heap.size [.map none] → Mod [rb] w w' →
      TagS S w.heap.size w' rb w1.heap.size w.heap.size mv (rdTags s).1 (rdTags s).2 →
      wpC P (.seq (.blk [⟨some 23, .ldn (.tmp 3) 1, none⟩, ⟨none, .st (.tmp 2) 1 (.tmp 23), none⟩]) .ret) (postC [.cells 2 1] fun e w' => ∃ v, e = .returned v ∧ (v.cells.size = 1 ∧ Rep (rb :: S) w' (.tag (rdTags s).1) v.cells.toList) ∧ IsRd S w' rb (rdTags s).2 ∧ Mod [rb] w w') σ' w' := by
    intro σ' w' mv s2 s3 hb3 hb2 hm' hT
    have h1c : mv.oneCell' = true := by
      rcases hT with ⟨rfl, -⟩ | ⟨r, rfl, -⟩ <;> rfl
    rw [wpC_seq, wpC_blk]
    refine wpR_step (v := .agg #[mv]) (by simp only [RK.val?, ev, s3, cellsAt_of' hb3.cells (n := 1) rfl, Option.map_some]) ?_
    refine wpR_run ?_
    have ec : (Value.agg #[mv]).cells = #[mv] := rfl
    have hput : Mod [w.heap.size] w' (putCells w' ⟨w.heap.size, 0, none⟩ 0 [mv]) := Mod.put (by simp)
    have hp := hb2.put (o := 0) (vs := [mv]) (by simp)
    rw [splice_all (by rfl)] at hp
    simp only [RK.run, ev, updo, upd, if_true, show (2 : Nat) ≠ 23 by decide, if_false, s2, ec]
    refine ⟨rfl, stOk_one hb2 (by simp) h1c, ?_⟩
    refine wpR_done ?_
    simp only [wpC, postC, rvals, List.mapM_cons, List.mapM_nil, RV.val, upd, show (2 : Nat) ≠ 23 by decide, if_false, s2]
    rw [cellsAt_of' hp.cells (n := 1) rfl]
    simp only [Option.bind_eq_bind, Option.map_some, Option.bind_some, Option.pure_def, tup_one]
    have hmf : Mod [rb] w (putCells w' ⟨w.heap.size, 0, none⟩ 0 [mv]) := Mod.drop (b := w.heap.size) (S := [rb]) ((hm'.mono (by simp)).trans (hput.mono (by simp))) (Nat.le_refl _)
    refine ⟨_, rfl, ⟨rfl, ?_⟩, ?_, hmf⟩
    · show Rep (rb :: S) _ _ [mv]
      rcases hT with ⟨rfl, e2, -⟩ | ⟨r, rfl, k1, k2, k3, k4, k5, k6⟩
      · rw [e2]; exact .tag0
      · refine .tag1 (fun hx => ?_) ((k5.mod hput (by simpa using k3) (by simp) fun _ _ h => h).mod (Mod.refl [] _) (by simp) (by simp) fun b _ hb hx => hb (by
          rcases List.mem_cons.1 hx with rfl | hx
          · simp
          · simp [hx]))
        rcases List.mem_cons.1 hx with rfl | hx
        · exact k4 rfl
        · have := hSl _ hx; omega
    · rcases hT with ⟨-, -, k6⟩ | ⟨r, -, -, -, -, -, -, k6⟩
      · exact (k6.mod hput (by simpa using n1) (by simp)).weakL fun x hx => by simp [hx]
      · exact (k6.mod hput (by simpa using n1) (by simp)).weakL fun x hx => by simp [hx]
  refine ⟨fun σ' w' => ∃ n m s' mv, σ' 0 = .pointer (some ⟨rb, 0, none⟩) ∧ σ' 2 = .pointer (some ⟨w.heap.size, 0, none⟩) ∧ σ' 3 = .pointer (some ⟨w1.heap.size, 0, none⟩) ∧ σ' 4 = .int .u32 (n : Nat) ∧ n < 4294967296 ∧ Blk w' w1.heap.size [mv] ∧ Blk w' w.heap.size [.map none] ∧
      Mod [rb] w w' ∧ TagS S w.heap.size w' rb w1.heap.size w.heap.size mv m s' ∧ rdTagsN n m s' = rdTags s,
    fun σ' _ => match σ' 4 with | .int _ n => n.toNat | _ => 0, ⟨(rdUv s).1, [], (rdUv s).2, .map none, q0, q2, q3, q4, hk1, b3.mod m3 (by simpa using n2.symm), (b2.mod m2 (by simp)).mod m3 (by simpa using n1.symm), ((m1.trans m2).nil).trans m3, .inl ⟨rfl, rfl, hr3⟩, hres⟩, ?_⟩
  rintro σ w' ⟨n, m, s', mv, s0, s2, s3, s4, hn, hb, hb2, hmw, hT, hN⟩
  rw [wpC_seq, wpC_seq, wpC_blk]
  refine wpR_step (v := .int .u32 n) (congrArg some s4) ?_
  refine wpR_step (v := .bool (decide (0 < n))) (by
    simp only [RK.val?, ev, updo, upd, if_true, isShift, decide_true, Bool.or_true, intBin]
    congr 2; exact decide_eq_decide.2 (by omega)) ?_
  refine wpR_done ?_
  by_cases h0 : 0 < n
  · rw [wpC_cond_t (by simp only [ev, updo, upd, if_true, h0, decide_true]), wpC_skip]
    simp only [thenC]
    rw [wpC_seq, wpC_block]
    obtain ⟨n', rfl⟩ : ∃ n', n = n' + 1 := ⟨n - 1, by omega⟩
    refine tag_step (w0 := w) hm huv hk hsp hset (by simp [updo, upd, s0]) (by simp [updo, upd, s3]) hb hb2 hT n2 n1 (by omega) hrb hSl (by omega) hmw fun σ2 w4 mv' a2 hb4 hb24 hmw4 hT4 => ?_
    simp only [inBlockC, thenC]
    rw [wpC_blk]
    have t4 : σ2 4 = .int .u32 ((n' + 1 : Nat) : Int) := by rw [a2 4 (by omega)]; simp [updo, upd, s4]
    refine wpR_step (v := .int .u32 ((n' + 1 : Nat) : Int)) (congrArg some t4) ?_
    refine wpR_step (v := .int .u32 (n' : Nat)) (by
      simp only [RK.val?, ev, updo, upd, if_true, isShift, decide_true, Bool.or_true, intBin]
      have e1 : ((n' + 1 : Nat) : Int) - 1 = (n' : Nat) := by omega
      rw [e1, u32_nat (by omega)]) ?_
    refine wpR_step (v := .int .u32 (n' : Nat)) (by simp only [RK.val?, ev, updo, upd, if_true]) ?_
    simp only [wpR]
    refine ⟨⟨n', _, _, mv', ?_, ?_, ?_, rfl, by omega, hb4, hb24, hmw4, hT4, hN⟩, ?_⟩
    · simp only [updo, upd]; simp [a2 0 (by omega), s0, updo, upd]
    · simp only [updo, upd]; simp [a2 2 (by omega), s2, updo, upd]
    · simp only [updo, upd]; simp [a2 3 (by omega), s3, updo, upd]
    · simp only [updo, upd, if_true, s4]; omega
  · rw [wpC_cond_f (by simp only [ev, updo, upd, if_true, h0, decide_false])]
    have : n = 0 := by omega
    subst this
    simp only [rdTagsN] at hN
    rw [← hN] at hfin
    have hf := hfin (updo (updo σ (some 9) (.int .u32 ((0 : Nat) : Int))) (some 10) (.bool (decide (0 < 0)))) w' mv (by simp [updo, upd, s2]) (by simp [updo, upd, s3]) hb hb2 hmw hT
    rw [hN] at hf
    exact wpC_exit_out hf

end
end Go.Msk

/-! Unknown tags, one by one: the keys are gathered. -/
namespace Go.Msk
open Go.RowKit
set_option maxRecDepth 100000

def u32v (k : Nat) : Value := .int .u32 k

theorem putObj_size (w : World) (r : Nat) (o : Obj) : (putObj w r o).heap.size = w.heap.size := by simp [putObj]
theorem putObj_other {w : World} {r k : Nat} {o : Obj} (h : k ≠ r) : (putObj w r o).heap[k]? = w.heap[k]? := by
  simp only [putObj]; exact Array.getElem?_setIfInBounds_ne (fun e => h e.symm)

theorem nodup_of_map {α β : Type} {f : α → β} {l : List α} (h : (l.map f).Nodup) : l.Nodup :=
  List.Pairwise.of_map f (fun _ _ hab e => hab (congrArg f e)) h

/-- The entries handed out so far. -/
structure SeenL (es : Array MapEntry) (seen : Array Nat) (E : List MapEntry) : Prop where
  sub : ∀ e ∈ E, e ∈ es.toList
  nd : (E.map (·.born)).Nodup
  all : seen.toList = E.map (·.born)

theorem SeenL.push {es : Array MapEntry} {seen : Array Nat} {E : List MapEntry} {e : MapEntry} (h : SeenL es seen E) (he : e ∈ (leftOf es seen).toList) : SeenL es (seen.push e.born) (E ++ [e]) := by
  obtain ⟨h1, h2⟩ := mem_left he
  refine ⟨fun x hx => ?_, ?_, by simp [h.all]⟩
  · rcases List.mem_append.1 hx with hx | hx
    · exact h.sub x hx
    · simp only [List.mem_singleton] at hx; subst hx; exact h1
  · rw [List.map_append, List.nodup_append]
    refine ⟨h.nd, by simp, fun a ha b hb => ?_⟩
    simp only [List.map_cons, List.map_nil, List.mem_singleton] at hb
    subst hb
    intro e'
    subst e'
    rw [← h.all] at ha
    have : seen.contains e.born = true := by simpa using ha
    rw [this] at h2; simp at h2

theorem SeenL.perm {es : Array MapEntry} {seen : Array Nat} {E : List MapEntry} (h : SeenL es seen E) (hb : (es.toList.map (·.born)).Nodup) (h0 : (leftOf es seen).size = 0) : E.Perm es.toList := by
  have hE : E.Nodup := nodup_of_map h.nd
  have hes : es.toList.Nodup := nodup_of_map hb
  refine (List.perm_ext_iff_of_nodup hE hes).2 fun x => ⟨fun hx => h.sub x hx, fun hx => ?_⟩
  have hc := all_seen es seen h0 x hx
  have : x.born ∈ seen.toList := by simpa using hc
  rw [h.all] at this
  obtain ⟨y, hy, hyx⟩ := List.mem_map.1 this
  have := born_inj hb (h.sub y hy) hx hyx
  exact this ▸ hy

theorem SeenL.lt {es : Array MapEntry} {seen : Array Nat} {E : List MapEntry} {e : MapEntry} (h : SeenL es seen E) (_hb : (es.toList.map (·.born)).Nodup) (he : e ∈ (leftOf es seen).toList) : E.length < es.size := by
  have h2 := h.push he
  have hE : (E ++ [e]).Nodup := nodup_of_map h2.nd
  have := hE.length_le_of_subset (l₂ := es.toList) h2.sub
  simp only [List.length_append, List.length_cons, List.length_nil, Array.length_toList] at this
  omega

section
variable {P : Program} {F : Nat → Nat}

/-- The state while keys are gathered. -/
structure KeyS (w0 : World) (w : World) (σ : Sl) (it Bs B r n : Nat) (es : Array MapEntry) (clock : Nat) (E : List MapEntry) : Prop where
  s24 : σ 24 = .pointer (some ⟨it, 0, none⟩)
  s4 : σ 4 = .pointer (some ⟨Bs, 0, none⟩)
  map : w.heap[r]? = some (.map es clock)
  iter : ∃ seen, w.heap[it]? = some (.mapIter (some r) clock seen clock) ∧ SeenL es seen E
  cell : Blk w Bs [.slice (some ⟨B, 0, none⟩) E.length n]
  row : ∃ rest, Blk w B (E.map (·.key) ++ rest) ∧ E.length + rest.length = n
  fr : Mod [] w0 w
  ne1 : it ≠ Bs
  ne2 : it ≠ B
  ne3 : Bs ≠ B
  nr : r ≠ it ∧ r ≠ Bs ∧ r ≠ B
  hn : n = es.size
  old1 : w0.heap.size ≤ it
  old2 : w0.heap.size ≤ Bs
  old3 : w0.heap.size ≤ B

theorem each_loop1 {w0 w : World} {σ : Sl} {it Bs B r n : Nat} {es : Array MapEntry} {clock : Nat} {Q : Exit → Sl → World → Prop} (h : KeyS w0 w σ it Bs B r n es clock []) (hk : keysAre .u32 es) (hb : (es.toList.map (·.born)).Nodup) (hold : ∀ e ∈ es.toList, e.born < clock)
    (hQ : ∀ σ' w' E, (∀ j, j < 25 → j ≠ 5 → σ' j = σ j) → KeyS w0 w' σ' it Bs B r n es clock E → E.Perm es.toList → Q .normal σ' w') :
    wpC P (.block 0 (.loop (.seq (.blk [⟨some 25, .mnext (.tmp 24), none⟩, ⟨some 26, .ext (.tmp 25) 0, none⟩])
        (.seq (.cond (.tmp 26) .skip (.exit 0))
        (.block 1 (.seq (.blk [⟨some 27, .mentry (.tmp 24), none⟩, ⟨some 28, .ext (.tmp 27) 0, none⟩, ⟨some 5, .mv (.tmp 28), none⟩])
          (.blk [⟨some 29, .ld (.tmp 4), none⟩, ⟨some 30, .mv (.tmp 5), none⟩, ⟨some 31, .bslice 1 [.int .u32 0] [(0, 1, .tmp 30)], none⟩, ⟨some 32, .append (.tmp 29) (.tmp 31) 1 4, none⟩, ⟨none, .st (.tmp 4) 1 (.tmp 32), none⟩]))))))) Q σ w := by
  rw [wpC_block, wpC_loop]
  refine ⟨fun σ' w' => ∃ E, (∀ j, j < 25 → j ≠ 5 → σ' j = σ j) ∧ KeyS w0 w' σ' it Bs B r n es clock E, fun _ w' => (leftOf es (w'.iterSeen it)).size, ⟨[], fun _ _ _ => rfl, h⟩, ?_⟩
  rintro σ1 w1 ⟨E, ag, hS⟩
  obtain ⟨seen, hit, hE⟩ := hS.iter
  have hseen : w1.iterSeen it = seen := by unfold World.iterSeen; rw [hit]
  rw [wpC_seq, wpC_blk]
  refine wpR_run ?_
  simp only [RK.run, ev, hS.s24, hit, hS.map]
  refine ⟨hold, Nat.le_refl _, fun h0 => ?_, fun e he w2 hw2 => ?_⟩
  · -- no entry is left
    refine wpR_step (v := .bool false) (by simp only [RK.val?, ev, updo, upd, if_true]; rfl) ?_
    refine wpR_done ?_
    rw [wpC_seq, wpC_cond_f rfl]
    refine wpC_exit_out3 ?_
    refine hQ _ w1 E (fun j hj h5 => ?_) ?_ (hE.perm hb h0)
    · simp only [updo, upd, show j ≠ 26 by omega, show j ≠ 25 by omega, if_false]; exact ag j hj h5
    · exact { hS with s24 := by simp [updo, upd, hS.s24], s4 := by simp [updo, upd, hS.s4] }
  · -- an entry
    have hsz2 : w2.heap = w1.heap := by rcases hw2 with rfl | rfl <;> rfl
    have hm2 : Mod [] w1 w2 := by
      rcases hw2 with rfl | rfl
      · exact Mod.refl _ _
      · exact Mod.drew _ _
    have hitl : it < w2.heap.size := by rw [hsz2]; exact (Array.getElem?_eq_some_iff.1 hit).1
    refine wpR_step (v := .bool true) (by simp only [RK.val?, ev, updo, upd, if_true]; rfl) ?_
    refine wpR_done ?_
    rw [wpC_seq, wpC_cond_t rfl, wpC_skip]
    simp only [thenC]
    rw [wpC_block, wpC_seq, wpC_blk]
    have hpm : Mod [it] w2 (putObj w2 it (.mapIter (some r) clock (seen.push e.born) clock)) := Mod.putObj (by simp)
    have hget : (putObj w2 it (.mapIter (some r) clock (seen.push e.born) clock)).heap[it]? = some (.mapIter (some r) clock (seen.push e.born) clock) := putObj_get hitl
    have hmp : (putObj w2 it (.mapIter (some r) clock (seen.push e.born) clock)).heap[r]? = some (.map es clock) := by
      rw [putObj_other hS.nr.1, hsz2]; exact hS.map
    obtain ⟨rest, hrow, hlen⟩ := hS.row
    have hcell := (hS.cell.mod hm2 (by simp)).mod hpm (by simpa using hS.ne1.symm)
    have hrow := (hrow.mod hm2 (by simp)).mod hpm (by simpa using hS.ne2.symm)
    have hpsz : (putObj w2 it (.mapIter (some r) clock (seen.push e.born) clock)).heap.size = w2.heap.size := putObj_size _ _ _
    have hm3 : Mod [it] w1 (putObj w2 it (.mapIter (some r) clock (seen.push e.born) clock)) := hm2.nil.trans hpm
    generalize hw3 : putObj w2 it (.mapIter (some r) clock (seen.push e.born) clock) = w3 at hpm hget hmp hcell hrow hpsz hm3 ⊢
    obtain ⟨k, hkk⟩ := hk e (mem_left he).1
    have hlt := hE.lt hb he
    have hnn := hS.hn
    refine wpR_run ?_
    simp only [RK.run, ev, updo, upd, show (24 : Nat) ≠ 26 by decide, show (24 : Nat) ≠ 25 by decide, if_false, hS.s24, hget, hmp]
    refine ⟨trivial, e, (mem_left he).1, hb, by simp, ?_⟩
    refine wpR_step (v := e.key) (by simp only [RK.val?, ev, upd, if_true]; rfl) ?_
    refine wpR_step (v := e.key) (by simp only [RK.val?, ev, updo, upd, if_true]) ?_
    refine wpR_done ?_
    rw [wpC_blk]
    refine wpR_step (v := .slice (some ⟨B, 0, none⟩) E.length n) (by simp only [RK.val?, ev, updo, upd]; simp [hS.s4, hcell.cell]) ?_
    refine wpR_step (v := e.key) (by simp only [RK.val?, ev, updo, upd]; simp) ?_
    refine wpR_run ?_
    have hkc : e.key.cells = #[e.key] := by rw [hkk]; rfl
    have hko : e.key.oneCell' = true := by rw [hkk]; rfl
    simp only [RK.run, List.map_cons, List.map_nil, ev, updo, upd, if_true, zrep, List.replicate_succ, List.replicate_zero, List.flatten_cons, List.flatten_nil, List.append_nil, fillL, hkc]
    have hspl : splice [Value.int .u32 0] 0 [e.key] = [e.key] := splice_all rfl
    simp only [List.size_toArray, List.length_cons, List.length_nil, Nat.zero_add, Nat.le_refl, and_self, if_true, hspl]
    intro Tn
    have bA := Blk.new w3 [e.key] Tn
    have mA : Mod [] w3 (w3.alloc (.cells [e.key].toArray Tn)) := Mod.alloc _ _ _
    have zA : (w3.alloc (.cells [e.key].toArray Tn)).heap.size = w3.heap.size + 1 := by simp
    have hcell4 := hcell.mod mA (by simp)
    have hrow4 := hrow.mod mA (by simp)
    have hget4 : (w3.alloc (.cells [e.key].toArray Tn)).heap[it]? = some (.mapIter (some r) clock (seen.push e.born) clock) := by rw [mA.block it (by omega) (by simp)]; exact hget
    have hrl : r < w3.heap.size := (Array.getElem?_eq_some_iff.1 hmp).1
    have hmp4 : (w3.alloc (.cells [e.key].toArray Tn)).heap[r]? = some (.map es clock) := by rw [mA.block r hrl (by simp)]; exact hmp
    generalize w3.alloc (.cells [e.key].toArray Tn) = w4 at bA mA zA hcell4 hrow4 hget4 hmp4 ⊢
    refine wpR_run ?_
    have hsrc : srcCells w4 1 (.slice (some ⟨w3.heap.size, 0, none⟩) 1 1) = some (1, [e.key]) := by
      simp only [srcCells, Nat.mul_one]
      rw [cellsAt_of' bA.cells (n := 1) rfl]; rfl
    simp only [RK.run, ev, updo, upd, show (29 : Nat) ≠ 31 by decide, show (29 : Nat) ≠ 30 by decide, if_false, if_true, hsrc, appendRun]
    rw [if_pos (by omega)]
    simp only [Addr.add_mk, Nat.zero_add, Nat.mul_one]
    obtain ⟨x, rest', rfl⟩ : ∃ x r', rest = x :: r' := by cases rest with | nil => simp at hlen; omega | cons x r' => exact ⟨x, r', rfl⟩
    simp only [List.length_cons] at hlen
    refine ⟨stOk_one hrow4 (by simp) hko, ?_⟩
    have hput : Mod [B] w4 (putCells w4 ⟨B, E.length, none⟩ 0 [e.key]) := Mod.put (by simp)
    have hp := hrow4.put (o := E.length) (vs := [e.key]) (by simp)
    have hsp2 : splice (E.map (·.key) ++ x :: rest') E.length [e.key] = (E ++ [e]).map (·.key) ++ rest' := by
      have h1 : (E.map (·.key) ++ x :: rest').take E.length = E.map (·.key) := List.take_left' (by simp)
      have h2 : (E.map (·.key) ++ x :: rest').drop (E.length + [e.key].length) = rest' := by
        rw [show E.map (·.key) ++ x :: rest' = (E.map (·.key) ++ [x]) ++ rest' by simp]
        exact List.drop_left' (by simp)
      unfold splice
      rw [h1, h2]; simp
    rw [hsp2] at hp
    have hcell5 := hcell4.mod hput (by simpa using hS.ne3)
    have hget5 : (putCells w4 ⟨B, E.length, none⟩ 0 [e.key]).heap[it]? = some (.mapIter (some r) clock (seen.push e.born) clock) := by
      rw [hput.block it (by omega) (by simpa using hS.ne2)]; exact hget4
    have hmp5 : (putCells w4 ⟨B, E.length, none⟩ 0 [e.key]).heap[r]? = some (.map es clock) := by
      rw [hput.block r (by omega) (by simpa using hS.nr.2.2)]; exact hmp4
    have zB : (putCells w4 ⟨B, E.length, none⟩ 0 [e.key]).heap.size = w4.heap.size := size_putCells ..
    generalize putCells w4 ⟨B, E.length, none⟩ 0 [e.key] = w5 at hput hp hcell5 hget5 hmp5 zB ⊢
    refine wpR_run ?_
    have ec : (Value.slice (some ⟨B, 0, none⟩) (E.length + 1) n).cells = #[.slice (some ⟨B, 0, none⟩) (E.length + 1) n] := rfl
    have hput6 : Mod [Bs] w5 (putCells w5 ⟨Bs, 0, none⟩ 0 [.slice (some ⟨B, 0, none⟩) (E.length + 1) n]) := Mod.put (by simp)
    have hp6 := hcell5.put (o := 0) (vs := [.slice (some ⟨B, 0, none⟩) (E.length + 1) n]) (by simp)
    rw [splice_all (by rfl)] at hp6
    simp only [RK.run, ev, updo, upd, if_true, show (4 : Nat) ≠ 32 by decide, show (4 : Nat) ≠ 31 by decide, show (4 : Nat) ≠ 30 by decide, show (4 : Nat) ≠ 29 by decide, show (4 : Nat) ≠ 5 by decide, show (4 : Nat) ≠ 28 by decide, show (4 : Nat) ≠ 27 by decide, show (4 : Nat) ≠ 26 by decide, show (4 : Nat) ≠ 25 by decide, if_false, hS.s4, ec]
    refine ⟨rfl, stOk_one hcell5 (by simp) rfl, ?_⟩
    have hget6 : (putCells w5 ⟨Bs, 0, none⟩ 0 [.slice (some ⟨B, 0, none⟩) (E.length + 1) n]).heap[it]? = some (.mapIter (some r) clock (seen.push e.born) clock) := by
      rw [hput6.block it (by omega) (by simpa using hS.ne1)]; exact hget5
    have hmp6 : (putCells w5 ⟨Bs, 0, none⟩ 0 [.slice (some ⟨B, 0, none⟩) (E.length + 1) n]).heap[r]? = some (.map es clock) := by
      rw [hput6.block r (by omega) (by simpa using hS.nr.2.1)]; exact hmp5
    simp only [wpR, inBlockC, thenC]
    refine ⟨⟨E ++ [e], fun j hj h5 => ?_, ?_⟩, ?_⟩
    · simp only [upd, show j ≠ 32 by omega, show j ≠ 31 by omega, show j ≠ 30 by omega, show j ≠ 29 by omega, h5, show j ≠ 28 by omega, show j ≠ 27 by omega, show j ≠ 26 by omega, show j ≠ 25 by omega, if_false]; exact ag j hj h5
    · refine { hS with s24 := by simp [upd, hS.s24], s4 := by simp [upd, hS.s4], map := hmp6, iter := ⟨_, hget6, hE.push he⟩, cell := by simpa using hp6, row := ⟨rest', hp.mod hput6 (by simpa using hS.ne3.symm), by simp; omega⟩, fr := ?_ }
      have o1 := hS.old1; have o2 := hS.old2; have o3 := hS.old3
      refine Mod.drop (b := it) (S := []) ?_ o1
      refine Mod.drop (b := Bs) (S := [it]) ?_ o2
      refine Mod.drop (b := B) (S := [Bs, it]) ?_ o3
      exact (((hS.fr.mono (by simp)).trans (hm3.mono (by simp))).trans (mA.mono (by simp))).trans ((hput.mono (by simp)).trans (hput6.mono (by simp)))
    · have h6 : (putCells w5 ⟨Bs, 0, none⟩ 0 [.slice (some ⟨B, 0, none⟩) (E.length + 1) n]).iterSeen it = seen.push e.born := by unfold World.iterSeen; rw [hget6]
      rw [hseen, h6]
      exact left_shrinks es seen e he

end
end Go.Msk
