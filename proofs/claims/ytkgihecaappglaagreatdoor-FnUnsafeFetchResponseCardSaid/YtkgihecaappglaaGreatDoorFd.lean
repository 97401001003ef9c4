/- A small language of resolved operations, and what the generic and the generated functions do in it (part 4). -/
import Derived.Test.YtkgihecaappglaaGreatDoorFc
import Derived.Laws.BitsAllLaws
import Derived.Laws.BitsLemmas
import Derived.Laws.Bits64

namespace Go.Msk
open Go.RowKit
structure Mod (S : List Nat) (w w' : World) : Prop where
  os : w'.os = w.os
  tape : w'.tape = w.tape
  output : w'.output = w.output
  size : w.heap.size ≤ w'.heap.size
  block : ∀ k, k < w.heap.size → k ∉ S → w'.heap[k]? = w.heap[k]?
theorem Mod.refl (S : List Nat) (w : World) : Mod S w w := ⟨rfl, rfl, rfl, Nat.le_refl _, fun _ _ _ => rfl⟩
theorem Mod.trans {S : List Nat} {a b c : World} (h : Mod S a b) (k : Mod S b c) : Mod S a c :=
  ⟨k.os.trans h.os, k.tape.trans h.tape, k.output.trans h.output, Nat.le_trans h.size k.size, fun i hi hs => (k.block i (Nat.lt_of_lt_of_le hi h.size) hs).trans (h.block i hi hs)⟩
theorem Mod.mono {S S' : List Nat} {a b : World} (h : Mod S a b) (hs : ∀ x ∈ S, x ∈ S') : Mod S' a b :=
  ⟨h.os, h.tape, h.output, h.size, fun k hk hn => h.block k hk fun e => hn (hs k e)⟩
theorem Mod.nil {S : List Nat} {a b : World} (h : Mod [] a b) : Mod S a b := h.mono (by simp)
theorem Mod.drew (S : List Nat) (w : World) : Mod S w w.drew := ⟨rfl, rfl, rfl, Nat.le_refl _, fun _ _ _ => rfl⟩
theorem Mod.alloc (S : List Nat) (w : World) (o : Obj) : Mod S w (w.alloc o) := ⟨rfl, rfl, rfl, by simp, fun k hk _ => Below.heap_alloc _ _ _ hk⟩
theorem Mod.only {S : List Nat} {b : Nat} {w w' : World} (h : Only b w w') (hb : b ∈ S) : Mod S w w' :=
  ⟨h.os, h.tape, h.output, Nat.le_of_eq h.size.symm, fun k _ hn => h.block k fun e => hn (e ▸ hb)⟩
theorem Mod.below {w w' : World} (h : Mod [] w w') : Below w.heap.size w w' := ⟨h.os, h.tape, h.output, h.size, fun k hk => h.block k hk (by simp)⟩
theorem Mod.drop {S : List Nat} {b : Nat} {w w' : World} (h : Mod (b :: S) w w') (hb : w.heap.size ≤ b) : Mod S w w' :=
  ⟨h.os, h.tape, h.output, h.size, fun k hk hn => h.block k hk (by simp only [List.mem_cons, not_or]; exact ⟨by omega, hn⟩)⟩
theorem Blk.mod {S : List Nat} {w w' : World} {b : Nat} {cs : List Value} (h : Blk w b cs) (hm : Mod S w w') (hb : b ∉ S) : Blk w' b cs :=
  h.of_heap (hm.block b h.lt hb)
theorem Cells.mod {S : List Nat} {w w' : World} {a : Addr} {vs : List Value} (h : Cells w a vs) (hm : Mod S w w') (hb : vs = [] ∨ a.block ∉ S) : Cells w' a vs := by
  cases vs with
  | nil => exact ⟨h.1, fun i v hv => by simp at hv⟩
  | cons v vs => exact h.of_eq (hm.block _ (h.lt (by simp)) (hb.resolve_left (by simp)))
structure IsBytes (w : World) (base : Option Addr) (len cap : Nat) (l : List UInt8) : Prop where
  hlen : len = l.length
  hcap : len ≤ cap
  hnone : base = .none → cap = 0
  hcells : ∀ a, base = some a → Cells w a (u8s l)
theorem IsBytes.nil (w : World) : IsBytes w .none 0 0 [] := ⟨rfl, Nat.le_refl _, fun _ => rfl, fun a h => by simp at h⟩
theorem IsBytes.mod {S : List Nat} {w w' : World} {base : Option Addr} {len cap : Nat} {l : List UInt8} (h : IsBytes w base len cap l) (hm : Mod S w w')
    (hb : ∀ a, base = some a → a.block ∉ S) : IsBytes w' base len cap l :=
  ⟨h.hlen, h.hcap, h.hnone, fun a ha => (h.hcells a ha).mod hm (.inr (hb a ha))⟩
theorem IsBytes.lt {w : World} {base : Option Addr} {len cap : Nat} {l : List UInt8} (h : IsBytes w base len cap l) {i : Nat} {b : UInt8} (hi : l[i]? = some b) : i < len := by
  rw [h.hlen]
  rcases Nat.lt_or_ge i l.length with h | h
  · exact h
  · rw [List.getElem?_eq_none h] at hi; simp at hi
theorem tup_one (v : Value) : tup [v] = v := rfl
theorem u8s_length (l : List UInt8) : (u8s l).length = l.length := by simp [u8s]
theorem u8s_take (l : List UInt8) (n : Nat) : u8s (l.take n) = (u8s l).take n := by simp [u8s]
theorem u8s_drop (l : List UInt8) (n : Nat) : u8s (l.drop n) = (u8s l).drop n := by simp [u8s]
theorem u8s_get (l : List UInt8) (i : Nat) : (u8s l)[i]? = (l[i]?).map fun b => .int .u8 b.toNat := by simp [u8s]
theorem bytesOf_u8s : ∀ l : List UInt8, bytesOf (u8s l) = some l
  | [] => rfl
  | b :: l => by
    have ih := bytesOf_u8s l
    simp only [u8s, List.map_cons] at ih ⊢
    simp only [bytesOf, ih, Option.map_some]
    simp
theorem IsBytes.get {w : World} {a : Addr} {len cap : Nat} {l : List UInt8} (h : IsBytes w (some a) len cap l) {i : Nat} {b : UInt8} (hi : l[i]? = some b) :
    w.cell? (a.add i) = some (.int .u8 b.toNat) := (h.hcells a rfl).nth (by rw [u8s_get, hi]; rfl)
theorem IsBytes.drop {w : World} {base : Option Addr} {len cap : Nat} {l : List UInt8} (h : IsBytes w base len cap l) (k : Nat) (hk : k ≤ len) :
    IsBytes w (if cap = k then base else base.map (·.add (k * 1))) (len - k) (cap - k) (l.drop k) := by
  have hc := h.hcap
  have hl := h.hlen
  refine ⟨by simp [hl], by omega, fun hn => ?_, fun a ha => ?_⟩
  · split at hn
    · rename_i e; omega
    · have : base = .none := by cases base <;> simp at hn ⊢
      rw [h.hnone this]; omega
  · split at ha
    · rename_i e
      have : l.drop k = [] := List.drop_eq_nil_of_le (by omega)
      rw [this]
      exact ⟨(h.hcells a ha).1, fun i v hv => by simp [u8s] at hv⟩
    · cases base with
      | none => simp at ha
      | some b =>
        simp only [Option.map_some, Option.some.injEq, Nat.mul_one] at ha
        subst ha
        have hb := h.hcells b rfl
        rw [Addr.add_of hb.1, u8s_drop]
        exact hb.sub k
theorem IsBytes.take {w : World} {base : Option Addr} {len cap : Nat} {l : List UInt8} (h : IsBytes w base len cap l) (k : Nat) (hk : k ≤ len) :
    IsBytes w base k k (l.take k) := by
  have hl := h.hlen
  have hc := h.hcap
  refine ⟨by simp; omega, Nat.le_refl _, fun hn => by have := h.hnone hn; omega, fun a ha => ?_⟩
  rw [u8s_take]; exact (h.hcells a ha).take k
structure RS where
  src : List UInt8
  bad : Bool
  isnil : Bool
  deriving Inhabited
def RS.fail : RS := ⟨[], true, true⟩
structure IsRd (S : List Nat) (w : World) (rb : Nat) (s : RS) : Prop where
  ex : ∃ base len cap, Blk w rb [.slice base len cap, .bool s.bad] ∧ IsBytes w base len cap s.src ∧ base.isNone = s.isnil ∧ (∀ a, base = some a → a.block ≠ rb ∧ a.block ∉ S ∧ a.block < w.heap.size)
  short : s.src.length ≤ 1152921504606846976
theorem IsRd.mod {S T : List Nat} {w w' : World} {rb : Nat} {s : RS} (h : IsRd S w rb s) (hm : Mod T w w') (hrb : rb ∉ T) (hT : ∀ x ∈ T, x ∈ S) : IsRd S w' rb s := by
  obtain ⟨base, len, cap, h1, h2, hn, h3⟩ := h.ex
  exact ⟨⟨base, len, cap, h1.mod hm hrb, h2.mod hm (fun a ha hc => (h3 a ha).2.1 (hT _ hc)), hn, fun a ha => ⟨(h3 a ha).1, (h3 a ha).2.1, Nat.lt_of_lt_of_le (h3 a ha).2.2 hm.size⟩⟩, h.short⟩
theorem IsRd.lt {S : List Nat} {w : World} {rb : Nat} {s : RS} (h : IsRd S w rb s) : rb < w.heap.size := by
  obtain ⟨base, len, cap, h1, -⟩ := h.ex; exact h1.lt
theorem stOk_one {w : World} {b o : Nat} {cs : List Value} {v : Value} (h : Blk w b cs) (ho : o < cs.length) (hv : v.oneCell' = true) : StOk w ⟨b, o, none⟩ [v] :=
  ⟨rfl, .inr ⟨cs, h, by simp; omega⟩, by simpa using hv⟩
theorem stOk_many {w : World} {b o : Nat} {cs vs : List Value} (h : Blk w b cs) (ho : o + vs.length ≤ cs.length) (hv : ∀ v ∈ vs, v.oneCell' = true) : StOk w ⟨b, o, none⟩ vs :=
  ⟨rfl, .inr ⟨cs, h, ho⟩, hv⟩
theorem Mod.put {S : List Nat} {w : World} {b o : Nat} {vs : List Value} (hb : b ∈ S) : Mod S w (putCells w ⟨b, o, none⟩ 0 vs) := Mod.only (Only.putCells o vs w 0) hb
theorem Blk.put {w : World} {b o : Nat} {cs vs : List Value} (h : Blk w b cs) (ho : o + vs.length ≤ cs.length) : Blk (Msk.putCells w ⟨b, o, none⟩ 0 vs) b (splice cs o vs) := by
  have := Blk.putCells vs w cs o 0 h (by simpa using ho)
  simpa using this
theorem size_putCells (w : World) (b o : Nat) (vs : List Value) : (putCells w ⟨b, o, none⟩ 0 vs).heap.size = w.heap.size := (Only.putCells o vs w 0).size
theorem splice_all {cs vs : List Value} (h : vs.length = cs.length) : splice cs 0 vs = vs := by
  simp [splice, h]
theorem new_put (w : World) (z vs : List Value) (T : TypeId) (hl : vs.length = z.length) (hv : ∀ v ∈ vs, v.oneCell' = true) :
    StOk (w.alloc (.cells z.toArray T)) ⟨w.heap.size, 0, none⟩ vs ∧ Blk (putCells (w.alloc (.cells z.toArray T)) ⟨w.heap.size, 0, none⟩ 0 vs) w.heap.size vs ∧
    Mod [] w (putCells (w.alloc (.cells z.toArray T)) ⟨w.heap.size, 0, none⟩ 0 vs) := by
  have h := Blk.new w z T
  refine ⟨stOk_many h (by omega) hv, ?_, ?_⟩
  · have := h.put (vs := vs) (o := 0) (by omega)
    rwa [splice_all hl] at this
  · exact Mod.drop (b := w.heap.size) ((Mod.alloc _ _ _).trans (Mod.put (by simp))) (Nat.le_refl _)
theorem rd_fail {S : List Nat} {w : World} {rb : Nat} {u v : Value} (h : Blk w rb [u, v]) :
    StOk w ⟨rb, 1, none⟩ [.bool true] ∧ StOk (putCells w ⟨rb, 1, none⟩ 0 [.bool true]) ⟨rb, 0, none⟩ [.slice none 0 0] ∧
    IsRd S (putCells (putCells w ⟨rb, 1, none⟩ 0 [.bool true]) ⟨rb, 0, none⟩ 0 [.slice none 0 0]) rb RS.fail ∧
    Mod [rb] w (putCells (putCells w ⟨rb, 1, none⟩ 0 [.bool true]) ⟨rb, 0, none⟩ 0 [.slice none 0 0]) := by
  have h1 : Blk (putCells w ⟨rb, 1, none⟩ 0 [.bool true]) rb [u, .bool true] := h.put (vs := [.bool true]) (o := 1) (by simp)
  have h2 : Blk (putCells (putCells w ⟨rb, 1, none⟩ 0 [.bool true]) ⟨rb, 0, none⟩ 0 [.slice none 0 0]) rb [.slice none 0 0, .bool true] := h1.put (vs := [.slice none 0 0]) (o := 0) (by simp)
  exact ⟨stOk_one h (by simp) rfl, stOk_one h1 (by simp) rfl, ⟨⟨none, 0, 0, h2, IsBytes.nil _, rfl, fun a ha => by simp at ha⟩, by simp [RS.fail]⟩, (Mod.put (by simp)).trans (Mod.put (by simp))⟩
theorem rd_cut {S : List Nat} {w : World} {rb : Nat} {s : RS} {base : Option Addr} {len cap : Nat} (h : Blk w rb [.slice base len cap, .bool s.bad])
    (h2 : IsBytes w base len cap s.src) (hn : base.isNone = s.isnil) (ha : ∀ a, base = some a → a.block ≠ rb ∧ a.block ∉ S ∧ a.block < w.heap.size) (hs : s.src.length ≤ 1152921504606846976) {k : Nat} (hk : k ≤ len) :
    StOk w ⟨rb, 0, none⟩ [.slice (if cap = k then base else base.map (·.add (k * 1))) (len - k) (cap - k)] ∧
    IsRd S (putCells w ⟨rb, 0, none⟩ 0 [.slice (if cap = k then base else base.map (·.add (k * 1))) (len - k) (cap - k)]) rb { s with src := s.src.drop k } ∧
    Mod [rb] w (putCells w ⟨rb, 0, none⟩ 0 [.slice (if cap = k then base else base.map (·.add (k * 1))) (len - k) (cap - k)]) := by
  have hm : Mod [rb] w (putCells w ⟨rb, 0, none⟩ 0 [.slice (if cap = k then base else base.map (·.add (k * 1))) (len - k) (cap - k)]) := Mod.put (by simp)
  have hb : ∀ a, (if cap = k then base else base.map (·.add (k * 1))) = some a → a.block ≠ rb ∧ a.block ∉ S ∧ a.block < w.heap.size := by
    intro a h
    split at h
    · exact ha a h
    · cases base with
      | none => simp at h
      | some b =>
        simp only [Option.map_some, Option.some.injEq] at h
        subst h
        have := ha b rfl
        unfold Addr.add
        split <;> exact this
  refine ⟨stOk_one h (by simp) rfl, ⟨⟨_, _, _, h.put (vs := [_]) (o := 0) (by simp), (h2.drop k hk).mod hm (fun a h => by simpa using (hb a h).1), ?_, fun a h => ?_⟩, by simp; omega⟩, hm⟩
  · rw [← hn]; split <;> simp
  · rw [size_putCells]; exact hb a h
def IsOct (w : World) (v : Value) : Option (List UInt8) → Prop
  | none => v = .slice none 0 0
  | some l => ∃ a len cap, v = .slice (some a) len cap ∧ IsBytes w (some a) len cap l
def walkB (P : Program) (l : List DI) (Φ : Nat → Value → World → Prop) (w0 : World) (E : Sl → Prop) : Nat → List DI → Sl → Prop
  | _, [], σ => E σ
  | k, d :: r, σ =>
    if gOk d.ri.guard σ = true then
      if d.node = true then
        (∀ w, Mod [] w0 w → known l Φ d.deps σ w → d.ri.k.run P σ w fun v w' => Mod [] w w' ∧ Φ k v w') ∧
        ∀ v, (∃ w, Φ k v w) → walkB P l Φ w0 E (k + 1) r (updo σ d.ri.dst v)
      else match d.ri.k.val? σ w0 with
        | some v => walkB P l Φ w0 E (k + 1) r (updo σ d.ri.dst v)
        | none => False
    else walkB P l Φ w0 E (k + 1) r (updo σ d.ri.dst undef)
abbrev NT : Nat → World → Prop := fun _ _ => True
theorem walk_of_B {P : Program} {l : List DI} {Φ : Nat → Value → World → Prop} {w0 : World} {E : Sl → Prop} : ∀ (r : List DI) (k : Nat) (σ : Sl),
    walkB P l Φ w0 E k r σ → walk P l (fun w w' => Mod [] w w') Φ NT w0 E k r σ := by
  intro r
  induction r with
  | nil => intro k σ h; exact h
  | cons d r ih =>
    intro k σ h
    simp only [walkB] at h
    simp only [walk]
    split at h
    · rename_i hg
      rw [if_pos hg]
      split at h
      · rename_i hn
        rw [if_pos hn]
        exact ⟨fun w h1 _ h2 => run_mono (h.1 w h1 h2) fun v w' hk => ⟨hk.1, hk.2, fun _ _ _ => trivial⟩, fun v hv => ih _ _ (h.2 v hv)⟩
      · rename_i hn
        rw [if_neg hn]
        split at h
        · rename_i v hv
          exact ⟨v, fun w hw _ => val_below hw.below hv, ih _ _ h⟩
        · exact h.elim
    · rename_i hg
      rw [if_neg hg]; exact ih _ _ h
theorem wpD_of_B {P : Program} {l : List DI} {sinks : List RI} {σ : Sl} {w0 : World} {Q : Sl → World → Prop} (Φ : Nat → Value → World → Prop)
    (hst : ∀ j v w w', Φ j v w → Mod [] w w' → Φ j v w')
    (h : walkB P l Φ w0 (fun σ' => ∀ w, Mod [] w0 w → known l Φ (List.range l.length) σ' w → wpR P sinks σ' w Q) 0 l σ) : wpD P l sinks σ w0 Q :=
  ⟨fun w w' => Mod [] w w', Φ, NT, fun w => Mod.refl _ w, fun _ _ _ => Mod.trans, hst, fun _ => trivial, walk_of_B _ _ _ h⟩
@[simp] theorem known_nil (l : List DI) (Φ : Nat → Value → World → Prop) (σ : Sl) (w : World) : known l Φ [] σ w ↔ True := by simp [known]
theorem wpD_one {P : Program} {l : List DI} {sinks : List RI} {σ : Sl} {w0 : World} {Q : Sl → World → Prop} (X : Value)
    (h : walkB P l (fun _ v _ => v = X) w0 (fun σ' => ∀ w, Mod [] w0 w → wpR P sinks σ' w Q) 0 l σ) : wpD P l sinks σ w0 Q := by
  refine wpD_of_B (fun _ v _ => v = X) (fun _ _ _ _ h _ => h) ?_
  have gen : ∀ (r : List DI) (k : Nat) (σ : Sl) (E E' : Sl → Prop), (∀ σ, E σ → E' σ) → walkB P l (fun _ v _ => v = X) w0 E k r σ → walkB P l (fun _ v _ => v = X) w0 E' k r σ := by
    intro r
    induction r with
    | nil => intro k σ E E' hE h; exact hE σ h
    | cons d r ih =>
      intro k σ E E' hE h
      simp only [walkB] at h ⊢
      split at h
      · rename_i hg
        rw [if_pos hg]
        split at h
        · rename_i hn; rw [if_pos hn]; exact ⟨h.1, fun v hv => ih _ _ _ _ hE (h.2 v hv)⟩
        · rename_i hn; rw [if_neg hn]
          split at h
          · exact ih _ _ _ _ hE h
          · exact h.elim
      · rename_i hg; rw [if_neg hg]; exact ih _ _ _ _ hE h
  exact gen l 0 σ _ _ (fun σ h w hw _ => h w hw) h
def pureK (k : RK) : Bool :=
  match k with
  | .alloc _ | .box _ | .bslice _ _ _ | .s2b _ | .mkslice _ _ _ _ | .call _ _ | .append _ _ _ _ | .appendz _ _ _ _ | .callv _ _ | .invk _ _ _ | .st _ _ _ | .copy _ _ _ | .mkmap | .mapup _ _ _ | .mlen _ | .mlook _ _ _ | .mrng _ | .mnext _ | .mentry _ => false
  | _ => true
theorem pure_run {P : Program} {k : RK} {σ : Sl} {w : World} {K : Value → World → Prop} (hp : pureK k = true) (h : k.run P σ w K) : ∃ v, k.val? σ w = some v ∧ K v w := by
  cases k <;> first | (simp [pureK] at hp; done) | skip
  case mv x => exact ⟨_, rfl, h⟩
  case mkfunc fn a b => exact ⟨_, rfl, h⟩
  case mkif T x => exact ⟨_, rfl, h⟩
  all_goals simp only [RK.run] at h
  case build z ps =>
    split at h <;> first | exact h.elim | skip
    rename_i hv; exact ⟨_, by simp only [RK.val?, hv, Option.map_some], h⟩
  case ld a =>
    split at h <;> first | exact h.elim | skip
    rename_i hx; split at h <;> first | exact h.elim | skip
    rename_i hv; exact ⟨_, by simp only [RK.val?, hx]; exact hv, h⟩
  case ldn a n =>
    split at h <;> first | exact h.elim | skip
    rename_i hx; split at h <;> first | exact h.elim | skip
    rename_i hv; exact ⟨_, by simp only [RK.val?, hx, hv, Option.map_some], h⟩
  case bin op x y =>
    split at h
    · rename_i hx hy
      split at h <;> first | exact h.elim | skip
      rename_i hc
      split at h <;> first | exact h.elim | skip
      rename_i hv; exact ⟨_, by simp only [RK.val?, hx, hy, hc, if_true, hv], h⟩
    · rename_i hx hy
      split at h <;> first | exact h.elim | exact ⟨_, by simp only [RK.val?, hx, hy], h⟩
    · exact h.elim
  case b2s x =>
    split at h
    · rename_i hx; exact ⟨_, by simp only [RK.val?, hx], h⟩
    · rename_i hx
      split at h <;> first | exact h.elim | skip
      rename_i hv; exact ⟨_, by simp only [RK.val?, hx, hv, Option.map_some], h⟩
    · exact h.elim
  case iad x ix n =>
    split at h <;> first | exact h.elim | skip
    rename_i hx hi
    exact ⟨_, by simp only [RK.val?, hx, hi]; rw [if_pos ⟨h.1, h.2.1⟩], h.2.2⟩
  case fld x k n =>
    split at h <;> first | exact h.elim | skip
    rename_i hx
    cases n with
    | none =>
      simp only at h; split at h <;> first | exact h.elim | skip
      rename_i hv; exact ⟨_, by simp only [RK.val?, hx, hv], h⟩
    | some n => exact ⟨_, by simp only [RK.val?, hx], h⟩
  case ext x i =>
    split at h <;> first | exact h.elim | skip
    rename_i hx; split at h <;> first | exact h.elim | skip
    rename_i hv; exact ⟨_, by simp only [RK.val?, hx, hv], h⟩
  case slice x l hh m n =>
    split at h <;> first | exact h.elim | skip
    rename_i hx; split at h <;> first | exact h.elim | skip
    rename_i hl hhi hm
    exact ⟨_, by simp only [RK.val?, hx, hl, hhi, hm]; rw [if_pos ⟨h.1, h.2.1, h.2.2.1, h.2.2.2.1⟩], h.2.2.2.2⟩
  case idx x i =>
    split at h <;> first | exact h.elim | skip
    rename_i hx hi; split at h <;> first | exact h.elim | skip
    rename_i hv; exact ⟨_, by simp only [RK.val?, hx, hi]; rw [hv]; rfl, h⟩
  case isnil k n x => split at h <;> first | exact h.elim | (rename_i hx; exact ⟨_, by simp only [RK.val?, hx], h⟩)
  case mm m x y => split at h <;> first | exact h.elim | (rename_i hx hy; exact ⟨_, by simp only [RK.val?, hx, hy], h⟩)
  case beq n x y => split at h <;> first | exact h.elim | (rename_i hx hy; exact ⟨_, by simp only [RK.val?, hx, hy], h⟩)
  all_goals (split at h <;> first | exact h.elim | (rename_i hx; exact ⟨_, by simp only [RK.val?, hx], h⟩))
theorem walk_pure {P : Program} {l : List DI} {Φ : Nat → Value → World → Prop} {w0 : World} {E : Sl → Prop} {sinks : List RI} {Q : Sl → World → Prop}
    (hE : ∀ σ, wpR P sinks σ w0 Q → E σ) : ∀ (r : List DI) (k : Nat) (σ : Sl), (r.all fun d => !d.node && pureK d.ri.k) = true →
    wpR P (r.map (·.ri) ++ sinks) σ w0 Q → walk P l (fun w w' => w' = w) Φ NT w0 E k r σ := by
  intro r
  induction r with
  | nil => intro k σ _ h; exact hE σ h
  | cons d r ih =>
    intro k σ hp h
    simp only [List.all_cons, Bool.and_eq_true, Bool.not_eq_true'] at hp
    obtain ⟨⟨hn, hk⟩, hr⟩ := hp
    simp only [List.map_cons, List.cons_append, wpR, RI.wp] at h
    simp only [walk]
    split at h
    · rename_i hg
      rw [if_pos hg, if_neg (by rw [hn]; simp)]
      obtain ⟨v, hv, hK⟩ := pure_run hk h
      exact ⟨v, fun w hw _ => by rw [hw]; exact hv, ih _ _ hr hK⟩
    · rename_i hg
      rw [if_neg hg]; exact ih _ _ hr h
theorem wpD_pure {P : Program} {l : List DI} {sinks : List RI} {σ : Sl} {w0 : World} {Q : Sl → World → Prop}
    (hp : (l.all fun d => !d.node && pureK d.ri.k) = true) (h : wpR P (l.map (·.ri) ++ sinks) σ w0 Q) : wpD P l sinks σ w0 Q :=
  ⟨fun w w' => w' = w, fun _ _ _ => True, NT, fun _ => rfl, fun _ _ _ h1 h2 => h2.trans h1, fun _ _ _ _ h _ => h, fun _ => trivial,
    walk_pure (fun σ h w hw _ => by rw [hw]; exact h) l 0 σ hp h⟩
theorem walkN_step {P : Program} {l : List DI} {R : World → World → Prop} {Φ : Nat → Value → World → Prop} {N : Nat → World → Prop} {w0 : World} {E : Sl → Prop} {n : Nat} {k : RK} {d : Option Nat} {ds : List Nat} {r : List DI} {σ : Sl} {v : Value} (hv : ∀ w, R w0 w → k.val? σ w = some v)
    (h : walk P l R Φ N w0 E (n + 1) r (updo σ d v)) : walk P l R Φ N w0 E n (⟨⟨d, k, none⟩, false, ds⟩ :: r) σ := by
  simp only [walk, gOk, if_true, Bool.false_eq_true, if_false]
  exact ⟨v, fun w hw _ => hv w hw, h⟩
theorem walkN_node {P : Program} {l : List DI} {R : World → World → Prop} {Φ : Nat → Value → World → Prop} {N : Nat → World → Prop} {w0 : World} {E : Sl → Prop} {n : Nat} {k : RK} {d : Option Nat} {ds : List Nat} {r : List DI} {σ : Sl}
    (hn : ∀ w, R w0 w → N n w → known l Φ ds σ w → k.run P σ w fun v w' => R w w' ∧ Φ n v w' ∧ ∀ j, j ≠ n → N j w → N j w') (h : ∀ v, (∃ w, Φ n v w) → walk P l R Φ N w0 E (n + 1) r (updo σ d v)) : walk P l R Φ N w0 E n (⟨⟨d, k, none⟩, true, ds⟩ :: r) σ := by
  simp only [walk, gOk, if_true]
  exact ⟨hn, h⟩
end Go.Msk

namespace Go.Msk
open Go.RowKit
set_option maxRecDepth 100000
section
variable {P : Program}
theorem wpR_step {k : RK} {d : Option Nat} {r : List RI} {σ : Sl} {w : World} {v : Value} {Q : Sl → World → Prop} (hv : k.val? σ w = some v) (h : wpR P r (updo σ d v) w Q) : wpR P (⟨d, k, none⟩ :: r) σ w Q := by
  simp only [wpR, RI.wp, gOk, if_true]
  exact run_of_val hv h
theorem walkB_step {l : List DI} {Φ : Nat → Value → World → Prop} {w0 : World} {E : Sl → Prop} {n : Nat} {k : RK} {d : Option Nat} {ds : List Nat} {r : List DI} {σ : Sl} {v : Value} (hv : k.val? σ w0 = some v)
    (h : walkB P l Φ w0 E (n + 1) r (updo σ d v)) : walkB P l Φ w0 E n (⟨⟨d, k, none⟩, false, ds⟩ :: r) σ := by
  simp only [walkB, gOk, if_true, hv, Bool.false_eq_true, if_false]
  exact h
theorem walkB_node {l : List DI} {Φ : Nat → Value → World → Prop} {w0 : World} {E : Sl → Prop} {n : Nat} {k : RK} {d : Option Nat} {ds : List Nat} {r : List DI} {σ : Sl}
    (hn : ∀ w, Mod [] w0 w → known l Φ ds σ w → k.run P σ w fun v w' => Mod [] w w' ∧ Φ n v w') (h : ∀ v, (∃ w, Φ n v w) → walkB P l Φ w0 E (n + 1) r (updo σ d v)) : walkB P l Φ w0 E n (⟨⟨d, k, none⟩, true, ds⟩ :: r) σ := by
  simp only [walkB, gOk, if_true]
  exact ⟨hn, h⟩
theorem wpR_run {k : RK} {d : Option Nat} {r : List RI} {σ : Sl} {w : World} {Q : Sl → World → Prop} (h : k.run P σ w fun v w' => wpR P r (updo σ d v) w' Q) : wpR P (⟨d, k, none⟩ :: r) σ w Q := by
  simp only [wpR, RI.wp, gOk, if_true]; exact h
theorem wpR_call {f : FuncId} {args : List Operand} {d : Option Nat} {r : List RI} {σ : Sl} {w : World} {Q : Sl → World → Prop} {R : Ending → World → Prop} {vs : List Value} (ha : args.map (ev σ) = vs) (hc : Calls P f vs.toArray w R)
    (hk : ∀ e w', R e w' → ∃ v, e = .returned v ∧ wpR P r (updo σ d v) w' Q) : wpR P (⟨d, .call f args, none⟩ :: r) σ w Q := by
  subst ha
  refine wpR_run ?_
  exact hc.mono fun e w' he => hk e w' he
theorem wpC_seq (a b : IC) (Q : Exit → Sl → World → Prop) (σ : Sl) (w : World) : wpC P (.seq a b) Q σ w = wpC P a (thenC (wpC P b Q) Q) σ w := rfl
theorem wpC_skip (Q : Exit → Sl → World → Prop) (σ : Sl) (w : World) : wpC P .skip Q σ w = Q .normal σ w := rfl
theorem wpC_blk (l : List RI) (Q : Exit → Sl → World → Prop) (σ : Sl) (w : World) : wpC P (.blk l) Q σ w = wpR P l σ w (Q .normal) := rfl
theorem wpC_block (id : Nat) (a : IC) (Q : Exit → Sl → World → Prop) (σ : Sl) (w : World) : wpC P (.block id a) Q σ w = wpC P a (inBlockC id Q) σ w := rfl
theorem wpC_rnd (d1 d2 : Nat) (Q : Exit → Sl → World → Prop) (σ : Sl) (w : World) : wpC P (.rnd d1 d2) Q σ w =
    ∀ (c : Bool) (T : TypeId), Q .normal (upd (upd σ d1 (.pointer (some ⟨w.heap.size, 0, none⟩))) d2 (.bool c)) (w.drew.alloc (.cells [.bool c].toArray T)) := rfl
theorem wpC_loop (a : IC) (Q : Exit → Sl → World → Prop) (σ : Sl) (w : World) : wpC P (.loop a) Q σ w = ∃ (I : Sl → World → Prop) (μ : Sl → World → Nat), I σ w ∧
      ∀ σ w, I σ w → wpC P a (thenC (fun σ' w' => I σ' w' ∧ μ σ' w' < μ σ w) Q) σ w := rfl
theorem wpC_cond_t {c : Operand} {a b : IC} {Q : Exit → Sl → World → Prop} {σ : Sl} {w : World} (h : ev σ c = .bool true) : wpC P (.cond c a b) Q σ w = wpC P a Q σ w := by simp only [wpC, h]
theorem wpC_cond_f {c : Operand} {a b : IC} {Q : Exit → Sl → World → Prop} {σ : Sl} {w : World} (h : ev σ c = .bool false) : wpC P (.cond c a b) Q σ w = wpC P b Q σ w := by simp only [wpC, h]
theorem wpC_exit_out {id : Nat} {N M : Sl → World → Prop} {Q : Exit → Sl → World → Prop} {σ : Sl} {w : World} (h : Q .normal σ w) : wpC P (.exit id) (thenC N (thenC M (inBlockC id Q))) σ w := by
  simp only [wpC, thenC, inBlockC, if_true]; exact h
theorem wpC_exit_out3 {id : Nat} {N M : Sl → World → Prop} {Q : Exit → Sl → World → Prop} {σ : Sl} {w : World} (h : Q .normal σ w) : wpC P (.exit id) (thenC N (thenC M (inBlockC id Q))) σ w := by
  simp only [wpC, thenC, inBlockC, if_true]; exact h
theorem wpR_done {N : Sl → World → Prop} {Q : Exit → Sl → World → Prop} {σ : Sl} {w : World} (h : N σ w) : wpR P [] σ w (thenC N Q .normal) := h
theorem wpR_stepG {k : RK} {d : Option Nat} {g : Nat × Bool} {r : List RI} {σ : Sl} {w : World} {v : Value} {Q : Sl → World → Prop} (hg : σ g.1 = .bool g.2) (hv : k.val? σ w = some v) (h : wpR P r (updo σ d v) w Q) : wpR P (⟨d, k, some g⟩ :: r) σ w Q := by
  obtain ⟨a, b⟩ := g
  simp only at hg
  simp only [wpR, RI.wp, gOk, hg, beq_self_eq_true, if_true]
  exact run_of_val hv h
theorem wpR_runG {k : RK} {d : Option Nat} {g : Nat × Bool} {r : List RI} {σ : Sl} {w : World} {Q : Sl → World → Prop} (hg : σ g.1 = .bool g.2) (h : k.run P σ w fun v w' => wpR P r (updo σ d v) w' Q) : wpR P (⟨d, k, some g⟩ :: r) σ w Q := by
  obtain ⟨a, b⟩ := g
  simp only at hg
  simp only [wpR, RI.wp, gOk, hg, beq_self_eq_true, if_true]
  exact h
theorem walkB_stepG {l : List DI} {Φ : Nat → Value → World → Prop} {w0 : World} {E : Sl → Prop} {n : Nat} {k : RK} {d : Option Nat} {g : Nat × Bool} {ds : List Nat} {r : List DI} {σ : Sl} {v : Value} (hg : σ g.1 = .bool g.2) (hv : k.val? σ w0 = some v)
    (h : walkB P l Φ w0 E (n + 1) r (updo σ d v)) : walkB P l Φ w0 E n (⟨⟨d, k, some g⟩, false, ds⟩ :: r) σ := by
  obtain ⟨a, b⟩ := g
  simp only at hg
  simp only [walkB, gOk, hg, beq_self_eq_true, if_true, hv, Bool.false_eq_true, if_false]
  exact h
theorem walkB_nodeG {l : List DI} {Φ : Nat → Value → World → Prop} {w0 : World} {E : Sl → Prop} {n : Nat} {k : RK} {d : Option Nat} {g : Nat × Bool} {ds : List Nat} {r : List DI} {σ : Sl} (hg : σ g.1 = .bool g.2)
    (hn : ∀ w, Mod [] w0 w → known l Φ ds σ w → k.run P σ w fun v w' => Mod [] w w' ∧ Φ n v w') (h : ∀ v, (∃ w, Φ n v w) → walkB P l Φ w0 E (n + 1) r (updo σ d v)) : walkB P l Φ w0 E n (⟨⟨d, k, some g⟩, true, ds⟩ :: r) σ := by
  obtain ⟨a, b⟩ := g
  simp only at hg
  simp only [walkB, gOk, hg, beq_self_eq_true, if_true]
  exact ⟨hn, h⟩
theorem walkB_offG {l : List DI} {Φ : Nat → Value → World → Prop} {w0 : World} {E : Sl → Prop} {n : Nat} {k : RK} {d : Option Nat} {ds : List Nat} {r : List DI} {σ : Sl} {a : Nat} {b nd : Bool} (hg : σ a = .bool (!b))
    (h : walkB P l Φ w0 E (n + 1) r (updo σ d undef)) : walkB P l Φ w0 E n (⟨⟨d, k, some (a, b)⟩, nd, ds⟩ :: r) σ := by
  have : gOk (some (a, b)) σ = false := by simp only [gOk, hg]; cases b <;> rfl
  simp only [walkB, this, Bool.false_eq_true, if_false]
  exact h
end
end Go.Msk

namespace Go.Msk
abbrev gBig : Nat := 0
abbrev gErr : Nat := 1
abbrev rBool : Nat := 2
abbrev rInt8 : Nat := 3
abbrev rInt16 : Nat := 4
abbrev rUint16 : Nat := 5
abbrev rInt32 : Nat := 6
abbrev rInt64 : Nat := 7
abbrev rUuid : Nat := 8
abbrev rReadUint64 : Nat := 10
abbrev rUvarint : Nat := 12
abbrev rSpan : Nat := 13
abbrev rUnsafeString : Nat := 14
abbrev rString : Nat := 15
abbrev rUnsafeCompactString : Nat := 16
abbrev rCompactString : Nat := 17
abbrev rUnsafeNullableString : Nat := 18
abbrev rNullableString : Nat := 19
abbrev rUnsafeCompactNullableString : Nat := 20
abbrev rCompactNullableString : Nat := 21
abbrev rBytes : Nat := 22
abbrev rCompactBytes : Nat := 23
abbrev rNullableBytes : Nat := 24
abbrev rCompactNullableBytes : Nat := 25
abbrev rArrayLen : Nat := 26
abbrev rCompactArrayLen : Nat := 27
abbrev rComplete : Nat := 28
abbrev rOk : Nat := 29
abbrev kUnsafeString : Nat := 30
abbrev kUvarint : Nat := 31
abbrev beUint16 : Nat := 56
abbrev beUint32 : Nat := 57
abbrev beUint64 : Nat := 58
abbrev tSet : Nat := 59
abbrev tEach : Nat := 61
abbrev tEach1 : Nat := 62
abbrev tRead : Nat := 65
abbrev iBoolTree : Nat := 70
abbrev iTextTree : Nat := 71
abbrev iOctetsTree : Nat := 72
abbrev iSorted : Nat := 73
abbrev lVersion : Nat := 74
abbrev lGot : Nat := 76
abbrev sSame : Nat := 95
abbrev sSameTree : Nat := 102
abbrev sortSlice : Nat := 113
abbrev tyU32s : Nat := 120
def ir_rInt16 (F : Nat → Nat) : IC × List RV × Nat := (.seq (.blk [⟨some 2, .mv (.const (.int .i16 0)), none⟩])
 (.seq (.seq (.blk [⟨some 4, .mv (.tmp 0), none⟩,
 ⟨some 5, .nilc (.tmp 4), none⟩,
 ⟨some 6, .fad (.tmp 5) 0, none⟩,
 ⟨some 7, .ld (.tmp 6), none⟩,
 ⟨some 8, .len (.tmp 7), none⟩,
 ⟨some 9, .bin .lss (.tmp 8) (.const (.int .i64 2)), none⟩])
 (.cond (.tmp 9)
 (.seq (.blk [⟨some 10, .mv (.tmp 0), none⟩,
 ⟨some 11, .nilc (.tmp 10), none⟩,
 ⟨some 12, .fad (.tmp 11) 1, none⟩,
 ⟨none, .st (.tmp 12) 1 (.const (.bool true)), none⟩])
 (.seq (.blk [⟨some 13, .mv (.tmp 0), none⟩,
 ⟨some 14, .nilc (.tmp 13), none⟩,
 ⟨some 15, .fad (.tmp 14) 0, none⟩,
 ⟨none, .st (.tmp 15) 1 (.const (.slice none 0 0)), none⟩])
 (.seq (.blk [⟨some 2, .mv (.const (.int .i16 0)), none⟩])
 (.ret))))
 (.skip)))
 (.seq (.drw [⟨⟨some 16, .ldn (.global (F gBig)) 0, none⟩, false, []⟩,
 ⟨⟨some 17, .mv (.tmp 0), none⟩, false, []⟩,
 ⟨⟨some 18, .nilc (.tmp 17), none⟩, false, []⟩,
 ⟨⟨some 19, .fad (.tmp 18) 0, none⟩, false, []⟩,
 ⟨⟨some 20, .ld (.tmp 19), none⟩, false, []⟩,
 ⟨⟨some 21, .call (F beUint16) [.tmp 16, .tmp 20], none⟩, true, []⟩,
 ⟨⟨some 22, .conv .i16 (.tmp 21), none⟩, false, [5]⟩,
 ⟨⟨some 3, .mv (.tmp 22), none⟩, false, [5]⟩]
 [])
 (.seq (.blk [⟨some 23, .mv (.tmp 0), none⟩,
 ⟨some 24, .mv (.tmp 0), none⟩,
 ⟨some 25, .nilc (.tmp 24), none⟩,
 ⟨some 26, .fad (.tmp 25) 0, none⟩,
 ⟨some 27, .ld (.tmp 26), none⟩,
 ⟨some 28, .slice (.tmp 27) (some (.const (.int .i64 2))) none none 1, none⟩,
 ⟨some 29, .nilc (.tmp 23), none⟩,
 ⟨some 30, .fad (.tmp 29) 0, none⟩,
 ⟨none, .st (.tmp 30) 1 (.tmp 28), none⟩])
 (.seq (.blk [⟨some 31, .mv (.tmp 3), none⟩,
 ⟨some 2, .mv (.tmp 31), none⟩])
 (.ret))))),
 [.tmp 2], 32)
def ir_rSpan (_F : Nat → Nat) : IC × List RV × Nat := (.seq (.blk [⟨some 4, .mv (.const (.slice none 0 0)), none⟩])
 (.seq (.seq (.blk [⟨some 6, .mv (.tmp 0), none⟩,
 ⟨some 7, .nilc (.tmp 6), none⟩,
 ⟨some 8, .fad (.tmp 7) 0, none⟩,
 ⟨some 9, .ld (.tmp 8), none⟩,
 ⟨some 10, .len (.tmp 9), none⟩,
 ⟨some 11, .mv (.tmp 1), none⟩,
 ⟨some 12, .bin .lss (.tmp 10) (.tmp 11), none⟩,
 ⟨some 13, .mv (.tmp 12), none⟩,
 ⟨some 14, .mv (.tmp 1), some (13, false)⟩,
 ⟨some 15, .bin .lss (.tmp 14) (.const (.int .i64 0)), some (13, false)⟩,
 ⟨some 16, .pick (.tmp 13) (.const (.bool true)) (.tmp 15), none⟩])
 (.cond (.tmp 16)
 (.seq (.blk [⟨some 17, .mv (.tmp 0), none⟩,
 ⟨some 18, .nilc (.tmp 17), none⟩,
 ⟨some 19, .fad (.tmp 18) 1, none⟩,
 ⟨none, .st (.tmp 19) 1 (.const (.bool true)), none⟩])
 (.seq (.blk [⟨some 20, .mv (.tmp 0), none⟩,
 ⟨some 21, .nilc (.tmp 20), none⟩,
 ⟨some 22, .fad (.tmp 21) 0, none⟩,
 ⟨none, .st (.tmp 22) 1 (.const (.slice none 0 0)), none⟩])
 (.seq (.blk [⟨some 4, .mv (.const (.slice none 0 0)), none⟩])
 (.ret))))
 (.skip)))
 (.seq (.blk [⟨some 23, .mv (.tmp 0), none⟩,
 ⟨some 24, .nilc (.tmp 23), none⟩,
 ⟨some 25, .fad (.tmp 24) 0, none⟩,
 ⟨some 26, .ld (.tmp 25), none⟩,
 ⟨some 27, .mv (.tmp 1), none⟩,
 ⟨some 28, .mv (.tmp 1), none⟩,
 ⟨some 29, .slice (.tmp 26) none (some (.tmp 27)) (some (.tmp 28)) 1, none⟩,
 ⟨some 5, .mv (.tmp 29), none⟩])
 (.seq (.blk [⟨some 30, .mv (.tmp 0), none⟩,
 ⟨some 31, .mv (.tmp 0), none⟩,
 ⟨some 32, .nilc (.tmp 31), none⟩,
 ⟨some 33, .fad (.tmp 32) 0, none⟩,
 ⟨some 34, .ld (.tmp 33), none⟩,
 ⟨some 35, .mv (.tmp 1), none⟩,
 ⟨some 36, .slice (.tmp 34) (some (.tmp 35)) none none 1, none⟩,
 ⟨some 37, .nilc (.tmp 30), none⟩,
 ⟨some 38, .fad (.tmp 37) 0, none⟩,
 ⟨none, .st (.tmp 38) 1 (.tmp 36), none⟩])
 (.seq (.blk [⟨some 39, .mv (.tmp 5), none⟩,
 ⟨some 4, .mv (.tmp 39), none⟩])
 (.ret))))),
 [.tmp 4], 40)
def ir_beUint16 (_F : Nat → Nat) : IC × List RV × Nat := (.seq (.blk [⟨some 2, .box (.tmp 0), none⟩,
 ⟨some 4, .mv (.const (.int .u16 0)), none⟩])
 (.seq (.blk [⟨some 5, .mv (.tmp 1), none⟩,
 ⟨some 6, .iad (.tmp 5) (.const (.int .i64 1)) 1, none⟩,
 ⟨some 7, .ld (.tmp 6), none⟩])
 (.seq (.drw [⟨⟨some 8, .mv (.tmp 1), none⟩, false, []⟩,
 ⟨⟨some 9, .iad (.tmp 8) (.const (.int .i64 1)) 1, none⟩, false, []⟩,
 ⟨⟨some 10, .ld (.tmp 9), none⟩, false, []⟩,
 ⟨⟨some 11, .conv .u16 (.tmp 10), none⟩, false, []⟩,
 ⟨⟨some 12, .mv (.tmp 1), none⟩, false, []⟩,
 ⟨⟨some 13, .iad (.tmp 12) (.const (.int .i64 0)) 1, none⟩, false, []⟩,
 ⟨⟨some 14, .ld (.tmp 13), none⟩, false, []⟩,
 ⟨⟨some 15, .conv .u16 (.tmp 14), none⟩, false, []⟩,
 ⟨⟨some 16, .bin .shl (.tmp 15) (.const (.int .u64 8)), none⟩, false, []⟩,
 ⟨⟨some 17, .bin .or (.tmp 11) (.tmp 16), none⟩, false, []⟩,
 ⟨⟨some 4, .mv (.tmp 17), none⟩, false, []⟩]
 [])
 (.ret))),
 [.tmp 4], 18)
def ir_rInt32 (F : Nat → Nat) : IC × List RV × Nat := (.seq (.blk [⟨some 2, .mv (.const (.int .i32 0)), none⟩])
 (.seq (.seq (.blk [⟨some 4, .mv (.tmp 0), none⟩,
 ⟨some 5, .nilc (.tmp 4), none⟩,
 ⟨some 6, .fad (.tmp 5) 0, none⟩,
 ⟨some 7, .ld (.tmp 6), none⟩,
 ⟨some 8, .len (.tmp 7), none⟩,
 ⟨some 9, .bin .lss (.tmp 8) (.const (.int .i64 4)), none⟩])
 (.cond (.tmp 9)
 (.seq (.blk [⟨some 10, .mv (.tmp 0), none⟩,
 ⟨some 11, .nilc (.tmp 10), none⟩,
 ⟨some 12, .fad (.tmp 11) 1, none⟩,
 ⟨none, .st (.tmp 12) 1 (.const (.bool true)), none⟩])
 (.seq (.blk [⟨some 13, .mv (.tmp 0), none⟩,
 ⟨some 14, .nilc (.tmp 13), none⟩,
 ⟨some 15, .fad (.tmp 14) 0, none⟩,
 ⟨none, .st (.tmp 15) 1 (.const (.slice none 0 0)), none⟩])
 (.seq (.blk [⟨some 2, .mv (.const (.int .i32 0)), none⟩])
 (.ret))))
 (.skip)))
 (.seq (.drw [⟨⟨some 16, .ldn (.global (F gBig)) 0, none⟩, false, []⟩,
 ⟨⟨some 17, .mv (.tmp 0), none⟩, false, []⟩,
 ⟨⟨some 18, .nilc (.tmp 17), none⟩, false, []⟩,
 ⟨⟨some 19, .fad (.tmp 18) 0, none⟩, false, []⟩,
 ⟨⟨some 20, .ld (.tmp 19), none⟩, false, []⟩,
 ⟨⟨some 21, .call (F beUint32) [.tmp 16, .tmp 20], none⟩, true, []⟩,
 ⟨⟨some 22, .conv .i32 (.tmp 21), none⟩, false, [5]⟩,
 ⟨⟨some 3, .mv (.tmp 22), none⟩, false, [5]⟩]
 [])
 (.seq (.blk [⟨some 23, .mv (.tmp 0), none⟩,
 ⟨some 24, .mv (.tmp 0), none⟩,
 ⟨some 25, .nilc (.tmp 24), none⟩,
 ⟨some 26, .fad (.tmp 25) 0, none⟩,
 ⟨some 27, .ld (.tmp 26), none⟩,
 ⟨some 28, .slice (.tmp 27) (some (.const (.int .i64 4))) none none 1, none⟩,
 ⟨some 29, .nilc (.tmp 23), none⟩,
 ⟨some 30, .fad (.tmp 29) 0, none⟩,
 ⟨none, .st (.tmp 30) 1 (.tmp 28), none⟩])
 (.seq (.blk [⟨some 31, .mv (.tmp 3), none⟩,
 ⟨some 2, .mv (.tmp 31), none⟩])
 (.ret))))),
 [.tmp 2], 32)
def ir_beUint32 (_F : Nat → Nat) : IC × List RV × Nat := (.seq (.blk [⟨some 2, .box (.tmp 0), none⟩,
 ⟨some 4, .mv (.const (.int .u32 0)), none⟩])
 (.seq (.blk [⟨some 5, .mv (.tmp 1), none⟩,
 ⟨some 6, .iad (.tmp 5) (.const (.int .i64 3)) 1, none⟩,
 ⟨some 7, .ld (.tmp 6), none⟩])
 (.seq (.drw [⟨⟨some 8, .mv (.tmp 1), none⟩, false, []⟩,
 ⟨⟨some 9, .iad (.tmp 8) (.const (.int .i64 3)) 1, none⟩, false, []⟩,
 ⟨⟨some 10, .ld (.tmp 9), none⟩, false, []⟩,
 ⟨⟨some 11, .conv .u32 (.tmp 10), none⟩, false, []⟩,
 ⟨⟨some 12, .mv (.tmp 1), none⟩, false, []⟩,
 ⟨⟨some 13, .iad (.tmp 12) (.const (.int .i64 2)) 1, none⟩, false, []⟩,
 ⟨⟨some 14, .ld (.tmp 13), none⟩, false, []⟩,
 ⟨⟨some 15, .conv .u32 (.tmp 14), none⟩, false, []⟩,
 ⟨⟨some 16, .bin .shl (.tmp 15) (.const (.int .u64 8)), none⟩, false, []⟩,
 ⟨⟨some 17, .bin .or (.tmp 11) (.tmp 16), none⟩, false, []⟩,
 ⟨⟨some 18, .mv (.tmp 1), none⟩, false, []⟩,
 ⟨⟨some 19, .iad (.tmp 18) (.const (.int .i64 1)) 1, none⟩, false, []⟩,
 ⟨⟨some 20, .ld (.tmp 19), none⟩, false, []⟩,
 ⟨⟨some 21, .conv .u32 (.tmp 20), none⟩, false, []⟩,
 ⟨⟨some 22, .bin .shl (.tmp 21) (.const (.int .u64 16)), none⟩, false, []⟩,
 ⟨⟨some 23, .bin .or (.tmp 17) (.tmp 22), none⟩, false, []⟩,
 ⟨⟨some 24, .mv (.tmp 1), none⟩, false, []⟩,
 ⟨⟨some 25, .iad (.tmp 24) (.const (.int .i64 0)) 1, none⟩, false, []⟩,
 ⟨⟨some 26, .ld (.tmp 25), none⟩, false, []⟩,
 ⟨⟨some 27, .conv .u32 (.tmp 26), none⟩, false, []⟩,
 ⟨⟨some 28, .bin .shl (.tmp 27) (.const (.int .u64 24)), none⟩, false, []⟩,
 ⟨⟨some 29, .bin .or (.tmp 23) (.tmp 28), none⟩, false, []⟩,
 ⟨⟨some 4, .mv (.tmp 29), none⟩, false, []⟩]
 [])
 (.ret))),
 [.tmp 4], 30)
def ir_rString (F : Nat → Nat) : IC × List RV × Nat := (.seq (.blk [⟨some 2, .mv (.const (.string .empty)), none⟩])
 (.seq (.blk [⟨some 4, .mv (.tmp 0), none⟩,
 ⟨some 5, .call (F rInt16) [.tmp 4], none⟩,
 ⟨some 3, .mv (.tmp 5), none⟩])
 (.seq (.blk [⟨some 6, .mv (.tmp 0), none⟩,
 ⟨some 7, .mv (.tmp 3), none⟩,
 ⟨some 8, .conv .i64 (.tmp 7), none⟩,
 ⟨some 9, .call (F rSpan) [.tmp 6, .tmp 8], none⟩,
 ⟨some 10, .b2s (.tmp 9), none⟩,
 ⟨some 2, .mv (.tmp 10), none⟩])
 (.ret))),
 [.tmp 2], 11)
def ir_rUnsafeString (F : Nat → Nat) : IC × List RV × Nat := (.seq (.blk [⟨some 2, .mv (.const (.string .empty)), none⟩])
 (.seq (.blk [⟨some 4, .mv (.tmp 0), none⟩,
 ⟨some 5, .call (F rInt16) [.tmp 4], none⟩,
 ⟨some 3, .mv (.tmp 5), none⟩])
 (.seq (.blk [⟨some 6, .mv (.tmp 0), none⟩,
 ⟨some 7, .mv (.tmp 3), none⟩,
 ⟨some 8, .conv .i64 (.tmp 7), none⟩,
 ⟨some 9, .call (F rSpan) [.tmp 6, .tmp 8], none⟩,
 ⟨some 10, .call (F kUnsafeString) [.tmp 9], none⟩,
 ⟨some 2, .mv (.tmp 10), none⟩])
 (.ret))),
 [.tmp 2], 11)
def ir_kUnsafeString (_F : Nat → Nat) : IC × List RV × Nat := (.seq (.blk [⟨some 2, .mv (.const (.string .empty)), none⟩])
 (.seq (.blk [⟨some 3, .mv (.tmp 0), none⟩,
 ⟨some 4, .b2s (.tmp 3), none⟩,
 ⟨some 2, .mv (.tmp 4), none⟩])
 (.ret)),
 [.tmp 2], 5)
def ir_rArrayLen (F : Nat → Nat) : IC × List RV × Nat := (.seq (.blk [⟨some 2, .mv (.const (.int .i32 0)), none⟩])
 (.seq (.blk [⟨some 4, .mv (.tmp 0), none⟩,
 ⟨some 5, .call (F rInt32) [.tmp 4], none⟩,
 ⟨some 3, .mv (.tmp 5), none⟩])
 (.seq (.seq (.blk [⟨some 6, .mv (.tmp 0), none⟩,
 ⟨some 7, .nilc (.tmp 6), none⟩,
 ⟨some 8, .fad (.tmp 7) 0, none⟩,
 ⟨some 9, .ld (.tmp 8), none⟩,
 ⟨some 10, .len (.tmp 9), none⟩,
 ⟨some 11, .mv (.tmp 3), none⟩,
 ⟨some 12, .conv .i64 (.tmp 11), none⟩,
 ⟨some 13, .bin .lss (.tmp 10) (.tmp 12), none⟩])
 (.cond (.tmp 13)
 (.seq (.blk [⟨some 14, .mv (.tmp 0), none⟩,
 ⟨some 15, .nilc (.tmp 14), none⟩,
 ⟨some 16, .fad (.tmp 15) 1, none⟩,
 ⟨none, .st (.tmp 16) 1 (.const (.bool true)), none⟩])
 (.seq (.blk [⟨some 17, .mv (.tmp 0), none⟩,
 ⟨some 18, .nilc (.tmp 17), none⟩,
 ⟨some 19, .fad (.tmp 18) 0, none⟩,
 ⟨none, .st (.tmp 19) 1 (.const (.slice none 0 0)), none⟩])
 (.seq (.blk [⟨some 2, .mv (.const (.int .i32 0)), none⟩])
 (.ret))))
 (.skip)))
 (.seq (.blk [⟨some 20, .mv (.tmp 3), none⟩,
 ⟨some 2, .mv (.tmp 20), none⟩])
 (.ret)))),
 [.tmp 2], 21)
def ir_rOk (_F : Nat → Nat) : IC × List RV × Nat := (.seq (.blk [⟨some 2, .mv (.const (.bool false)), none⟩])
 (.seq (.blk [⟨some 3, .mv (.tmp 0), none⟩,
 ⟨some 4, .nilc (.tmp 3), none⟩,
 ⟨some 5, .fad (.tmp 4) 1, none⟩,
 ⟨some 6, .ld (.tmp 5), none⟩,
 ⟨some 7, .lnot (.tmp 6), none⟩,
 ⟨some 2, .mv (.tmp 7), none⟩])
 (.ret)),
 [.tmp 2], 8)
def ir_rComplete (F : Nat → Nat) : IC × List RV × Nat := (.seq (.blk [⟨some 2, .mv (.const (.nilIface)), none⟩])
 (.seq (.seq (.blk [⟨some 3, .mv (.tmp 0), none⟩,
 ⟨some 4, .nilc (.tmp 3), none⟩,
 ⟨some 5, .fad (.tmp 4) 1, none⟩,
 ⟨some 6, .ld (.tmp 5), none⟩])
 (.cond (.tmp 6)
 (.seq (.blk [⟨some 7, .ld (.global (F gErr)), none⟩,
 ⟨some 2, .mv (.tmp 7), none⟩])
 (.ret))
 (.skip)))
 (.seq (.blk [⟨some 2, .mv (.const (.nilIface)), none⟩])
 (.ret))),
 [.tmp 2], 8)
def ir_rNullableBytes (F : Nat → Nat) : IC × List RV × Nat := (.seq (.blk [⟨some 2, .mv (.const (.slice none 0 0)), none⟩])
 (.seq (.blk [⟨some 5, .mv (.tmp 0), none⟩,
 ⟨some 6, .call (F rInt32) [.tmp 5], none⟩,
 ⟨some 3, .mv (.tmp 6), none⟩])
 (.seq (.seq (.blk [⟨some 7, .mv (.tmp 3), none⟩,
 ⟨some 8, .bin .lss (.tmp 7) (.const (.int .i32 0)), none⟩])
 (.cond (.tmp 8)
 (.seq (.blk [⟨some 2, .mv (.const (.slice none 0 0)), none⟩])
 (.ret))
 (.skip)))
 (.seq (.blk [⟨some 9, .mv (.tmp 0), none⟩,
 ⟨some 10, .mv (.tmp 3), none⟩,
 ⟨some 11, .conv .i64 (.tmp 10), none⟩,
 ⟨some 12, .call (F rSpan) [.tmp 9, .tmp 11], none⟩,
 ⟨some 4, .mv (.tmp 12), none⟩])
 (.seq (.blk [⟨some 13, .mv (.tmp 4), none⟩,
 ⟨some 2, .mv (.tmp 13), none⟩])
 (.ret))))),
 [.tmp 2], 14)
def ir_rNullableString (F : Nat → Nat) : IC × List RV × Nat := (.seq (.blk [⟨some 2, .mv (.const (.pointer none)), none⟩])
 (.seq (.blk [⟨some 5, .mv (.tmp 0), none⟩,
 ⟨some 6, .call (F rInt16) [.tmp 5], none⟩,
 ⟨some 3, .mv (.tmp 6), none⟩])
 (.seq (.seq (.blk [⟨some 7, .mv (.tmp 3), none⟩,
 ⟨some 8, .bin .lss (.tmp 7) (.const (.int .i16 0)), none⟩])
 (.cond (.tmp 8)
 (.seq (.blk [⟨some 2, .mv (.const (.pointer none)), none⟩])
 (.ret))
 (.skip)))
 (.seq (.blk [⟨some 9, .mv (.tmp 0), none⟩,
 ⟨some 10, .mv (.tmp 3), none⟩,
 ⟨some 11, .conv .i64 (.tmp 10), none⟩,
 ⟨some 12, .call (F rSpan) [.tmp 9, .tmp 11], none⟩,
 ⟨some 13, .b2s (.tmp 12), none⟩,
 ⟨some 4, .alloc [.string .empty], none⟩,
 ⟨none, .st (.tmp 4) 1 (.tmp 13), none⟩])
 (.seq (.blk [⟨some 2, .mv (.tmp 4), none⟩])
 (.ret))))),
 [.tmp 2], 14)
def ir_rUnsafeNullableString (F : Nat → Nat) : IC × List RV × Nat := (.seq (.blk [⟨some 2, .mv (.const (.pointer none)), none⟩])
 (.seq (.blk [⟨some 5, .mv (.tmp 0), none⟩,
 ⟨some 6, .call (F rInt16) [.tmp 5], none⟩,
 ⟨some 3, .mv (.tmp 6), none⟩])
 (.seq (.seq (.blk [⟨some 7, .mv (.tmp 3), none⟩,
 ⟨some 8, .bin .lss (.tmp 7) (.const (.int .i16 0)), none⟩])
 (.cond (.tmp 8)
 (.seq (.blk [⟨some 2, .mv (.const (.pointer none)), none⟩])
 (.ret))
 (.skip)))
 (.seq (.blk [⟨some 9, .mv (.tmp 0), none⟩,
 ⟨some 10, .mv (.tmp 3), none⟩,
 ⟨some 11, .conv .i64 (.tmp 10), none⟩,
 ⟨some 12, .call (F rSpan) [.tmp 9, .tmp 11], none⟩,
 ⟨some 13, .call (F kUnsafeString) [.tmp 12], none⟩,
 ⟨some 4, .alloc [.string .empty], none⟩,
 ⟨none, .st (.tmp 4) 1 (.tmp 13), none⟩])
 (.seq (.blk [⟨some 2, .mv (.tmp 4), none⟩])
 (.ret))))),
 [.tmp 2], 14)
end Go.Msk

namespace Go.Msk
theorem or_add (a b i : Nat) (h : b < 2 ^ i) : b ||| (a * 2 ^ i) = a * 2 ^ i + b := by
  rw [Nat.or_comm, ← Nat.shiftLeft_eq, Nat.shiftLeft_add_eq_or_of_lt h]
theorem ofInt_or (n x y : Nat) (hx : x < 2 ^ n) (hy : y < 2 ^ n) : (BitVec.ofInt n (x : Int) ||| BitVec.ofInt n (y : Int)).toNat = x ||| y := by
  rw [BitVec.toNat_or]
  simp only [BitVec.ofInt_natCast, BitVec.toNat_ofNat]
  rw [Nat.mod_eq_of_lt hx, Nat.mod_eq_of_lt hy]
def unsignedB : IntKind → Bool
  | .u8 | .u16 | .u32 | .u64 => true
  | _ => false
theorem wrap_nat (k : IntKind) (hk : unsignedB k = true) (n : Nat) (h : n < 2 ^ k.bits) : k.wrap (n : Int) = n := by
  cases k <;> simp [unsignedB] at hk <;> simp only [IntKind.bits] at h <;> simp [IntKind.wrap, IntKind.bits, IntKind.signed] <;> omega
theorem bin_or {k : IntKind} (hk : unsignedB k = true) {x y : Nat} (hx : x < 2 ^ k.bits) (hy : y < 2 ^ k.bits) :
    intBin .or k (x : Int) (y : Int) = some (.int k ((x ||| y : Nat) : Int)) := by
  simp only [intBin]
  rw [ofInt_or _ _ _ hx hy, wrap_nat k hk _ (Nat.or_lt_two_pow hx hy)]
theorem bin_shl {k : IntKind} (hk : unsignedB k = true) {x s : Nat} (hs : s ≤ k.bits) (hx : x * 2 ^ s < 2 ^ k.bits) :
    intBin .shl k (x : Int) (s : Int) = some (.int k ((x * 2 ^ s : Nat) : Int)) := by
  simp only [intBin]
  rw [if_neg (by omega)]
  have : min (s : Int).toNat k.bits = s := by simp only [Int.toNat_natCast]; omega
  rw [this]
  have e : ((x : Int) * 2 ^ s) = ((x * 2 ^ s : Nat) : Int) := by rw [Int.natCast_mul, Int.natCast_pow]; rfl
  rw [e, wrap_nat k hk _ hx]
theorem byte_lt (b : UInt8) : b.toNat < 256 := b.toNat_lt
def beNat (l : List UInt8) : Nat := l.foldl (fun n b => n * 256 + b.toNat) 0
@[simp] theorem intBin_lss (k : IntKind) (x y : Int) : intBin .lss k x y = some (.bool (decide (x < y))) := rfl
@[simp] theorem intBin_leq (k : IntKind) (x y : Int) : intBin .leq k x y = some (.bool (decide (x ≤ y))) := rfl
@[simp] theorem intBin_gtr (k : IntKind) (x y : Int) : intBin .gtr k x y = some (.bool (decide (x > y))) := rfl
@[simp] theorem intBin_geq (k : IntKind) (x y : Int) : intBin .geq k x y = some (.bool (decide (x ≥ y))) := rfl
@[simp] theorem intBin_eql (k : IntKind) (x y : Int) : intBin .eql k x y = some (.bool (x == y)) := rfl
@[simp] theorem intBin_neq (k : IntKind) (x y : Int) : intBin .neq k x y = some (.bool (x != y)) := rfl
@[simp] theorem intBin_add (k : IntKind) (x y : Int) : intBin .add k x y = some (.int k (k.wrap (x + y))) := rfl
@[simp] theorem intBin_sub (k : IntKind) (x y : Int) : intBin .sub k x y = some (.int k (k.wrap (x - y))) := rfl
theorem wrap_zero (k : IntKind) : k.wrap 0 = 0 := by cases k <;> rfl
theorem join_or {k : IntKind} (hk : unsignedB k = true) {n m i c : Nat} (hc : c = 2 ^ i) (hn : n < c) (hm : m * c + n < 2 ^ k.bits) :
    intBin .or k (n : Int) ((m : Int) * (c : Int)) = some (.int k ((m * c + n : Nat) : Int)) := by
  rw [← Int.natCast_mul]
  have h1 : n < 2 ^ k.bits := by omega
  have h2 : m * c < 2 ^ k.bits := by omega
  rw [bin_or hk h1 h2]
  subst hc
  rw [or_add _ _ _ hn]
theorem octet_wrap (k : IntKind) (hk : unsignedB k = true) (h8 : 8 ≤ k.bits) (b : UInt8) : k.wrap (b.toNat : Int) = b.toNat := by
  refine wrap_nat k hk _ ?_
  have := byte_lt b
  have : 2 ^ 8 ≤ 2 ^ k.bits := Nat.pow_le_pow_right (by omega) h8
  omega
theorem octet_shl {k : IntKind} (hk : unsignedB k = true) (b : UInt8) {s c : Nat} (hc : c = 2 ^ s) (hs : s + 8 ≤ k.bits) :
    intBin .shl k (b.toNat : Int) (s : Int) = some (.int k ((b.toNat : Int) * (c : Int))) := by
  subst hc
  rw [bin_shl hk (by omega) (by
    have := byte_lt b
    have h1 : b.toNat * 2 ^ s < 256 * 2 ^ s := Nat.mul_lt_mul_of_pos_right this (Nat.pow_pos (by omega))
    have h2 : 256 * 2 ^ s = 2 ^ (s + 8) := by rw [Nat.pow_add, Nat.mul_comm]
    have h3 : 2 ^ (s + 8) ≤ 2 ^ k.bits := Nat.pow_le_pow_right (by omega) hs
    omega)]
  rw [Int.natCast_mul]
end Go.Msk

namespace Go.Msk
open Go.RowKit
set_option maxRecDepth 100000
def rdN (k : Nat) (s : RS) : Nat × RS :=
  if k ≤ s.src.length then (beNat (s.src.take k), { s with src := s.src.drop k }) else (0, RS.fail)
section
variable {P : Program} {F : Nat → Nat} {w : World}
attribute [local simp] bnd wpC wpR RI.wp gOk RK.run thenC inBlockC updo upd ev args0 postC rvals RV.val tup_one isShift
theorem beUint16_call (hm : P.follows .mixedOrders = true) (h : liftF P (F beUint16) = some (ir_beUint16 F)) {a : Addr} {len cap : Nat} {l : List UInt8}
    (hb : IsBytes w (some a) len cap l) (h2 : 2 ≤ l.length) :
    Calls P (F beUint16) [.agg #[], .slice (some a) len cap].toArray w fun e w' => e = .returned (.int .u16 (beNat (l.take 2) : Nat)) ∧ Mod [] w w' := by
  obtain ⟨b0, b1, r, rfl⟩ : ∃ b0 b1 r, l = b0 :: b1 :: r := by
    match l, h2 with
    | b0 :: b1 :: r, _ => exact ⟨b0, b1, r, rfl⟩
  refine call_of h hm (by simp) ?_
  have hl : 1 < len := hb.lt (i := 1) rfl
  have hl0 : 0 < len := by omega
  simp []
  intro T
  refine ⟨by omega, ?_⟩
  have hb' := hb.mod (S := []) (Mod.alloc [] w (Obj.cells (Value.agg #[]).cells T)) (by simp)
  rw [hb'.get (i := 1) rfl]
  refine wpD_pure rfl ?_
  have g0 : (w.alloc (Obj.cells (Value.agg #[]).cells T)).drew.cell? (a.add 0) = some (.int .u8 b0.toNat) := hb'.get rfl
  have g1 : (w.alloc (Obj.cells (Value.agg #[]).cells T)).drew.cell? (a.add 1) = some (.int .u8 b1.toNat) := hb'.get rfl
  have e3 := join_or (k := .u16) rfl (n := b1.toNat) (m := b0.toNat) (i := 8) (c := 256) rfl (byte_lt b1) (by have := byte_lt b0; have := byte_lt b1; simp only [IntKind.bits]; omega)
  have e2 := octet_shl (k := .u16) rfl b0 (s := 8) (c := 256) rfl (by simp [IntKind.bits])
  have ew : ∀ b : UInt8, IntKind.u16.wrap (b.toNat : Int) = b.toNat := octet_wrap .u16 rfl (by simp [IntKind.bits])
  rw [show ((256 : Nat) : Int) = 256 from rfl] at e2 e3
  rw [show ((8 : Nat) : Int) = 8 from rfl] at e2
  simp [hl0, g0, g1, ew, e2, e3]
  refine ⟨by omega, by simp [beNat], (Mod.alloc _ _ _).trans (Mod.drew _ _)⟩
theorem beUint32_call (hm : P.follows .mixedOrders = true) (h : liftF P (F beUint32) = some (ir_beUint32 F)) {a : Addr} {len cap : Nat} {l : List UInt8}
    (hb : IsBytes w (some a) len cap l) (h2 : 4 ≤ l.length) :
    Calls P (F beUint32) [.agg #[], .slice (some a) len cap].toArray w fun e w' => e = .returned (.int .u32 (beNat (l.take 4) : Nat)) ∧ Mod [] w w' := by
  obtain ⟨b0, b1, b2, b3, r, rfl⟩ : ∃ b0 b1 b2 b3 r, l = b0 :: b1 :: b2 :: b3 :: r := by
    match l, h2 with
    | b0 :: b1 :: b2 :: b3 :: r, _ => exact ⟨b0, b1, b2, b3, r, rfl⟩
  refine call_of h hm (by simp) ?_
  have hl3 : 3 < len := hb.lt (i := 3) rfl
  have hl2 : 2 < len := by omega
  have hl1 : 1 < len := by omega
  have hl0 : 0 < len := by omega
  simp []
  intro T
  refine ⟨by omega, ?_⟩
  have hb' := hb.mod (S := []) (Mod.alloc [] w (Obj.cells (Value.agg #[]).cells T)) (by simp)
  rw [hb'.get (i := 3) rfl]
  refine wpD_pure rfl ?_
  have g0 : (w.alloc (Obj.cells (Value.agg #[]).cells T)).drew.cell? (a.add 0) = some (.int .u8 b0.toNat) := hb'.get rfl
  have g1 : (w.alloc (Obj.cells (Value.agg #[]).cells T)).drew.cell? (a.add 1) = some (.int .u8 b1.toNat) := hb'.get rfl
  have g2 : (w.alloc (Obj.cells (Value.agg #[]).cells T)).drew.cell? (a.add 2) = some (.int .u8 b2.toNat) := hb'.get rfl
  have g3 : (w.alloc (Obj.cells (Value.agg #[]).cells T)).drew.cell? (a.add 3) = some (.int .u8 b3.toNat) := hb'.get rfl
  have c0 := byte_lt b0
  have c1 := byte_lt b1
  have c2 := byte_lt b2
  have c3 := byte_lt b3
  have e1 := join_or (k := .u32) rfl (n := b3.toNat) (m := b2.toNat) (i := 8) (c := 256) rfl c3 (by simp only [IntKind.bits]; omega)
  have e2 := join_or (k := .u32) rfl (n := b2.toNat * 256 + b3.toNat) (m := b1.toNat) (i := 16) (c := 65536) rfl (by omega) (by simp only [IntKind.bits]; omega)
  have e3 := join_or (k := .u32) rfl (n := b1.toNat * 65536 + (b2.toNat * 256 + b3.toNat)) (m := b0.toNat) (i := 24) (c := 16777216) rfl (by omega) (by simp only [IntKind.bits]; omega)
  have f2 := octet_shl (k := .u32) rfl b2 (s := 8) (c := 256) rfl (by simp [IntKind.bits])
  have f1 := octet_shl (k := .u32) rfl b1 (s := 16) (c := 65536) rfl (by simp [IntKind.bits])
  have f0 := octet_shl (k := .u32) rfl b0 (s := 24) (c := 16777216) rfl (by simp [IntKind.bits])
  have ew : ∀ b : UInt8, IntKind.u32.wrap (b.toNat : Int) = b.toNat := octet_wrap .u32 rfl (by simp [IntKind.bits])
  simp only [Int.natCast_add, Int.natCast_mul, Int.cast_ofNat_Int] at e1 e2 e3 f0 f1 f2
  simp [hl0, g0, g1, g2, g3, ew, f0, f1, f2, e1, e2, e3]
  refine ⟨by omega, by omega, by omega, ?_, (Mod.alloc _ _ _).trans (Mod.drew _ _)⟩
  simp [beNat]; omega
def RdC (P : Program) (f : FuncId) (val : RS → Value × RS) : Prop :=
  ∀ (S : List Nat) (w : World) (rb : Nat) (s : RS), IsRd S w rb s → rb ∉ S →
    Calls P f [.pointer (some ⟨rb, 0, none⟩)].toArray w fun e w' => e = .returned (val s).1 ∧ IsRd S w' rb (val s).2 ∧ Mod [rb] w w'
theorem rInt16_call (hm : P.follows .mixedOrders = true) (h : liftF P (F rInt16) = some (ir_rInt16 F)) (hbe : liftF P (F beUint16) = some (ir_beUint16 F)) :
    RdC P (F rInt16) fun s => (.int .i16 (IntKind.i16.wrap (rdN 2 s).1), (rdN 2 s).2) := by
  intro S w rb s hr hS
  obtain ⟨base, len, cap, h1, h2, h3, h4⟩ := hr.ex
  refine call_of h hm (by simp) ?_
  have hlen := h2.hlen
  have c0 : w.cell? ⟨rb, 0, none⟩ = some (.slice base len cap) := h1.cell 0
  by_cases hlt : len < 2
  · have hlt' : (len : Int) < 2 := by omega
    obtain ⟨f1, f2, f3, f4⟩ := rd_fail (S := S) h1
    have hv : rdN 2 s = (0, RS.fail) := by unfold rdN; rw [if_neg (by omega)]
    simp [Addr.add_mk, c0, hlt', Value.cells, f1, f2, f3, f4, hv]
    simp [wrap_zero]
  · have hlt' : ¬ (len : Int) < 2 := by omega
    have hv : rdN 2 s = (beNat (s.src.take 2), { s with src := s.src.drop 2 }) := by unfold rdN; rw [if_pos (by omega)]
    simp [Addr.add_mk, c0, hlt']
    obtain ⟨a, rfl⟩ : ∃ a, base = some a := by
      cases base with
      | some a => exact ⟨a, rfl⟩
      | none => have := h2.hnone rfl; have := h2.hcap; omega
    refine wpD_one (.int .u16 (beNat (s.src.take 2) : Nat)) ?_
    have c0' : w.drew.cell? ⟨rb, 0, none⟩ = some (.slice (some a) len cap) := c0
    simp [walkB, RK.val?, Addr.add_mk, c0', cellsAt]
    refine ⟨fun w1 hw => ?_, fun w1 hw => ?_⟩
    · have hw' : Mod [] w w1 := (Mod.drew _ _).trans hw
      exact (beUint16_call (w := w1) hm hbe (h2.mod hw' (by simp)) (by omega)).mono fun e w' h => h
    · have hw' : Mod [] w w1 := (Mod.drew _ _).trans hw
      have c1 : w1.cell? ⟨rb, 0, none⟩ = some (.slice (some a) len cap) := (h1.mod hw' (by simp)).cell 0
      obtain ⟨g1, g2, g3⟩ := rd_cut (S := S) (h1.mod hw' (by simp)) (h2.mod hw' (by simp)) h3 (fun a h => ⟨(h4 a h).1, (h4 a h).2.1, Nat.lt_of_lt_of_le (h4 a h).2.2 hw'.size⟩) hr.short (k := 2) (by omega)
      have hcap := h2.hcap
      simp [c1, Value.cells, hv]
      simp at g1 g2 g3
      exact ⟨by omega, by omega, g1, g2, hw'.nil.trans g3⟩
theorem rInt32_call (hm : P.follows .mixedOrders = true) (h : liftF P (F rInt32) = some (ir_rInt32 F)) (hbe : liftF P (F beUint32) = some (ir_beUint32 F)) :
    RdC P (F rInt32) fun s => (.int .i32 (IntKind.i32.wrap (rdN 4 s).1), (rdN 4 s).2) := by
  intro S w rb s hr hS
  obtain ⟨base, len, cap, h1, h2, h3, h4⟩ := hr.ex
  refine call_of h hm (by simp) ?_
  have hlen := h2.hlen
  have c0 : w.cell? ⟨rb, 0, none⟩ = some (.slice base len cap) := h1.cell 0
  by_cases hlt : len < 4
  · have hlt' : (len : Int) < 4 := by omega
    obtain ⟨f1, f2, f3, f4⟩ := rd_fail (S := S) h1
    have hv : rdN 4 s = (0, RS.fail) := by unfold rdN; rw [if_neg (by omega)]
    simp [Addr.add_mk, c0, hlt', Value.cells, f1, f2, f3, f4, hv]
    simp [wrap_zero]
  · have hlt' : ¬ (len : Int) < 4 := by omega
    have hv : rdN 4 s = (beNat (s.src.take 4), { s with src := s.src.drop 4 }) := by unfold rdN; rw [if_pos (by omega)]
    simp [Addr.add_mk, c0, hlt']
    obtain ⟨a, rfl⟩ : ∃ a, base = some a := by
      cases base with
      | some a => exact ⟨a, rfl⟩
      | none => have := h2.hnone rfl; have := h2.hcap; omega
    refine wpD_one (.int .u32 (beNat (s.src.take 4) : Nat)) ?_
    have c0' : w.drew.cell? ⟨rb, 0, none⟩ = some (.slice (some a) len cap) := c0
    simp [walkB, RK.val?, Addr.add_mk, c0', cellsAt]
    refine ⟨fun w1 hw => ?_, fun w1 hw => ?_⟩
    · have hw' : Mod [] w w1 := (Mod.drew _ _).trans hw
      exact (beUint32_call (w := w1) hm hbe (h2.mod hw' (by simp)) (by omega)).mono fun e w' h => h
    · have hw' : Mod [] w w1 := (Mod.drew _ _).trans hw
      have c1 : w1.cell? ⟨rb, 0, none⟩ = some (.slice (some a) len cap) := (h1.mod hw' (by simp)).cell 0
      obtain ⟨g1, g2, g3⟩ := rd_cut (S := S) (h1.mod hw' (by simp)) (h2.mod hw' (by simp)) h3 (fun a h => ⟨(h4 a h).1, (h4 a h).2.1, Nat.lt_of_lt_of_le (h4 a h).2.2 hw'.size⟩) hr.short (k := 4) (by omega)
      have hcap := h2.hcap
      simp [c1, Value.cells, hv]
      simp at g1 g2 g3
      exact ⟨by omega, by omega, g1, g2, hw'.nil.trans g3⟩
def rdSpan (l : Int) (s : RS) : Option (List UInt8) × RS :=
  if s.src.length < l ∨ l < 0 then (none, RS.fail) else (if s.isnil then none else some (s.src.take l.toNat), { s with src := s.src.drop l.toNat })
def OctX (S : List Nat) (w : World) (v : Value) (o : Option (List UInt8)) : Prop :=
  IsOct w v o ∧ ∀ a n c, v = .slice (some a) n c → a.block ∉ S ∧ a.block < w.heap.size
theorem rSpan_call (hm : P.follows .mixedOrders = true) (h : liftF P (F rSpan) = some (ir_rSpan F)) {S : List Nat} {rb : Nat} {s : RS} (hr : IsRd S w rb s) (l : Int) :
    Calls P (F rSpan) [.pointer (some ⟨rb, 0, none⟩), .int .i64 l].toArray w fun e w' => ∃ v, e = .returned v ∧ OctX (rb :: S) w' v (rdSpan l s).1 ∧ IsRd S w' rb (rdSpan l s).2 ∧ Mod [rb] w w' := by
  obtain ⟨base, len, cap, h1, h2, h3, h4⟩ := hr.ex
  refine call_of h hm (by simp) ?_
  have hlen := h2.hlen
  have hcap := h2.hcap
  have c0 : w.cell? ⟨rb, 0, none⟩ = some (.slice base len cap) := h1.cell 0
  by_cases hlt : (len : Int) < l ∨ l < 0
  · have hv : rdSpan l s = (none, RS.fail) := by unfold rdSpan; rw [if_pos (by omega)]
    obtain ⟨f1, f2, f3, f4⟩ := rd_fail (S := S) h1
    have hx : (if (len : Int) < l then True else l < 0) := by split <;> first | trivial | omega
    by_cases hl1 : (len : Int) < l
    · simp [Addr.add_mk, c0, hl1, Value.cells, f1, f2, f3, f4, hv]
      exact ⟨rfl, fun a n c h => by simp at h⟩
    · have hl2 : l < 0 := by omega
      simp [Addr.add_mk, c0, hl1, hl2, Value.cells, f1, f2, f3, f4, hv]
      exact ⟨rfl, fun a n c h => by simp at h⟩
  · have hl1 : ¬ (len : Int) < l := by omega
    have hl2 : ¬ l < 0 := by omega
    have hv : rdSpan l s = (if s.isnil then none else some (s.src.take l.toNat), { s with src := s.src.drop l.toNat }) := by unfold rdSpan; rw [if_neg (by omega)]
    obtain ⟨g1, g2, g3⟩ := rd_cut (S := S) h1 h2 h3 h4 hr.short (k := l.toNat) (by omega)
    simp at g1 g2 g3
    simp [Addr.add_mk, c0, hl1, hl2, Value.cells, hv]
    refine ⟨by omega, by omega, by omega, by omega, by omega, g1, ?_, g2, g3⟩
    have hb : (if l ≤ 0 then base else Option.map (fun x => x.add 0) base) = base := by
      split
      · rfl
      · cases base <;> simp [Addr.add]
    rw [hb]
    have ht := h2.take l.toNat (by omega)
    cases base with
    | none =>
      have h3' : s.isnil = true := by simpa using h3.symm
      have := h2.hnone rfl
      rw [if_pos h3']
      have hl0 : l.toNat = 0 := by omega
      rw [hl0]
      exact ⟨rfl, fun a n c h => by simp at h⟩
    | some a =>
      have h3' : ¬ s.isnil = true := by simpa using h3.symm
      rw [if_neg h3']
      obtain ⟨k1, k2, k3⟩ := h4 a rfl
      refine ⟨⟨a, _, _, rfl, ht.mod g3 (by simpa using k1)⟩, fun a' n c h => ?_⟩
      simp only [Value.slice.injEq, Option.some.injEq] at h
      rw [← h.1, size_putCells]
      exact ⟨by simp only [List.mem_cons, not_or]; exact ⟨k1, k2⟩, k3⟩
def str (l : List UInt8) : Value := .string ⟨l.toArray⟩
theorem OctX.bytes {S : List Nat} {w : World} {v : Value} {o : Option (List UInt8)} (h : OctX S w v o) :
    ∃ base n c, v = .slice base n c ∧ (match base with | none => o.getD [] = [] | some a => (cellsAt w a 0 n).bind bytesOf = some (o.getD [])) := by
  cases o with
  | none => exact ⟨none, 0, 0, h.1, rfl⟩
  | some l =>
    obtain ⟨a, n, c, rfl, hb⟩ := h.1
    refine ⟨some a, n, c, rfl, ?_⟩
    simp only [Option.getD_some]
    rw [cellsAt_of' (hb.hcells a rfl) (by rw [u8s_length, hb.hlen])]
    simp [bytesOf_u8s]
theorem kUnsafeString_call (hm : P.follows .mixedOrders = true) (h : liftF P (F kUnsafeString) = some (ir_kUnsafeString F)) {S : List Nat} {v : Value} {o : Option (List UInt8)} (ho : OctX S w v o) :
    Calls P (F kUnsafeString) [v].toArray w fun e w' => e = .returned (str (o.getD [])) ∧ w' = w := by
  obtain ⟨base, n, c, rfl, hb⟩ := ho.bytes
  refine call_of h hm (by simp) ?_
  cases base with
  | none => simp at hb; simp [hb, str]; rfl
  | some a => simp only at hb; simp [hb, str]
def rdString (s : RS) : List UInt8 × RS :=
  let (n, s1) := rdN 2 s
  let (o, s2) := rdSpan (IntKind.i16.wrap n) s1
  (o.getD [], s2)
theorem i16_to_int (n : Int) : IntKind.i64.wrap (IntKind.i16.wrap n) = IntKind.i16.wrap n := by
  simp [IntKind.wrap, IntKind.bits, IntKind.signed]
  split <;> split <;> omega
theorem rString_call (hm : P.follows .mixedOrders = true) (h : liftF P (F rString) = some (ir_rString F)) (h16 : liftF P (F rInt16) = some (ir_rInt16 F)) (hbe : liftF P (F beUint16) = some (ir_beUint16 F))
    (hsp : liftF P (F rSpan) = some (ir_rSpan F)) : RdC P (F rString) fun s => (str (rdString s).1, (rdString s).2) := by
  intro S w rb s hr hS
  refine call_of h hm (by simp) ?_
  simp []
  refine (rInt16_call hm h16 hbe S w rb s hr hS).mono ?_
  rintro e w1 ⟨rfl, hr1, hm1⟩
  simp [i16_to_int]
  refine (rSpan_call hm hsp hr1 _).mono ?_
  rintro e w2 ⟨v, rfl, ho, hr2, hm2⟩
  obtain ⟨base, n, c, rfl, hb⟩ := ho.bytes
  cases base with
  | none => simp at hb; simp [rdString, hb, str]; exact ⟨rfl, hr2, hm1.trans hm2⟩
  | some a => simp only at hb; simp [rdString, hb, str]; exact ⟨hr2, hm1.trans hm2⟩
theorem rUnsafeString_call (hm : P.follows .mixedOrders = true) (h : liftF P (F rUnsafeString) = some (ir_rUnsafeString F)) (h16 : liftF P (F rInt16) = some (ir_rInt16 F)) (hbe : liftF P (F beUint16) = some (ir_beUint16 F))
    (hsp : liftF P (F rSpan) = some (ir_rSpan F)) (hus : liftF P (F kUnsafeString) = some (ir_kUnsafeString F)) : RdC P (F rUnsafeString) fun s => (str (rdString s).1, (rdString s).2) := by
  intro S w rb s hr hS
  refine call_of h hm (by simp) ?_
  simp []
  refine (rInt16_call hm h16 hbe S w rb s hr hS).mono ?_
  rintro e w1 ⟨rfl, hr1, hm1⟩
  simp [i16_to_int]
  refine (rSpan_call hm hsp hr1 _).mono ?_
  rintro e w2 ⟨v, rfl, ho, hr2, hm2⟩
  simp
  refine (kUnsafeString_call hm hus ho).mono ?_
  rintro e w3 ⟨rfl, rfl⟩
  simp [rdString]
  exact ⟨hr2, hm1.trans hm2⟩
theorem rOk_call (hm : P.follows .mixedOrders = true) (h : liftF P (F rOk) = some (ir_rOk F)) {S : List Nat} {rb : Nat} {s : RS} (hr : IsRd S w rb s) :
    Calls P (F rOk) [.pointer (some ⟨rb, 0, none⟩)].toArray w fun e w' => e = .returned (.bool !s.bad) ∧ w' = w := by
  obtain ⟨base, len, cap, h1, h2, h3, h4⟩ := hr.ex
  refine call_of h hm (by simp) ?_
  have c1 : w.cell? ⟨rb, 1, none⟩ = some (.bool s.bad) := h1.cell 1
  simp [Addr.add_mk, c1]
def GErr (g : Nat) (w : World) (T : TypeId) (v : Value) : Prop := w.cell? ⟨g, 0, none⟩ = some (.iface T v)
def errVal (bad : Bool) (T : TypeId) (v : Value) : Value := if bad then .iface T v else .nilIface
theorem rComplete_call (hm : P.follows .mixedOrders = true) (h : liftF P (F rComplete) = some (ir_rComplete F)) {S : List Nat} {rb : Nat} {s : RS} (hr : IsRd S w rb s)
    {T : TypeId} {v : Value} (hg : GErr (F gErr) w T v) :
    Calls P (F rComplete) [.pointer (some ⟨rb, 0, none⟩)].toArray w fun e w' => e = .returned (errVal s.bad T v) ∧ w' = w := by
  obtain ⟨base, len, cap, h1, h2, h3, h4⟩ := hr.ex
  refine call_of h hm (by simp) ?_
  have c1 : w.cell? ⟨rb, 1, none⟩ = some (.bool s.bad) := h1.cell 1
  unfold GErr at hg
  cases hb : s.bad <;> simp [Addr.add_mk, c1, hb, hg, errVal]
def rdArrayLen (s : RS) : Int × RS :=
  let n := IntKind.i32.wrap (rdN 4 s).1
  if ((rdN 4 s).2.src.length : Int) < n then (0, RS.fail) else (n, (rdN 4 s).2)
theorem i32_to_int (n : Int) : IntKind.i64.wrap (IntKind.i32.wrap n) = IntKind.i32.wrap n := by
  simp [IntKind.wrap, IntKind.bits, IntKind.signed]
  split <;> split <;> omega
theorem rArrayLen_call (hm : P.follows .mixedOrders = true) (h : liftF P (F rArrayLen) = some (ir_rArrayLen F)) (h32 : liftF P (F rInt32) = some (ir_rInt32 F)) (hbe : liftF P (F beUint32) = some (ir_beUint32 F)) :
    RdC P (F rArrayLen) fun s => (.int .i32 (rdArrayLen s).1, (rdArrayLen s).2) := by
  intro S w rb s hr hS
  refine call_of h hm (by simp) ?_
  simp []
  refine (rInt32_call hm h32 hbe S w rb s hr hS).mono ?_
  rintro e w1 ⟨rfl, hr1, hm1⟩
  obtain ⟨base, len, cap, h1, h2, h3, h4⟩ := hr1.ex
  have c0 : w1.cell? ⟨rb, 0, none⟩ = some (.slice base len cap) := h1.cell 0
  have hlen := h2.hlen
  by_cases hlt : (len : Int) < IntKind.i32.wrap (rdN 4 s).1
  · obtain ⟨f1, f2, f3, f4⟩ := rd_fail (S := S) h1
    have hv : rdArrayLen s = (0, RS.fail) := by unfold rdArrayLen; simp only; rw [if_pos (by rw [← hlen]; exact hlt)]
    simp [Addr.add_mk, c0, i32_to_int, hlt, Value.cells, f1, f2, hv]
    exact ⟨f3, hm1.trans f4⟩
  · have hv : rdArrayLen s = (IntKind.i32.wrap (rdN 4 s).1, (rdN 4 s).2) := by unfold rdArrayLen; simp only; rw [if_neg (by rw [← hlen]; exact hlt)]
    simp [Addr.add_mk, c0, i32_to_int, hlt, hv]
    exact ⟨hr1, hm1⟩
def rdNullableBytes (s : RS) : Option (List UInt8) × RS :=
  let n := IntKind.i32.wrap (rdN 4 s).1
  if n < 0 then (none, (rdN 4 s).2) else rdSpan n (rdN 4 s).2
theorem rNullableBytes_call (hm : P.follows .mixedOrders = true) (h : liftF P (F rNullableBytes) = some (ir_rNullableBytes F)) (h32 : liftF P (F rInt32) = some (ir_rInt32 F)) (hbe : liftF P (F beUint32) = some (ir_beUint32 F))
    (hsp : liftF P (F rSpan) = some (ir_rSpan F)) {S : List Nat} {rb : Nat} {s : RS} (hr : IsRd S w rb s) (hS : rb ∉ S) :
    Calls P (F rNullableBytes) [.pointer (some ⟨rb, 0, none⟩)].toArray w fun e w' => ∃ v, e = .returned v ∧ OctX (rb :: S) w' v (rdNullableBytes s).1 ∧ IsRd S w' rb (rdNullableBytes s).2 ∧ Mod [rb] w w' := by
  refine call_of h hm (by simp) ?_
  simp []
  refine (rInt32_call hm h32 hbe S w rb s hr hS).mono ?_
  rintro e w1 ⟨rfl, hr1, hm1⟩
  by_cases hlt : IntKind.i32.wrap (rdN 4 s).1 < 0
  · have hv : rdNullableBytes s = (none, (rdN 4 s).2) := by unfold rdNullableBytes; simp only; rw [if_pos hlt]
    simp [hlt, hv]
    exact ⟨⟨rfl, fun a n c h => by simp at h⟩, hr1, hm1⟩
  · have hv : rdNullableBytes s = rdSpan (IntKind.i32.wrap (rdN 4 s).1) (rdN 4 s).2 := by unfold rdNullableBytes; simp only; rw [if_neg hlt]
    simp [hlt, hv, i32_to_int]
    refine (rSpan_call hm hsp hr1 _).mono ?_
    rintro e w2 ⟨v, rfl, ho, hr2, hm2⟩
    simp
    exact ⟨ho, hr2, hm1.trans hm2⟩
def PStr (n : Nat) (w : World) (v : Value) : Option (List UInt8) → Prop
  | none => v = .pointer none
  | some l => ∃ b, v = .pointer (some ⟨b, 0, none⟩) ∧ n ≤ b ∧ w.cell? ⟨b, 0, none⟩ = some (str l)
def rdNullableString (s : RS) : Option (List UInt8) × RS :=
  let n := IntKind.i16.wrap (rdN 2 s).1
  if n < 0 then (none, (rdN 2 s).2) else (some ((rdSpan n (rdN 2 s).2).1.getD []), (rdSpan n (rdN 2 s).2).2)
theorem rNullableString_call (hm : P.follows .mixedOrders = true) (h : liftF P (F rNullableString) = some (ir_rNullableString F)) (h16 : liftF P (F rInt16) = some (ir_rInt16 F)) (hbe : liftF P (F beUint16) = some (ir_beUint16 F))
    (hsp : liftF P (F rSpan) = some (ir_rSpan F)) {S : List Nat} {rb : Nat} {s : RS} (hr : IsRd S w rb s) (hS : rb ∉ S) :
    Calls P (F rNullableString) [.pointer (some ⟨rb, 0, none⟩)].toArray w fun e w' => ∃ v, e = .returned v ∧ PStr w.heap.size w' v (rdNullableString s).1 ∧ IsRd S w' rb (rdNullableString s).2 ∧ Mod [rb] w w' := by
  refine call_of h hm (by simp) ?_
  simp []
  refine (rInt16_call hm h16 hbe S w rb s hr hS).mono ?_
  rintro e w1 ⟨rfl, hr1, hm1⟩
  by_cases hlt : IntKind.i16.wrap (rdN 2 s).1 < 0
  · have hv : rdNullableString s = (none, (rdN 2 s).2) := by unfold rdNullableString; simp only; rw [if_pos hlt]
    simp [hlt, hv]
    exact ⟨rfl, hr1, hm1⟩
  · have hv : rdNullableString s = (some ((rdSpan (IntKind.i16.wrap (rdN 2 s).1) (rdN 2 s).2).1.getD []), (rdSpan (IntKind.i16.wrap (rdN 2 s).1) (rdN 2 s).2).2) := by unfold rdNullableString; simp only; rw [if_neg hlt]
    simp [hlt, hv, i16_to_int]
    refine (rSpan_call hm hsp hr1 _).mono ?_
    rintro e w2 ⟨v, rfl, ho, hr2, hm2⟩
    obtain ⟨base, n, c, rfl, hb⟩ := ho.bytes
    simp only at hr1 hr2 hb
    have hbox : ∀ T, _ := fun T => new_put w2 [.string .empty] [str ((rdSpan (IntKind.i16.wrap (rdN 2 s).1) (rdN 2 s).2).1.getD [])] T rfl (by simp [str, Value.oneCell'])
    have hfin : ∀ T, PStr w.heap.size (putCells (w2.alloc (.cells [.string .empty].toArray T)) ⟨w2.heap.size, 0, none⟩ 0 [str ((rdSpan (IntKind.i16.wrap (rdN 2 s).1) (rdN 2 s).2).1.getD [])])
        (.pointer (some ⟨w2.heap.size, 0, none⟩)) (some ((rdSpan (IntKind.i16.wrap (rdN 2 s).1) (rdN 2 s).2).1.getD [])) := fun T =>
      ⟨_, rfl, Nat.le_trans hm1.size hm2.size, (hbox T).2.1.cell 0⟩
    have hrd : ∀ T, IsRd S (putCells (w2.alloc (.cells [.string .empty].toArray T)) ⟨w2.heap.size, 0, none⟩ 0 [str ((rdSpan (IntKind.i16.wrap (rdN 2 s).1) (rdN 2 s).2).1.getD [])]) rb (rdSpan (IntKind.i16.wrap (rdN 2 s).1) (rdN 2 s).2).2 :=
      fun T => hr2.mod (hbox T).2.2 (by simp) (by simp)
    have hmod : ∀ T, Mod [rb] w (putCells (w2.alloc (.cells [.string .empty].toArray T)) ⟨w2.heap.size, 0, none⟩ 0 [str ((rdSpan (IntKind.i16.wrap (rdN 2 s).1) (rdN 2 s).2).1.getD [])]) :=
      fun T => (hm1.trans hm2).trans (hbox T).2.2.nil
    cases base with
    | none =>
      simp only at hb
      rw [hb] at hbox hfin hrd hmod
      have e : str [] = .string .empty := rfl
      rw [e] at hbox hfin hrd hmod
      simp [hb, Value.cells]
      intro T
      exact ⟨(hbox T).1, hfin T, hrd T, hmod T⟩
    | some a =>
      simp only at hb
      simp [hb, Value.cells]
      intro T
      exact ⟨(hbox T).1, hfin T, hrd T, hmod T⟩
theorem rUnsafeNullableString_call (hm : P.follows .mixedOrders = true) (h : liftF P (F rUnsafeNullableString) = some (ir_rUnsafeNullableString F)) (h16 : liftF P (F rInt16) = some (ir_rInt16 F)) (hbe : liftF P (F beUint16) = some (ir_beUint16 F))
    (hsp : liftF P (F rSpan) = some (ir_rSpan F)) (hus : liftF P (F kUnsafeString) = some (ir_kUnsafeString F)) {S : List Nat} {rb : Nat} {s : RS} (hr : IsRd S w rb s) (hS : rb ∉ S) :
    Calls P (F rUnsafeNullableString) [.pointer (some ⟨rb, 0, none⟩)].toArray w fun e w' => ∃ v, e = .returned v ∧ PStr w.heap.size w' v (rdNullableString s).1 ∧ IsRd S w' rb (rdNullableString s).2 ∧ Mod [rb] w w' := by
  refine call_of h hm (by simp) ?_
  simp []
  refine (rInt16_call hm h16 hbe S w rb s hr hS).mono ?_
  rintro e w1 ⟨rfl, hr1, hm1⟩
  by_cases hlt : IntKind.i16.wrap (rdN 2 s).1 < 0
  · have hv : rdNullableString s = (none, (rdN 2 s).2) := by unfold rdNullableString; simp only; rw [if_pos hlt]
    simp [hlt, hv]
    exact ⟨rfl, hr1, hm1⟩
  · have hv : rdNullableString s = (some ((rdSpan (IntKind.i16.wrap (rdN 2 s).1) (rdN 2 s).2).1.getD []), (rdSpan (IntKind.i16.wrap (rdN 2 s).1) (rdN 2 s).2).2) := by unfold rdNullableString; simp only; rw [if_neg hlt]
    simp [hlt, hv, i16_to_int]
    refine (rSpan_call hm hsp hr1 _).mono ?_
    rintro e w2 ⟨v, rfl, ho, hr2, hm2⟩
    simp only at hr1 hr2
    simp
    refine (kUnsafeString_call hm hus ho).mono ?_
    rintro e w3 ⟨rfl, rfl⟩
    simp [Value.cells, str]
    intro T
    obtain ⟨b1, b2, b3⟩ := new_put w3 [.string .empty] [str ((rdSpan (IntKind.i16.wrap (rdN 2 s).1) (rdN 2 s).2).1.getD [])] T rfl (by simp [str, Value.oneCell'])
    exact ⟨b1, ⟨_, rfl, Nat.le_trans hm1.size hm2.size, b2.cell 0⟩, hr2.mod b3 (by simp) (by simp), (hm1.trans hm2).trans b3.nil⟩
end
end Go.Msk

namespace Go.Msk
open Go.RowKit
def SlC (ok : Nat → Prop) (w : World) (v : Value) (n : Nat) (cells : List Value) : Prop :=
  ∃ base cap, v = .slice base n cap ∧ n ≤ cap ∧ (base = none → cap = 0) ∧ ∀ a, base = some a → 0 < cap → ok a.block ∧ a.block < w.heap.size ∧ Cells w a cells
theorem SlC.mod {ok ok' : Nat → Prop} {S : List Nat} {w w' : World} {v : Value} {n : Nat} {cells : List Value} (h : SlC ok w v n cells) (hm : Mod S w w') (hS : ∀ b ∈ S, ¬ ok b) (ho : ∀ b, b < w.heap.size → ok b → ok' b) : SlC ok' w' v n cells := by
  obtain ⟨base, cap, h1, h2, h3, h4⟩ := h
  refine ⟨base, cap, h1, h2, h3, fun a ha hc => ?_⟩
  obtain ⟨k1, k2, k3⟩ := h4 a ha hc
  exact ⟨ho _ k2 k1, Nat.lt_of_lt_of_le k2 hm.size, k3.mod hm (.inr fun hc => hS _ hc k1)⟩
theorem SlC.nil {ok : Nat → Prop} {w : World} : SlC ok w (.slice none 0 0) 0 [] := ⟨none, 0, rfl, Nat.le_refl _, fun _ => rfl, fun a h => by simp at h⟩
theorem SlC.one {ok : Nat → Prop} {w : World} {v : Value} {n : Nat} {cells : List Value} (h : SlC ok w v n cells) : v.oneCell' = true := by
  obtain ⟨base, cap, rfl, -⟩ := h; rfl
inductive EntL (ok : Nat → Prop) (w : World) : List MapEntry → List (Nat × List UInt8) → Prop
  | nil : EntL ok w [] []
  | cons {e : MapEntry} {k : Nat} {l : List UInt8} {es : List MapEntry} {m : List (Nat × List UInt8)} : e.key = .int .u32 k → k < 4294967296 → SlC ok w e.val l.length (u8s l) → EntL ok w es m → EntL ok w (e :: es) ((k, l) :: m)
structure MapRep (ok : Nat → Prop) (w : World) (r : Nat) (m : List (Nat × List UInt8)) : Prop where
  ex : ∃ es clock, w.heap[r]? = some (.map es clock) ∧ EntL ok w es.toList m ∧ (es.toList.map (·.born)).Nodup ∧ ∀ e ∈ es.toList, e.born < clock
  keys : (m.map (·.1)).Nodup
theorem EntL.mod {ok ok' : Nat → Prop} {S : List Nat} {w w' : World} {es : List MapEntry} {m : List (Nat × List UInt8)} (h : EntL ok w es m) (hm : Mod S w w') (hS : ∀ b ∈ S, ¬ ok b) (ho : ∀ b, b < w.heap.size → ok b → ok' b) : EntL ok' w' es m := by
  induction h with
  | nil => exact .nil
  | cons h1 h2 h3 _ ih => exact .cons h1 h2 (h3.mod hm hS ho) ih
theorem MapRep.lt {ok : Nat → Prop} {w : World} {r : Nat} {m : List (Nat × List UInt8)} (h : MapRep ok w r m) : r < w.heap.size := by
  obtain ⟨es, clock, h, -⟩ := h.ex
  exact (Array.getElem?_eq_some_iff.1 h).1
theorem MapRep.mod {ok ok' : Nat → Prop} {S : List Nat} {w w' : World} {r : Nat} {m : List (Nat × List UInt8)} (h : MapRep ok w r m) (hm : Mod S w w') (hr : r ∉ S) (hS : ∀ b ∈ S, ¬ ok b) (ho : ∀ b, b < w.heap.size → ok b → ok' b) : MapRep ok' w' r m := by
  have hlt := h.lt
  obtain ⟨es, clock, h1, h2, h3, h4⟩ := h.ex
  exact ⟨⟨es, clock, by rw [hm.block r hlt hr]; exact h1, h2.mod hm hS ho, h3, h4⟩, h.keys⟩
inductive GV where
  | num (v : Value)
  | nstr (o : Option (List UInt8))
  | byt (o : Option (List UInt8))
  | arr (l : List UInt8)
  | lst (isnil : Bool) (sz : Nat) (l : List GV)
  | rcd (l : List GV)
  | tag (m : List (Nat × List UInt8))
  deriving Inhabited
mutual
/-- The cells read as the value; what they refer to lies in none of the blocks O. -/
inductive Rep (O : List Nat) (w : World) : GV → List Value → Prop
  | num {v : Value} : v.oneCell' = true → Rep O w (.num v) [v]
  | nstr0 : Rep O w (.nstr none) [.pointer none]
  | nstr1 {b : Nat} {l : List UInt8} : b ∉ O → w.cell? ⟨b, 0, none⟩ = some (str l) → Rep O w (.nstr (some l)) [.pointer (some ⟨b, 0, none⟩)]
  | byt {v : Value} {o : Option (List UInt8)} : OctX O w v o → Rep O w (.byt o) [v]
  | arr {l : List UInt8} : Rep O w (.arr l) (u8s l)
  | lst0 {sz : Nat} : Rep O w (.lst true sz []) [.slice none 0 0]
  | lst1 {a : Addr} {n c sz : Nat} {l : List GV} {css : List (List Value)} : a.block ∉ O → a.block < w.heap.size → n = l.length → n ≤ c → (∀ cs ∈ css, cs.length = sz) → RepL O w l css →
      Cells w a css.flatten → Rep O w (.lst false sz l) [.slice (some a) n c]
  | rcd {l : List GV} {css : List (List Value)} : RepL O w l css → Rep O w (.rcd l) css.flatten
  | tag0 : Rep O w (.tag []) [.map none]
  | tag1 {r : Nat} {m : List (Nat × List UInt8)} : r ∉ O → MapRep (fun b => b ∉ O) w r m → Rep O w (.tag m) [.map (some r)]
inductive RepL (O : List Nat) (w : World) : List GV → List (List Value) → Prop
  | nil : RepL O w [] []
  | cons {g : GV} {l : List GV} {cs : List Value} {css : List (List Value)} : Rep O w g cs → RepL O w l css → RepL O w (g :: l) (cs :: css)
end
theorem OctX.mod {O T : List Nat} {w w' : World} {v : Value} {o : Option (List UInt8)} (h : OctX O w v o) (hm : Mod T w w') (hT : ∀ x ∈ T, x ∈ O) : OctX O w' v o := by
  obtain ⟨h1, h2⟩ := h
  refine ⟨?_, fun a n c e => ⟨(h2 a n c e).1, Nat.lt_of_lt_of_le (h2 a n c e).2 hm.size⟩⟩
  cases o with
  | none => exact h1
  | some l =>
    obtain ⟨a, n, c, rfl, hb⟩ := h1
    exact ⟨a, n, c, rfl, hb.mod hm (fun a' e hc => by cases e; exact (h2 a n c rfl).1 (hT _ hc))⟩
theorem OctX.weaken {O O' : List Nat} {w : World} {v : Value} {o : Option (List UInt8)} (h : OctX O w v o) (hO : ∀ x ∈ O', x ∈ O) : OctX O' w v o :=
  ⟨h.1, fun a n c e => ⟨fun hc => (h.2 a n c e).1 (hO _ hc), (h.2 a n c e).2⟩⟩
theorem cell_mod {T : List Nat} {w w' : World} {a : Addr} {v : Value} (h : w.cell? a = some v) (hm : Mod T w w') (hT : a.block ∉ T) : w'.cell? a = some v := by
  rw [World.cell?_of_block (w := w) (hm.block _ (World.block_lt_of_cell? w a h) hT)]; exact h
theorem Rep.mod {O T : List Nat} {w w' : World} (hm : Mod T w w') (hT : ∀ x ∈ T, x ∈ O) {g : GV} {cs : List Value} (h : Rep O w g cs) : Rep O w' g cs := by
  refine Rep.rec (motive_1 := fun g cs _ => Rep O w' g cs) (motive_2 := fun l css _ => RepL O w' l css) ?_ ?_ ?_ ?_ ?_ ?_ ?_ ?_ ?_ ?_ ?_ ?_ h
  · intro v hv; exact .num hv
  · exact .nstr0
  · intro b l hb hc; exact .nstr1 hb (cell_mod hc hm (fun h => hb (hT _ h)))
  · intro v o ho; exact .byt (ho.mod hm hT)
  · intro l; exact .arr
  · intro sz; exact .lst0
  · intro a n c sz l css ha hlt hn hc hsz _ hcells ih
    exact .lst1 ha (Nat.lt_of_lt_of_le hlt hm.size) hn hc hsz ih (hcells.mod hm (.inr fun h => ha (hT _ h)))
  · intro l css _ ih; exact .rcd ih
  · exact .tag0
  · intro r m hr h; exact .tag1 hr (h.mod hm (fun hx => hr (hT _ hx)) (fun b hb hx => hx (hT _ hb)) fun _ _ h => h)
  · exact .nil
  · intro g l cs css _ _ ih1 ih2; exact .cons ih1 ih2
theorem RepL.mod {O T : List Nat} {w w' : World} (hm : Mod T w w') (hT : ∀ x ∈ T, x ∈ O) {l : List GV} {css : List (List Value)} (h : RepL O w l css) : RepL O w' l css := by
  induction l generalizing css with
  | nil => cases h; exact .nil
  | cons g l ih => cases h with | cons h1 h2 => exact .cons (h1.mod hm hT) (ih h2)
theorem Rep.weaken {O O' : List Nat} {w : World} (hO : ∀ x ∈ O', x ∈ O) {g : GV} {cs : List Value} (h : Rep O w g cs) : Rep O' w g cs := by
  refine Rep.rec (motive_1 := fun g cs _ => Rep O' w g cs) (motive_2 := fun l css _ => RepL O' w l css) ?_ ?_ ?_ ?_ ?_ ?_ ?_ ?_ ?_ ?_ ?_ ?_ h
  · intro v hv; exact .num hv
  · exact .nstr0
  · intro b l hb hc; exact .nstr1 (fun h => hb (hO _ h)) hc
  · intro v o ho; exact .byt (ho.weaken hO)
  · intro l; exact .arr
  · intro sz; exact .lst0
  · intro a n c sz l css ha hlt hn hc hsz _ hcells ih
    exact .lst1 (fun h => ha (hO _ h)) hlt hn hc hsz ih hcells
  · intro l css _ ih; exact .rcd ih
  · exact .tag0
  · intro r m hr h; exact .tag1 (fun hx => hr (hO _ hx)) (h.mod (Mod.refl [] _) (by simp) (by simp) fun b _ hb hx => hb (hO _ hx))
  · exact .nil
  · intro g l cs css _ _ ih1 ih2; exact .cons ih1 ih2
theorem RepL.weaken {O O' : List Nat} {w : World} (hO : ∀ x ∈ O', x ∈ O) {l : List GV} {css : List (List Value)} (h : RepL O w l css) : RepL O' w l css := by
  induction l generalizing css with
  | nil => cases h; exact .nil
  | cons g l ih => cases h with | cons h1 h2 => exact .cons (h1.weaken hO) (ih h2)
theorem Rep.oneCell {O : List Nat} {w : World} {g : GV} {cs : List Value} (h : Rep O w g cs) : ∀ v ∈ cs, v.oneCell' = true := by
  refine Rep.rec (motive_1 := fun g cs _ => ∀ v ∈ cs, v.oneCell' = true) (motive_2 := fun l css _ => ∀ v ∈ css.flatten, v.oneCell' = true) ?_ ?_ ?_ ?_ ?_ ?_ ?_ ?_ ?_ ?_ ?_ ?_ h
  · intro v hv u hu; simp at hu; subst hu; exact hv
  · intro v hv; simp at hv; subst hv; rfl
  · intro b l _ _ v hv; simp at hv; subst hv; rfl
  · intro v o ho u hu
    simp at hu; subst hu
    cases o with
    | none => have := ho.1; simp only [IsOct] at this; subst this; rfl
    | some l => obtain ⟨a, n, c, rfl, -⟩ := ho.1; rfl
  · intro l v hv; simp [u8s] at hv; obtain ⟨b, -, rfl⟩ := hv; rfl
  · intro sz v hv; simp at hv; subst hv; rfl
  · intro a n c sz l css _ _ _ _ _ _ _ _ v hv; simp at hv; subst hv; rfl
  · intro l css _ ih; exact ih
  · intro v hv; simp at hv; subst hv; rfl
  · intro r m _ _ v hv; simp at hv; subst hv; rfl
  · intro v hv; simp at hv
  · intro g l cs css _ _ ih1 ih2 v hv
    simp only [List.flatten_cons, List.mem_append] at hv
    rcases hv with hv | hv
    · exact ih1 v hv
    · exact ih2 v hv
theorem RepL.length {O : List Nat} {w : World} {l : List GV} {css : List (List Value)} (h : RepL O w l css) : l.length = css.length := by
  induction l generalizing css with
  | nil => cases h; rfl
  | cons g l ih => cases h with | cons h1 h2 => simp [ih h2]
theorem RepL.append {O : List Nat} {w : World} {l l' : List GV} {css css' : List (List Value)} (h : RepL O w l css) (h' : RepL O w l' css') : RepL O w (l ++ l') (css ++ css') := by
  induction l generalizing css with
  | nil => cases h; exact h'
  | cons g l ih => cases h with | cons h1 h2 => exact .cons h1 (ih h2)
end Go.Msk

namespace Go.Msk
open Go.RowKit
set_option maxRecDepth 100000
def seqs : List IC → IC
  | [] => .skip
  | [a] => a
  | a :: b :: r => .seq a (seqs (b :: r))
def wpL (P : Program) : List IC → (Exit → Sl → World → Prop) → Sl → World → Prop
  | [], Q, σ, w => Q .normal σ w
  | a :: r, Q, σ, w => wpC P a (thenC (wpL P r Q) Q) σ w
theorem thenC_same (Q : Exit → Sl → World → Prop) : thenC (Q .normal) Q = Q := by
  funext e σ w; cases e <;> rfl
theorem wpL_append {P : Program} : ∀ (l r : List IC) (Q : Exit → Sl → World → Prop) (σ : Sl) (w : World), wpL P (l ++ r) Q σ w = wpL P l (thenC (wpL P r Q) Q) σ w
  | [], r, Q, σ, w => rfl
  | a :: l, r, Q, σ, w => by
    have h : wpL P (l ++ r) Q = wpL P l (thenC (wpL P r Q) Q) := by funext σ w; exact wpL_append l r Q σ w
    have h2 : thenC (wpL P l (thenC (wpL P r Q) Q)) (thenC (wpL P r Q) Q) = thenC (wpL P l (thenC (wpL P r Q) Q)) Q := by
      funext e σ w; cases e <;> rfl
    show wpC P a (thenC (wpL P (l ++ r) Q) Q) σ w = wpC P a (thenC (wpL P l (thenC (wpL P r Q) Q)) (thenC (wpL P r Q) Q)) σ w
    rw [h, h2]
theorem wpC_seqs {P : Program} : ∀ (l : List IC) (Q : Exit → Sl → World → Prop) (σ : Sl) (w : World), wpC P (seqs l) Q σ w = wpL P l Q σ w
  | [], Q, σ, w => rfl
  | [a], Q, σ, w => by
    show wpC P a Q σ w = wpC P a (thenC (Q .normal) Q) σ w
    rw [thenC_same]
  | a :: b :: r, Q, σ, w => by
    have h : wpC P (seqs (b :: r)) Q = wpL P (b :: r) Q := by funext σ w; exact wpC_seqs (b :: r) Q σ w
    show wpC P a (thenC (wpC P (seqs (b :: r)) Q) Q) σ w = _
    rw [h]; rfl
def Ag (n : Nat) (σ σ' : Sl) : Prop := ∀ t, t < n → σ' t = σ t
theorem Ag.refl (n : Nat) (σ : Sl) : Ag n σ σ := fun _ _ => rfl
theorem Ag.trans {n : Nat} {a b c : Sl} (h : Ag n a b) (k : Ag n b c) : Ag n a c := fun t ht => (k t ht).trans (h t ht)
theorem Ag.mono {n m : Nat} {a b : Sl} (h : Ag n a b) (hm : m ≤ n) : Ag m a b := fun t ht => h t (by omega)
theorem Ag.upd {n k : Nat} {a b : Sl} {v : Value} (h : Ag n a b) (hk : n ≤ k) : Ag n a (upd b k v) := fun t ht => by
  rw [Msk.upd_ne _ _ (by omega)]; exact h t ht
inductive VC where
  | all
  | ge (n : Int)
  | rng (a b : Int)
  deriving Inhabited, DecidableEq, Repr
def VC.holds (v : Int) : VC → Bool
  | .all => true
  | .ge n => decide (v ≥ n)
  | .rng a b => decide (v ≥ a) && decide (v ≤ b)
end Go.Msk
