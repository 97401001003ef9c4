/- A small language of resolved operations, and what the generic and the generated functions do in it (part 9). -/
import Derived.Test.YtioafahhbmhjmaaDoorFh

/-! Unknown tags: how a map of them is filled from octets. -/
namespace Go.Msk
open Go.RowKit
set_option maxRecDepth 100000

/-- A tag is set. -/
def putTag : List (Nat × List UInt8) → Nat → List UInt8 → List (Nat × List UInt8)
  | [], k, l => [(k, l)]
  | (k', l') :: m, k, l => if k = k' then (k, l) :: m else (k', l') :: putTag m k l

def rdTagsN : Nat → List (Nat × List UInt8) → RS → List (Nat × List UInt8) × RS
  | 0, m, s => (m, s)
  | n + 1, m, s => rdTagsN n (putTag m (rdUv s).1 ((rdSpan (rdUv (rdUv s).2).1 (rdUv (rdUv s).2).2).1.getD [])) (rdSpan (rdUv (rdUv s).2).1 (rdUv (rdUv s).2).2).2

/-- Unknown tags are read. -/
def rdTags (s : RS) : List (Nat × List UInt8) × RS := rdTagsN (rdUv s).1 [] (rdUv s).2

theorem putTag_keys : ∀ (m : List (Nat × List UInt8)) (k : Nat) (l : List UInt8), (putTag m k l).map (·.1) = if k ∈ m.map (·.1) then m.map (·.1) else m.map (·.1) ++ [k]
  | [], k, l => by simp [putTag]
  | (k', l') :: m, k, l => by
    have ih := putTag_keys m k l
    simp only [putTag]
    by_cases h : k = k'
    · subst h; simp
    · rw [if_neg h]
      simp only [List.map_cons, ih, List.mem_cons, h, false_or]
      split <;> simp

theorem putTag_nodup {m : List (Nat × List UInt8)} {k : Nat} {l : List UInt8} (h : (m.map (·.1)).Nodup) : ((putTag m k l).map (·.1)).Nodup := by
  rw [putTag_keys]
  split
  · exact h
  · rename_i hk
    rw [List.nodup_append]
    refine ⟨h, by simp, fun a ha b hb => ?_⟩
    simp only [List.mem_singleton] at hb
    subst hb
    exact fun e => hk (e ▸ ha)

/-- A map's entries when a value is laid. -/
def putE : List MapEntry → Nat → Nat → Value → List MapEntry
  | [], c, k, v => [{ key := .int .u32 k, val := v, born := c }]
  | e :: r, c, k, v => if keyIs k e = true then { e with key := .int .u32 k, val := v } :: r else e :: putE r c k v

theorem putE_some (c k : Nat) (v : Value) : ∀ (l : List MapEntry) (i : Nat), l.findIdx? (keyIs k) = some i → l.modify i (fun e => { e with key := .int .u32 k, val := v }) = putE l c k v
  | [], i, h => by simp at h
  | e :: r, i, h => by
    rw [List.findIdx?_cons] at h
    simp only [putE]
    split at h
    · rename_i he
      simp only [Option.some.injEq] at h; subst h
      rw [if_pos he]; rfl
    · rename_i he
      rw [if_neg he]
      cases hr : r.findIdx? (keyIs k) with
      | none => simp [hr] at h
      | some j =>
        simp only [hr, Option.map_some, Option.some.injEq] at h
        subst h
        rw [List.modify_succ_cons, putE_some c k v r j hr]

theorem putE_none (c k : Nat) (v : Value) : ∀ (l : List MapEntry), l.findIdx? (keyIs k) = none → l ++ [{ key := .int .u32 k, val := v, born := c }] = putE l c k v
  | [], _ => rfl
  | e :: r, h => by
    rw [List.findIdx?_cons] at h
    split at h
    · simp at h
    · rename_i he
      simp only [Option.map_eq_none_iff] at h
      simp only [putE, if_neg he, List.cons_append, putE_none c k v r h]

theorem mapPut_list (es : Array MapEntry) (clock k : Nat) (v : Value) (hb : (es.toList.map (·.born)).Nodup) (hc : ∀ e ∈ es.toList, e.born < clock) :
    ∃ es' c', mapPut es clock .u32 k v = .map es' c' ∧ es'.toList = putE es.toList clock k v ∧ (es'.toList.map (·.born)).Nodup ∧ ∀ e ∈ es'.toList, e.born < c' := by
  unfold mapPut
  cases hf : es.toList.findIdx? (keyIs k) with
  | none =>
    refine ⟨_, _, rfl, ?_, ?_, ?_⟩
    · rw [Array.toList_push]; exact putE_none clock k v _ hf
    · rw [Array.toList_push, List.map_append, List.nodup_append]
      refine ⟨hb, by simp, fun a ha b hb' => ?_⟩
      simp only [List.map_cons, List.map_nil, List.mem_singleton] at hb'
      obtain ⟨e, he, rfl⟩ := List.mem_map.1 ha
      have := hc e he
      omega
    · intro e he
      rw [Array.toList_push, List.mem_append] at he
      rcases he with he | he
      · have := hc e he; omega
      · simp only [List.mem_singleton] at he; subst he; simp
  | some i =>
    have hm : (es.modify i fun e => { e with key := .int .u32 k, val := v }).toList = putE es.toList clock k v := by
      rw [Array.toList_modify]; exact putE_some clock k v _ i hf
    have hmap : (putE es.toList clock k v).map (·.born) = es.toList.map (·.born) := by
      rw [← putE_some clock k v _ i hf]
      apply List.ext_getElem?
      intro j
      simp only [List.getElem?_map, List.getElem?_modify]
      cases es.toList[j]? with
      | none => simp
      | some e => simp only [Option.map_some]; split <;> rfl
    refine ⟨_, _, rfl, hm, by rw [hm, hmap]; exact hb, fun e he => ?_⟩
    rw [hm] at he
    have : e.born ∈ (putE es.toList clock k v).map (·.born) := List.mem_map.2 ⟨e, he, rfl⟩
    rw [hmap] at this
    obtain ⟨e', he', h⟩ := List.mem_map.1 this
    rw [← h]; exact hc e' he'

theorem EntL.put {ok : Nat → Prop} {w : World} {c k : Nat} {v : Value} {l : List UInt8} (hk : k < 4294967296) (hv : SlC ok w v l.length (u8s l)) {es : List MapEntry} {m : List (Nat × List UInt8)} (h : EntL ok w es m) : EntL ok w (putE es c k v) (putTag m k l) := by
  induction h with
  | nil => exact .cons rfl hk hv .nil
  | @cons e k' l' es m h1 h2 h3 h4 ih =>
    have hki : keyIs k e = decide (k = k') := by
      unfold keyIs; rw [h1]
      by_cases hkk : k = k'
      · simp [hkk]
      · have : ¬ (k : Int) = k' := by omega
        simp [hkk, this]
    simp only [putE, putTag, hki, decide_eq_true_eq]
    split
    · exact .cons rfl hk hv h4
    · exact .cons h1 h2 h3 ih

theorem EntL.keys {ok : Nat → Prop} {w : World} {es : List MapEntry} {m : List (Nat × List UInt8)} (h : EntL ok w es m) : ∀ e ∈ es, ∃ a, e.key = .int .u32 a := by
  induction h with
  | nil => simp
  | cons h1 _ _ _ ih =>
    intro e he
    rcases List.mem_cons.1 he with rfl | he
    · exact ⟨_, h1⟩
    · exact ih e he

/-- Only a map's block differs. -/
theorem Mod.putObj {w : World} {r : Nat} {o : Obj} {S : List Nat} (hr : r ∈ S) : Mod S w (Msk.putObj w r o) := by
  refine ⟨rfl, rfl, rfl, by simp [Msk.putObj], fun k hk hkS => ?_⟩
  simp only [Msk.putObj]
  exact Array.getElem?_setIfInBounds_ne (fun e => hkS (by rw [← e]; exact hr))

theorem putObj_get {w : World} {r : Nat} {o : Obj} (h : r < w.heap.size) : (putObj w r o).heap[r]? = some o := by
  simp [putObj, h]

/-- What a variable of tags holds. -/
def TagM (ok : Nat → Prop) (w : World) (v : Value) (m : List (Nat × List UInt8)) : Prop :=
  (v = .map none ∧ m = []) ∨ ∃ r, v = .map (some r) ∧ MapRep ok w r m

section
variable {P : Program} {F : Nat → Nat}

theorem tSet_call {w : World} (hm : P.follows .mixedOrders = true) (h : liftF P (F tSet) = some (ir_tSet F)) {tb k : Nat} {mv v : Value} {m : List (Nat × List UInt8)} {l : List UInt8} {ok : Nat → Prop} (hb : Blk w tb [mv]) (hM : TagM ok w mv m) (hk : k < 4294967296)
    (hv : SlC ok w v l.length (u8s l)) (htb : ¬ ok tb) (hr0 : ∀ r, mv = .map (some r) → ¬ ok r ∧ r ≠ tb) :
    Calls P (F tSet) [.pointer (some ⟨tb, 0, none⟩), .int .u32 k, v].toArray w fun e w' => e = .returned (.tuple #[]) ∧ ∃ r, Blk w' tb [.map (some r)] ∧ MapRep (fun b => ok b ∧ b < w.heap.size) w' r (putTag m k l) ∧ r ≠ tb ∧
      ((mv = .map (some r) ∧ Mod [tb, r] w w') ∨ (mv = .map none ∧ w.heap.size ≤ r ∧ Mod [tb] w w')) := by
  unfold ir_tSet at h
  refine call_of h hm (by simp) ?_
  have a0 : args0 [.pointer (some ⟨tb, 0, none⟩), .int .u32 k, v] 0 = .pointer (some ⟨tb, 0, none⟩) := rfl
  have a1 : args0 [.pointer (some ⟨tb, 0, none⟩), .int .u32 k, v] 1 = .int .u32 k := rfl
  have a2 : args0 [.pointer (some ⟨tb, 0, none⟩), .int .u32 k, v] 2 = v := rfl
  generalize args0 [.pointer (some ⟨tb, 0, none⟩), .int .u32 k, v] = σ0 at a0 a1 a2 ⊢
  have c0 : w.cell? ⟨tb, 0, none⟩ = some mv := hb.cell 0
  have htl := hb.lt
  -- what happens once there is a map
  have key : ∀ (σ : Sl) (w1 : World) (r : Nat), σ 0 = .pointer (some ⟨tb, 0, none⟩) → σ 1 = .int .u32 k → σ 2 = v → Blk w1 tb [.map (some r)] → MapRep (fun b => ok b ∧ b < w.heap.size) w1 r m → r ≠ tb → ¬ (ok r ∧ r < w.heap.size) → w.heap.size ≤ w1.heap.size → SlC (fun b => ok b ∧ b < w.heap.size) w1 v l.length (u8s l) →
      ((mv = .map (some r) ∧ w1 = w) ∨ (mv = .map none ∧ w.heap.size ≤ r ∧ Mod [tb] w w1)) →
      wpC P (.blk [⟨some 15, .mv (.tmp 0), none⟩, ⟨some 16, .nilc (.tmp 15), none⟩, ⟨some 17, .fad (.tmp 16) 0, none⟩, ⟨some 18, .ld (.tmp 17), none⟩, ⟨some 19, .mv (.tmp 1), none⟩, ⟨some 20, .mv (.tmp 2), none⟩, ⟨none, .mapup (.tmp 18) (.tmp 19) (.tmp 20), none⟩])
        (postC [] fun e w' => e = .returned (.tuple #[]) ∧ ∃ r, Blk w' tb [.map (some r)] ∧ MapRep (fun b => ok b ∧ b < w.heap.size) w' r (putTag m k l) ∧ r ≠ tb ∧
          ((mv = .map (some r) ∧ Mod [tb, r] w w') ∨ (mv = .map none ∧ w.heap.size ≤ r ∧ Mod [tb] w w'))) σ w1 := by
    intro σ w1 r s0 s1 s2 hb1 hM1 hrt hnr hsz hv1 hcase
    have c1 : w1.cell? ⟨tb, 0, none⟩ = some (.map (some r)) := hb1.cell 0
    have hrl := hM1.lt
    obtain ⟨es, clock, he1, he2, he3, he4⟩ := hM1.ex
    obtain ⟨es', c', p1, p2, p3, p4⟩ := mapPut_list es clock k v he3 he4
    rw [wpC_blk]
    refine wpR_step (v := .pointer (some ⟨tb, 0, none⟩)) (congrArg some s0) ?_
    refine wpR_step (v := .pointer (some ⟨tb, 0, none⟩)) (by simp only [RK.val?, ev, updo, upd, if_true]) ?_
    refine wpR_step (v := .pointer (some ⟨tb, 0, none⟩)) (by simp only [RK.val?, ev, updo, upd, if_true, Addr.add_mk]) ?_
    refine wpR_step (v := .map (some r)) (by simp only [RK.val?, ev, updo, upd, if_true, c1]) ?_
    refine wpR_step (v := .int .u32 k) (by simp only [RK.val?, ev, updo, upd]; simp [s1]) ?_
    refine wpR_step (v := v) (by simp only [RK.val?, ev, updo, upd]; simp [s2]) ?_
    refine wpR_run ?_
    simp only [RK.run, ev, updo, upd, show (18 : Nat) ≠ 20 by decide, show (18 : Nat) ≠ 19 by decide, show (19 : Nat) ≠ 20 by decide, if_false, if_true, he1]
    refine ⟨he2.keys, ?_⟩
    simp only [wpR, postC, rvals, List.mapM_nil, Option.pure_def, tup]
    refine ⟨trivial, r, ?_, ?_, hrt, ?_⟩
    · exact hb1.mod (Mod.putObj (S := [r]) (by simp)) (by simp; omega)
    · rw [p1]
      have hmd : Mod [r] w1 (putObj w1 r (.map es' c')) := Mod.putObj (by simp)
      refine ⟨⟨es', c', putObj_get hrl, ?_, p3, p4⟩, putTag_nodup hM1.keys⟩
      rw [p2]
      exact (he2.put hk hv1).mod hmd (fun b hb hx => by simp only [List.mem_singleton] at hb; subst hb; exact hnr hx) fun _ _ h => h
    · rcases hcase with ⟨h1, h2⟩ | ⟨h1, h2, h3⟩
      · refine .inl ⟨h1, ?_⟩
        rw [h2]; exact Mod.putObj (by simp)
      · refine .inr ⟨h1, h2, ?_⟩
        have hmd : Mod [r, tb] w1 (putObj w1 r (mapPut es clock .u32 k v)) := Mod.putObj (by simp)
        exact Mod.drop (b := r) (S := [tb]) ((h3.mono (by simp)).trans hmd) h2
  generalize postC [] _ = Q at key ⊢
  rw [wpC_seq, wpC_seq, wpC_blk]
  refine wpR_step (v := .pointer (some ⟨tb, 0, none⟩)) (congrArg some a0) ?_
  refine wpR_step (v := .pointer (some ⟨tb, 0, none⟩)) (by simp only [RK.val?, ev, updo, upd, if_true]) ?_
  refine wpR_step (v := .pointer (some ⟨tb, 0, none⟩)) (by simp only [RK.val?, ev, updo, upd, if_true, Addr.add_mk]) ?_
  refine wpR_step (v := mv) (by simp only [RK.val?, ev, updo, upd, if_true, c0]) ?_
  have hv2 : SlC (fun b => ok b ∧ b < w.heap.size) w v l.length (u8s l) := hv.mod (Mod.refl [] _) (by simp) fun b hb hx => ⟨hx, hb⟩
  rcases hM with ⟨rfl, rfl⟩ | ⟨r, rfl, hM⟩
  · refine wpR_step (v := .bool true) (by simp only [RK.val?, ev, updo, upd, if_true]; rfl) ?_
    refine wpR_done ?_
    rw [wpC_cond_t rfl, wpC_blk]
    refine wpR_step (v := .pointer (some ⟨tb, 0, none⟩)) (by simp only [RK.val?, ev, updo, upd]; simp [a0]) ?_
    refine wpR_run ?_
    simp only [RK.run]
    refine wpR_step (v := .pointer (some ⟨tb, 0, none⟩)) (by simp only [RK.val?, ev, updo, upd]; simp) ?_
    refine wpR_step (v := .pointer (some ⟨tb, 0, none⟩)) (by simp only [RK.val?, ev, updo, upd, if_true, Addr.add_mk]) ?_
    refine wpR_run ?_
    have hma : Mod [] w (w.alloc (.map #[] 0)) := Mod.alloc _ _ _
    have hsz : (w.alloc (.map #[] 0)).heap.size = w.heap.size + 1 := by simp
    have hget : (w.alloc (.map #[] 0)).heap[w.heap.size]? = some (.map #[] 0) := heap_alloc_new w _
    have hba := hb.mod hma (by simp)
    generalize w.alloc (.map #[] 0) = w1 at hma hsz hget hba ⊢
    simp only [RK.run, ev, updo, upd, if_true, show (12 : Nat) ≠ 14 by decide, show (12 : Nat) ≠ 13 by decide, if_false]
    have ec : (Value.map (some w.heap.size)).cells = #[.map (some w.heap.size)] := rfl
    rw [ec]
    have hput : Mod [tb] w1 (putCells w1 ⟨tb, 0, none⟩ 0 [.map (some w.heap.size)]) := Mod.put (by simp)
    have hp := hba.put (o := 0) (vs := [.map (some w.heap.size)]) (by simp)
    rw [splice_all (by rfl)] at hp
    refine ⟨rfl, stOk_one hba (by simp) rfl, ?_⟩
    refine wpR_done ?_
    generalize hσ : upd _ 14 _ = σ1
    have s0 : σ1 0 = .pointer (some ⟨tb, 0, none⟩) := by rw [← hσ]; simp [updo, upd, a0]
    have s1 : σ1 1 = .int .u32 k := by rw [← hσ]; simp [updo, upd, a1]
    have s2 : σ1 2 = v := by rw [← hσ]; simp [updo, upd, a2]
    clear hσ
    refine key σ1 _ w.heap.size s0 s1 s2 hp ?_ (by omega) (fun h => by omega) (by rw [size_putCells]; omega) ?_ (.inr ⟨rfl, Nat.le_refl _, hma.nil.trans hput⟩)
    · refine ⟨⟨#[], 0, ?_, .nil, by simp, by simp⟩, by simp⟩
      rw [hput.block _ (by omega) (by simp; omega)]; exact hget
    · exact (hv2.mod hma (by simp) fun _ _ h => h).mod hput (fun b hb hx => by simp only [List.mem_singleton] at hb; subst hb; exact htb hx.1) fun _ _ h => h
  · refine wpR_step (v := .bool false) (by simp only [RK.val?, ev, updo, upd, if_true]; rfl) ?_
    refine wpR_done ?_
    rw [wpC_cond_f rfl, wpC_skip]
    simp only [thenC]
    obtain ⟨q1, q2⟩ := hr0 r rfl
    generalize hσ : updo _ (some 10) _ = σ1
    have s0 : σ1 0 = .pointer (some ⟨tb, 0, none⟩) := by rw [← hσ]; simp [updo, upd, a0]
    have s1 : σ1 1 = .int .u32 k := by rw [← hσ]; simp [updo, upd, a1]
    have s2 : σ1 2 = v := by rw [← hσ]; simp [updo, upd, a2]
    clear hσ
    refine key σ1 _ r s0 s1 s2 hb (hM.mod (Mod.refl [] _) (by simp) (by simp) fun b hb hx => ⟨hx, hb⟩) q2 (fun h => q1 h.1) (Nat.le_refl _) hv2 (.inl ⟨rfl, rfl⟩)

end
end Go.Msk

/-! Unknown tags: their reading. -/
namespace Go.Msk
open Go.RowKit
set_option maxRecDepth 100000

/-- The tags read so far. -/
def TagS (S : List Nat) (n0 : Nat) (w : World) (rb tb b2 : Nat) (mv : Value) (m : List (Nat × List UInt8)) (s : RS) : Prop :=
  (mv = .map none ∧ m = [] ∧ IsRd (b2 :: tb :: S) w rb s) ∨
  ∃ r, mv = .map (some r) ∧ n0 ≤ r ∧ r ≠ tb ∧ r ≠ b2 ∧ r ≠ rb ∧ MapRep (fun b => b ∉ rb :: r :: b2 :: tb :: S) w r m ∧ IsRd (r :: b2 :: tb :: S) w rb s

theorem TagS.rd {S : List Nat} {n0 : Nat} {w : World} {rb tb b2 : Nat} {mv : Value} {m : List (Nat × List UInt8)} {s : RS} (h : TagS S n0 w rb tb b2 mv m s) : ∃ S', (∀ x ∈ b2 :: tb :: S, x ∈ S') ∧ (∀ x ∈ S', x ∈ b2 :: tb :: S ∨ (n0 ≤ x ∧ x ≠ rb)) ∧ IsRd S' w rb s ∧
    (∀ (w' : World) (s' : RS), IsRd S' w' rb s' → Mod [rb] w w' → TagS S n0 w' rb tb b2 mv m s') ∧ (mv = .map none ∧ m = [] ∧ S' = b2 :: tb :: S ∨ ∃ r, mv = .map (some r) ∧ n0 ≤ r ∧ r ≠ tb ∧ r ≠ b2 ∧ r ≠ rb ∧ S' = r :: b2 :: tb :: S ∧ MapRep (fun b => b ∉ rb :: S') w r m) := by
  rcases h with ⟨h1, h2, h3⟩ | ⟨r, h1, h2, h3, h4, h5, h6, h7⟩
  · exact ⟨b2 :: tb :: S, fun _ h => h, fun _ h => .inl h, h3, fun w' s' hr hm => .inl ⟨h1, h2, hr⟩, .inl ⟨h1, h2, rfl⟩⟩
  · refine ⟨r :: b2 :: tb :: S, fun x h => List.mem_cons_of_mem _ h, fun x hx => ?_, h7, fun w' s' hr hm => .inr ⟨r, h1, h2, h3, h4, h5, h6.mod hm (by simpa using h5) (by simp) (fun _ _ h => h), hr⟩, .inr ⟨r, h1, h2, h3, h4, h5, rfl, h6⟩⟩
    rcases List.mem_cons.1 hx with rfl | hx
    · exact .inr ⟨h2, h5⟩
    · exact .inl hx

theorem OctX.slcN {O : List Nat} {w : World} {v : Value} {o : Option (List UInt8)} (h : OctX O w v o) : SlC (fun b => b ∉ O) w v (o.getD []).length (u8s (o.getD [])) := by
  obtain ⟨h1, h2⟩ := h
  cases o with
  | none => simp only [IsOct] at h1; subst h1; exact SlC.nil
  | some l =>
    obtain ⟨a, n, c, rfl, hb⟩ := h1
    refine ⟨some a, c, by rw [hb.hlen]; rfl, by have := hb.hcap; have := hb.hlen; simp only [Option.getD_some]; omega, fun h => by simp at h, fun a' e => ?_⟩
    simp only [Option.some.injEq] at e; subst e
    exact ⟨(h2 a n c rfl).1, (h2 a n c rfl).2, hb.hcells a rfl⟩

section
variable {P : Program} {F : Nat → Nat}

/-- One tag. -/
theorem tag_step {S : List Nat} (hm : P.follows .mixedOrders = true) (huv : liftF P (F rUvarint) = some (ir_rUvarint F)) (hk : liftF P (F kUvarint) = some (ir_kUvarint F)) (hsp : liftF P (F rSpan) = some (ir_rSpan F)) (hset : liftF P (F tSet) = some (ir_tSet F))
    {rb tb b2 : Nat} {mv : Value} {m : List (Nat × List UInt8)} {s : RS} {σ : Sl} {w w0 : World} {Q : Exit → Sl → World → Prop} (h0 : σ 0 = .pointer (some ⟨rb, 0, none⟩)) (h3 : σ 3 = .pointer (some ⟨tb, 0, none⟩))
    (hb : Blk w tb [mv]) (hb2 : Blk w b2 [.map none]) (hS : TagS S w0.heap.size w rb tb b2 mv m s) (hrt : rb ≠ tb) (hr2 : rb ≠ b2) (h2t : b2 ≠ tb) (hrS : rb ∉ S) (hSl : ∀ x ∈ S, x < w0.heap.size) (htb : w0.heap.size ≤ tb) (hmw : Mod [rb] w0 w)
    (hQ : ∀ σ' w' mv', (∀ j, j < 5 → σ' j = σ j) → Blk w' tb [mv'] → Blk w' b2 [.map none] → Mod [rb] w0 w' →
      TagS S w0.heap.size w' rb tb b2 mv' (putTag m (rdUv s).1 ((rdSpan (rdUv (rdUv s).2).1 (rdUv (rdUv s).2).2).1.getD [])) (rdSpan (rdUv (rdUv s).2).1 (rdUv (rdUv s).2).2).2 → Q .normal σ' w') :
    wpC P (.seq (.blk [⟨some 13, .mv (.tmp 0), none⟩, ⟨some 14, .call (F rUvarint) [.tmp 13], none⟩, ⟨some 15, .mv (.tmp 0), none⟩, ⟨some 16, .call (F rUvarint) [.tmp 15], none⟩, ⟨some 5, .mv (.tmp 14), none⟩, ⟨some 6, .mv (.tmp 16), none⟩])
      (.blk [⟨some 17, .mv (.tmp 5), none⟩, ⟨some 18, .mv (.tmp 0), none⟩, ⟨some 19, .mv (.tmp 6), none⟩, ⟨some 20, .conv .i64 (.tmp 19), none⟩, ⟨some 21, .call (F rSpan) [.tmp 18, .tmp 20], none⟩, ⟨some 22, .call (F tSet) [.tmp 3, .tmp 17, .tmp 21], none⟩])) Q σ w := by
  obtain ⟨S', e1, e2, hr, hkeep, hcase⟩ := hS.rd
  have hrS' : rb ∉ S' := fun hx => by
    rcases e2 _ hx with hx | ⟨-, hx⟩
    · simp only [List.mem_cons] at hx
      rcases hx with hx | hx | hx
      · exact hr2 hx
      · exact hrt hx
      · exact hrS hx
    · exact hx rfl
  rw [wpC_seq, wpC_blk]
  refine wpR_step (v := .pointer (some ⟨rb, 0, none⟩)) (congrArg some h0) ?_
  refine wpR_call (vs := [.pointer (some ⟨rb, 0, none⟩)]) (by simp only [List.map_cons, List.map_nil, ev, updo, upd, if_true]) (rUvarint_call hm huv hk S' w rb s hr hrS') ?_
  rintro e w1 ⟨rfl, hr1, m1⟩
  refine ⟨_, rfl, ?_⟩
  refine wpR_step (v := .pointer (some ⟨rb, 0, none⟩)) (by simp only [RK.val?, ev, updo, upd]; simp [h0]) ?_
  refine wpR_call (vs := [.pointer (some ⟨rb, 0, none⟩)]) (by simp only [List.map_cons, List.map_nil, ev, updo, upd, if_true]) (rUvarint_call hm huv hk S' w1 rb _ hr1 hrS') ?_
  rintro e w2 ⟨rfl, hr2', m2⟩
  refine ⟨_, rfl, ?_⟩
  simp only at hr1 hr2' ⊢
  have hk1 := rdUv_lt s
  have hk2 := rdUv_lt (rdUv s).2
  generalize rdUv s = q1 at *
  obtain ⟨k, s1⟩ := q1
  simp only at *
  generalize rdUv s1 = q2 at *
  obtain ⟨z, s2⟩ := q2
  simp only at *
  refine wpR_step (v := .int .u32 k) (by simp only [RK.val?, ev, updo, upd]; simp) ?_
  refine wpR_step (v := .int .u32 z) (by simp only [RK.val?, ev, updo, upd]; simp) ?_
  refine wpR_done ?_
  generalize hσ : updo _ (some 6) _ = σ1
  have q0 : σ1 0 = .pointer (some ⟨rb, 0, none⟩) := by rw [← hσ]; simp [updo, upd, h0]
  have q3 : σ1 3 = .pointer (some ⟨tb, 0, none⟩) := by rw [← hσ]; simp [updo, upd, h3]
  have q5 : σ1 5 = .int .u32 k := by rw [← hσ]; simp [updo, upd]
  have q6 : σ1 6 = .int .u32 z := by rw [← hσ]; simp [updo, upd]
  have qa : ∀ j, j < 5 → σ1 j = σ j := fun j hj => by
    rw [← hσ]; simp only [updo, upd, show j ≠ 6 by omega, show j ≠ 5 by omega, show j ≠ 16 by omega, show j ≠ 15 by omega, show j ≠ 14 by omega, show j ≠ 13 by omega, if_false]
  clear hσ
  rw [wpC_blk]
  refine wpR_step (v := .int .u32 k) (congrArg some q5) ?_
  refine wpR_step (v := .pointer (some ⟨rb, 0, none⟩)) (by simp only [RK.val?, ev, updo, upd]; simp [q0]) ?_
  refine wpR_step (v := .int .u32 z) (by simp only [RK.val?, ev, updo, upd]; simp [q6]) ?_
  refine wpR_step (v := .int .i64 z) (by simp only [RK.val?, ev, updo, upd, if_true, i64_small (n := z) (by omega) (by omega)]) ?_
  refine wpR_call (vs := [.pointer (some ⟨rb, 0, none⟩), .int .i64 z]) (by simp only [List.map_cons, List.map_nil, ev, updo, upd]; simp) (rSpan_call hm hsp hr2' z) ?_
  rintro e w3 ⟨v, rfl, ho, hr3, m3⟩
  refine ⟨_, rfl, ?_⟩
  have m03 : Mod [rb] w w3 := (m1.trans m2).trans m3
  have hT3 := hkeep w3 _ hr3 m03
  have hb3 := hb.mod m03 (by simpa using hrt.symm)
  have hb23 := hb2.mod m03 (by simpa using hr2.symm)
  have hv := ho.slcN
  have ntb : tb ∈ S' := e1 _ (by simp)
  have nb2 : b2 ∈ S' := e1 _ (by simp)
  have hTM : TagM (fun b => b ∉ rb :: S') w3 mv m := by
    rcases hcase with ⟨c1, c2, -⟩ | ⟨r, c1, c2, c3, c4, c5, c6, c7⟩
    · exact .inl ⟨c1, c2⟩
    · exact .inr ⟨r, c1, c7.mod m03 (by simpa using c5) (by simp) fun _ _ h => h⟩
  refine wpR_call (vs := [.pointer (some ⟨tb, 0, none⟩), .int .u32 k, v]) (by simp only [List.map_cons, List.map_nil, ev, updo, upd]; simp [q3]) (tSet_call hm hset hb3 hTM hk1 hv (fun h => h (List.mem_cons_of_mem _ ntb)) (fun r hr => by
    rcases hcase with ⟨c1, -, -⟩ | ⟨r', c1, c2, c3, c4, c5, c6, c7⟩
    · rw [c1] at hr; simp at hr
    · rw [c1] at hr
      simp only [Value.map.injEq, Option.some.injEq] at hr; subst hr
      exact ⟨fun h => h (by rw [c6]; simp), c3⟩)) ?_
  rintro e w4 ⟨rfl, r, hb4, hM4, hrtb, hmod4⟩
  refine ⟨_, rfl, ?_⟩
  have hwl : w0.heap.size ≤ w3.heap.size := (hmw.trans m03).size
  have hb2l := hb23.lt
  have hb3l := hb3.lt
  have hrl := hr3.lt
  have hsub : ∀ {x}, x ∈ S → x ∈ S' := fun hx => e1 _ (by simp [hx])
  simp only [wpR]
  rcases hmod4 with ⟨c0, mm⟩ | ⟨c0, c1, mm⟩
  · -- the map was there
    rcases hcase with ⟨k1, -, -⟩ | ⟨r', k1, k2, k3, k4, k5, k6, k7⟩
    · rw [k1] at c0; simp at c0
    · rw [k1] at c0
      simp only [Value.map.injEq, Option.some.injEq] at c0; subst c0
      refine hQ _ w4 _ (fun j hj => ?_) hb4 (hb23.mod mm (by simp [h2t, k4.symm])) ?_ (.inr ⟨r', rfl, k2, k3, k4, k5, ?_, ?_⟩)
      · rw [← qa j hj]
        simp only [updo, upd, show j ≠ 22 by omega, show j ≠ 21 by omega, show j ≠ 20 by omega, show j ≠ 19 by omega, show j ≠ 18 by omega, show j ≠ 17 by omega, if_false]
      · refine Mod.drop (b := tb) (S := [rb]) ?_ htb
        refine Mod.drop (b := r') (S := [tb, rb]) ?_ k2
        exact ((hmw.trans m03).mono (by simp)).trans (mm.mono (by simp))
      · rw [← k6]
        exact hM4.mod (Mod.refl [] _) (by simp) (by simp) fun b _ hb => hb.1
      · rw [← k6]
        refine hr3.mod mm (by simp [hrt, k5.symm]) fun x hx => ?_
        simp only [List.mem_cons, List.not_mem_nil, or_false] at hx
        rcases hx with rfl | rfl
        · exact ntb
        · rw [k6]; simp
  · rcases hcase with ⟨k1, k2, k3⟩ | ⟨r', k1, -⟩
    · subst k3
      have hrr : r ≠ rb := by omega
      have hr2b : r ≠ b2 := by omega
      refine hQ _ w4 _ (fun j hj => ?_) hb4 (hb23.mod mm (by simpa using h2t)) ?_ (.inr ⟨r, rfl, by omega, hrtb, hr2b, hrr, ?_, ?_⟩)
      · rw [← qa j hj]
        simp only [updo, upd, show j ≠ 22 by omega, show j ≠ 21 by omega, show j ≠ 20 by omega, show j ≠ 19 by omega, show j ≠ 18 by omega, show j ≠ 17 by omega, if_false]
      · refine Mod.drop (b := tb) (S := [rb]) ?_ htb
        exact ((hmw.trans m03).mono (by simp)).trans (mm.mono (by simp))
      · refine hM4.mod (Mod.refl [] _) (by simp) (by simp) fun b _ hb => ?_
        simp only [List.mem_cons, not_or] at hb ⊢
        obtain ⟨⟨q1, q2, q3, q4⟩, q5⟩ := hb
        exact ⟨q1, by omega, q2, q3, q4⟩
      · have h5 : IsRd (b2 :: tb :: S) w4 rb _ := hr3.mod mm (by simpa using hrt) (by simp)
        obtain ⟨base, len, cap, p1, p2, p3, p4⟩ := h5.ex
        obtain ⟨base', len', cap', p1', p2', p3', p4'⟩ := hr3.ex
        refine ⟨⟨base, len, cap, p1, p2, p3, fun a ha => ⟨(p4 a ha).1, ?_, (p4 a ha).2.2⟩⟩, h5.short⟩
        -- the source's block is an old one
        have hsame : base' = base := by
          have x1 := p1.cell 0
          have x2 := (p1'.mod mm (by simpa using hrt)).cell 0
          rw [x1] at x2
          have x3 : base' = base ∧ len' = len ∧ cap' = cap := by simpa using x2.symm
          exact x3.1
        subst hsame
        have := (p4' a ha).2.2
        simp only [List.mem_cons, not_or]
        have q := (p4 a ha).2.1
        simp only [List.mem_cons, not_or] at q
        exact ⟨by omega, q.1, q.2.1, q.2.2⟩
    · rw [k1] at c0; simp at c0

theorem tRead_call (hm : P.follows .mixedOrders = true) (h : liftF P (F tRead) = some (ir_tRead F)) (huv : liftF P (F rUvarint) = some (ir_rUvarint F)) (hk : liftF P (F kUvarint) = some (ir_kUvarint F)) (hsp : liftF P (F rSpan) = some (ir_rSpan F)) (hset : liftF P (F tSet) = some (ir_tSet F)) :
    RdG P (F tRead) 1 fun s => (.tag (rdTags s).1, (rdTags s).2) := by
  intro S w rb s hr hrb hSl
  unfold ir_tRead at h
  refine call_of h hm (by simp) ?_
  have a0 : args0 [.pointer (some ⟨rb, 0, none⟩)] 0 = .pointer (some ⟨rb, 0, none⟩) := rfl
  generalize args0 [.pointer (some ⟨rb, 0, none⟩)] = σ0 at a0 ⊢
  have hrl := hr.lt
  rw [wpC_seq, wpC_blk]
  refine wpR_run ?_
  intro T2
  have b2 := Blk.new w [.map none] T2
  have m1 : Mod [] w (w.alloc (.cells [Value.map none].toArray T2)) := Mod.alloc _ _ _
  have z1 : (w.alloc (.cells [Value.map none].toArray T2)).heap.size = w.heap.size + 1 := by simp
  generalize w.alloc (.cells [Value.map none].toArray T2) = w1 at b2 m1 z1 ⊢
  refine wpR_done ?_
  rw [wpC_seq, wpC_blk]
  refine wpR_run ?_
  intro T3
  have b3 := Blk.new w1 [.map none] T3
  have m2 : Mod [] w1 (w1.alloc (.cells [Value.map none].toArray T3)) := Mod.alloc _ _ _
  have z2 : (w1.alloc (.cells [Value.map none].toArray T3)).heap.size = w1.heap.size + 1 := by simp
  generalize w1.alloc (.cells [Value.map none].toArray T3) = w2 at b3 m2 z2 ⊢
  refine wpR_done ?_
  have hrd2 : IsRd (w.heap.size :: w1.heap.size :: S) w2 rb s := hr.freshL (m1.trans m2) fun x hx => by
    simp only [List.mem_cons] at hx
    rcases hx with rfl | rfl | hx
    · exact .inr (Nat.le_refl _)
    · exact .inr (by omega)
    · exact .inl hx
  have n1 : rb ≠ w.heap.size := by omega
  have n2 : rb ≠ w1.heap.size := by omega
  rw [wpC_seq, wpC_seq, wpC_blk]
  refine wpR_step (v := .pointer (some ⟨rb, 0, none⟩)) (by simp only [RK.val?, ev, updo, upd]; simp [a0]) ?_
  refine wpR_call (vs := [.pointer (some ⟨rb, 0, none⟩)]) (by simp only [List.map_cons, List.map_nil, ev, updo, upd, if_true]) (rUvarint_call hm huv hk _ w2 rb s hrd2 (by simp [n1, n2, hrb])) ?_
  rintro e w3 ⟨rfl, hr3, m3⟩
  refine ⟨_, rfl, ?_⟩
  simp only at hr3 ⊢
  refine wpR_step (v := .int .u32 (rdUv s).1) (by simp only [RK.val?, ev, updo, upd, if_true]) ?_
  refine wpR_done ?_
  generalize hσ : updo _ (some 4) _ = σ1
  have q0 : σ1 0 = .pointer (some ⟨rb, 0, none⟩) := by rw [← hσ]; simp [updo, upd, a0]
  have q2 : σ1 2 = .pointer (some ⟨w.heap.size, 0, none⟩) := by rw [← hσ]; simp [updo, upd]
  have q3 : σ1 3 = .pointer (some ⟨w1.heap.size, 0, none⟩) := by rw [← hσ]; simp [updo, upd]
  have q4 : σ1 4 = .int .u32 (rdUv s).1 := by rw [← hσ]; simp [updo, upd]
  clear hσ
  have hk1 := rdUv_lt s
  have hres : rdTagsN (rdUv s).1 [] (rdUv s).2 = rdTags s := rfl
  rw [wpC_block, wpC_loop]
  -- behind the loop
  have hfin : ∀ (σ' : Sl) (w' : World) (mv : Value), σ' 2 = .pointer (some ⟨w.heap.size, 0, none⟩) → σ' 3 = .pointer (some ⟨w1.heap.size, 0, none⟩) → Blk w' w1.heap.size [mv] → Blk w' w.heap.size [.map none] → Mod [rb] w w' →
      TagS S w.heap.size w' rb w1.heap.size w.heap.size mv (rdTags s).1 (rdTags s).2 →
      wpC P (.seq (.blk [⟨some 23, .ldn (.tmp 3) 1, none⟩, ⟨none, .st (.tmp 2) 1 (.tmp 23), none⟩]) .ret) (postC [.cells 2 1] fun e w' => ∃ v, e = .returned v ∧ (v.cells.size = 1 ∧ Rep (rb :: S) w' (.tag (rdTags s).1) v.cells.toList) ∧ IsRd S w' rb (rdTags s).2 ∧ Mod [rb] w w') σ' w' := by
    intro σ' w' mv s2 s3 hb3 hb2 hm' hT
    have h1c : mv.oneCell' = true := by
      rcases hT with ⟨rfl, -⟩ | ⟨r, rfl, -⟩ <;> rfl
    rw [wpC_seq, wpC_blk]
    refine wpR_step (v := .agg #[mv]) (by simp only [RK.val?, ev, s3, cellsAt_of' hb3.cells (n := 1) rfl, Option.map_some]) ?_
    refine wpR_run ?_
    have ec : (Value.agg #[mv]).cells = #[mv] := rfl
    have hput : Mod [w.heap.size] w' (putCells w' ⟨w.heap.size, 0, none⟩ 0 [mv]) := Mod.put (by simp)
    have hp := hb2.put (o := 0) (vs := [mv]) (by simp)
    rw [splice_all (by rfl)] at hp
    simp only [RK.run, ev, updo, upd, if_true, show (2 : Nat) ≠ 23 by decide, if_false, s2, ec]
    refine ⟨rfl, stOk_one hb2 (by simp) h1c, ?_⟩
    refine wpR_done ?_
    simp only [wpC, postC, rvals, List.mapM_cons, List.mapM_nil, RV.val, upd, show (2 : Nat) ≠ 23 by decide, if_false, s2]
    rw [cellsAt_of' hp.cells (n := 1) rfl]
    simp only [Option.bind_eq_bind, Option.map_some, Option.bind_some, Option.pure_def, tup_one]
    have hmf : Mod [rb] w (putCells w' ⟨w.heap.size, 0, none⟩ 0 [mv]) := Mod.drop (b := w.heap.size) (S := [rb]) ((hm'.mono (by simp)).trans (hput.mono (by simp))) (Nat.le_refl _)
    refine ⟨_, rfl, ⟨rfl, ?_⟩, ?_, hmf⟩
    · show Rep (rb :: S) _ _ [mv]
      rcases hT with ⟨rfl, e2, -⟩ | ⟨r, rfl, k1, k2, k3, k4, k5, k6⟩
      · rw [e2]; exact .tag0
      · refine .tag1 (fun hx => ?_) ((k5.mod hput (by simpa using k3) (by simp) fun _ _ h => h).mod (Mod.refl [] _) (by simp) (by simp) fun b _ hb hx => hb (by
          rcases List.mem_cons.1 hx with rfl | hx
          · simp
          · simp [hx]))
        rcases List.mem_cons.1 hx with rfl | hx
        · exact k4 rfl
        · have := hSl _ hx; omega
    · rcases hT with ⟨-, -, k6⟩ | ⟨r, -, -, -, -, -, -, k6⟩
      · exact (k6.mod hput (by simpa using n1) (by simp)).weakL fun x hx => by simp [hx]
      · exact (k6.mod hput (by simpa using n1) (by simp)).weakL fun x hx => by simp [hx]
  refine ⟨fun σ' w' => ∃ n m s' mv, σ' 0 = .pointer (some ⟨rb, 0, none⟩) ∧ σ' 2 = .pointer (some ⟨w.heap.size, 0, none⟩) ∧ σ' 3 = .pointer (some ⟨w1.heap.size, 0, none⟩) ∧ σ' 4 = .int .u32 (n : Nat) ∧ n < 4294967296 ∧ Blk w' w1.heap.size [mv] ∧ Blk w' w.heap.size [.map none] ∧
      Mod [rb] w w' ∧ TagS S w.heap.size w' rb w1.heap.size w.heap.size mv m s' ∧ rdTagsN n m s' = rdTags s,
    fun σ' _ => match σ' 4 with | .int _ n => n.toNat | _ => 0, ⟨(rdUv s).1, [], (rdUv s).2, .map none, q0, q2, q3, q4, hk1, b3.mod m3 (by simpa using n2.symm), (b2.mod m2 (by simp)).mod m3 (by simpa using n1.symm), ((m1.trans m2).nil).trans m3, .inl ⟨rfl, rfl, hr3⟩, hres⟩, ?_⟩
  rintro σ w' ⟨n, m, s', mv, s0, s2, s3, s4, hn, hb, hb2, hmw, hT, hN⟩
  rw [wpC_seq, wpC_seq, wpC_blk]
  refine wpR_step (v := .int .u32 n) (congrArg some s4) ?_
  refine wpR_step (v := .bool (decide (0 < n))) (by
    simp only [RK.val?, ev, updo, upd, if_true, isShift, decide_true, Bool.or_true, intBin]
    congr 2; exact decide_eq_decide.2 (by omega)) ?_
  refine wpR_done ?_
  by_cases h0 : 0 < n
  · rw [wpC_cond_t (by simp only [ev, updo, upd, if_true, h0, decide_true]), wpC_skip]
    simp only [thenC]
    rw [wpC_seq, wpC_block]
    obtain ⟨n', rfl⟩ : ∃ n', n = n' + 1 := ⟨n - 1, by omega⟩
    refine tag_step (w0 := w) hm huv hk hsp hset (by simp [updo, upd, s0]) (by simp [updo, upd, s3]) hb hb2 hT n2 n1 (by omega) hrb hSl (by omega) hmw fun σ2 w4 mv' a2 hb4 hb24 hmw4 hT4 => ?_
    simp only [inBlockC, thenC]
    rw [wpC_blk]
    have t4 : σ2 4 = .int .u32 ((n' + 1 : Nat) : Int) := by rw [a2 4 (by omega)]; simp [updo, upd, s4]
    refine wpR_step (v := .int .u32 ((n' + 1 : Nat) : Int)) (congrArg some t4) ?_
    refine wpR_step (v := .int .u32 (n' : Nat)) (by
      simp only [RK.val?, ev, updo, upd, if_true, isShift, decide_true, Bool.or_true, intBin]
      have e1 : ((n' + 1 : Nat) : Int) - 1 = (n' : Nat) := by omega
      rw [e1, u32_nat (by omega)]) ?_
    refine wpR_step (v := .int .u32 (n' : Nat)) (by simp only [RK.val?, ev, updo, upd, if_true]) ?_
    simp only [wpR]
    refine ⟨⟨n', _, _, mv', ?_, ?_, ?_, rfl, by omega, hb4, hb24, hmw4, hT4, hN⟩, ?_⟩
    · simp only [updo, upd]; simp [a2 0 (by omega), s0, updo, upd]
    · simp only [updo, upd]; simp [a2 2 (by omega), s2, updo, upd]
    · simp only [updo, upd]; simp [a2 3 (by omega), s3, updo, upd]
    · simp only [updo, upd, if_true, s4]; omega
  · rw [wpC_cond_f (by simp only [ev, updo, upd, if_true, h0, decide_false])]
    have : n = 0 := by omega
    subst this
    simp only [rdTagsN] at hN
    rw [← hN] at hfin
    have hf := hfin (updo (updo σ (some 9) (.int .u32 ((0 : Nat) : Int))) (some 10) (.bool (decide (0 < 0)))) w' mv (by simp [updo, upd, s2]) (by simp [updo, upd, s3]) hb hb2 hmw hT
    rw [hN] at hf
    exact wpC_exit_out hf

end
end Go.Msk

/-! Unknown tags, one by one: the keys are gathered. -/
namespace Go.Msk
open Go.RowKit
set_option maxRecDepth 100000

def u32v (k : Nat) : Value := .int .u32 k

theorem putObj_size (w : World) (r : Nat) (o : Obj) : (putObj w r o).heap.size = w.heap.size := by simp [putObj]
theorem putObj_other {w : World} {r k : Nat} {o : Obj} (h : k ≠ r) : (putObj w r o).heap[k]? = w.heap[k]? := by
  simp only [putObj]; exact Array.getElem?_setIfInBounds_ne (fun e => h e.symm)

theorem nodup_of_map {α β : Type} {f : α → β} {l : List α} (h : (l.map f).Nodup) : l.Nodup :=
  List.Pairwise.of_map f (fun _ _ hab e => hab (congrArg f e)) h

/-- The entries handed out so far. -/
structure SeenL (es : Array MapEntry) (seen : Array Nat) (E : List MapEntry) : Prop where
  sub : ∀ e ∈ E, e ∈ es.toList
  nd : (E.map (·.born)).Nodup
  all : seen.toList = E.map (·.born)

theorem SeenL.push {es : Array MapEntry} {seen : Array Nat} {E : List MapEntry} {e : MapEntry} (h : SeenL es seen E) (he : e ∈ (leftOf es seen).toList) : SeenL es (seen.push e.born) (E ++ [e]) := by
  obtain ⟨h1, h2⟩ := mem_left he
  refine ⟨fun x hx => ?_, ?_, by simp [h.all]⟩
  · rcases List.mem_append.1 hx with hx | hx
    · exact h.sub x hx
    · simp only [List.mem_singleton] at hx; subst hx; exact h1
  · rw [List.map_append, List.nodup_append]
    refine ⟨h.nd, by simp, fun a ha b hb => ?_⟩
    simp only [List.map_cons, List.map_nil, List.mem_singleton] at hb
    subst hb
    intro e'
    subst e'
    rw [← h.all] at ha
    have : seen.contains e.born = true := by simpa using ha
    rw [this] at h2; simp at h2

theorem SeenL.perm {es : Array MapEntry} {seen : Array Nat} {E : List MapEntry} (h : SeenL es seen E) (hb : (es.toList.map (·.born)).Nodup) (h0 : (leftOf es seen).size = 0) : E.Perm es.toList := by
  have hE : E.Nodup := nodup_of_map h.nd
  have hes : es.toList.Nodup := nodup_of_map hb
  refine (List.perm_ext_iff_of_nodup hE hes).2 fun x => ⟨fun hx => h.sub x hx, fun hx => ?_⟩
  have hc := all_seen es seen h0 x hx
  have : x.born ∈ seen.toList := by simpa using hc
  rw [h.all] at this
  obtain ⟨y, hy, hyx⟩ := List.mem_map.1 this
  have := born_inj hb (h.sub y hy) hx hyx
  exact this ▸ hy

theorem SeenL.lt {es : Array MapEntry} {seen : Array Nat} {E : List MapEntry} {e : MapEntry} (h : SeenL es seen E) (hb : (es.toList.map (·.born)).Nodup) (he : e ∈ (leftOf es seen).toList) : E.length < es.size := by
  have h2 := h.push he
  have hE : (E ++ [e]).Nodup := nodup_of_map h2.nd
  have := hE.length_le_of_subset (l₂ := es.toList) h2.sub
  simp only [List.length_append, List.length_cons, List.length_nil, Array.length_toList] at this
  omega

section
variable {P : Program} {F : Nat → Nat}

/-- The state while keys are gathered. -/
structure KeyS (w0 : World) (w : World) (σ : Sl) (it Bs B r n : Nat) (es : Array MapEntry) (clock : Nat) (E : List MapEntry) : Prop where
  s24 : σ 24 = .pointer (some ⟨it, 0, none⟩)
  s4 : σ 4 = .pointer (some ⟨Bs, 0, none⟩)
  map : w.heap[r]? = some (.map es clock)
  iter : ∃ seen, w.heap[it]? = some (.mapIter (some r) clock seen clock) ∧ SeenL es seen E
  cell : Blk w Bs [.slice (some ⟨B, 0, none⟩) E.length n]
  row : ∃ rest, Blk w B (E.map (·.key) ++ rest) ∧ E.length + rest.length = n
  fr : Mod [] w0 w
  ne1 : it ≠ Bs
  ne2 : it ≠ B
  ne3 : Bs ≠ B
  nr : r ≠ it ∧ r ≠ Bs ∧ r ≠ B
  hn : n = es.size
  old1 : w0.heap.size ≤ it
  old2 : w0.heap.size ≤ Bs
  old3 : w0.heap.size ≤ B

theorem each_loop1 {w0 w : World} {σ : Sl} {it Bs B r n : Nat} {es : Array MapEntry} {clock : Nat} {Q : Exit → Sl → World → Prop} (h : KeyS w0 w σ it Bs B r n es clock []) (hk : keysAre .u32 es) (hb : (es.toList.map (·.born)).Nodup) (hold : ∀ e ∈ es.toList, e.born < clock)
    (hQ : ∀ σ' w' E, (∀ j, j < 25 → j ≠ 5 → σ' j = σ j) → KeyS w0 w' σ' it Bs B r n es clock E → E.Perm es.toList → Q .normal σ' w') :
    wpC P (.block 0 (.loop (.seq (.blk [⟨some 25, .mnext (.tmp 24), none⟩, ⟨some 26, .ext (.tmp 25) 0, none⟩])
        (.seq (.cond (.tmp 26) .skip (.exit 0))
        (.block 1 (.seq (.blk [⟨some 27, .mentry (.tmp 24), none⟩, ⟨some 28, .ext (.tmp 27) 0, none⟩, ⟨some 5, .mv (.tmp 28), none⟩])
          (.blk [⟨some 29, .ld (.tmp 4), none⟩, ⟨some 30, .mv (.tmp 5), none⟩, ⟨some 31, .bslice 1 [.int .u32 0] [(0, 1, .tmp 30)], none⟩, ⟨some 32, .append (.tmp 29) (.tmp 31) 1 4, none⟩, ⟨none, .st (.tmp 4) 1 (.tmp 32), none⟩]))))))) Q σ w := by
  rw [wpC_block, wpC_loop]
  refine ⟨fun σ' w' => ∃ E, (∀ j, j < 25 → j ≠ 5 → σ' j = σ j) ∧ KeyS w0 w' σ' it Bs B r n es clock E, fun _ w' => (leftOf es (w'.iterSeen it)).size, ⟨[], fun _ _ _ => rfl, h⟩, ?_⟩
  rintro σ1 w1 ⟨E, ag, hS⟩
  obtain ⟨seen, hit, hE⟩ := hS.iter
  have hseen : w1.iterSeen it = seen := by unfold World.iterSeen; rw [hit]
  rw [wpC_seq, wpC_blk]
  refine wpR_run ?_
  simp only [RK.run, ev, hS.s24, hit, hS.map]
  refine ⟨hold, Nat.le_refl _, fun h0 => ?_, fun e he w2 hw2 => ?_⟩
  · -- no entry is left
    refine wpR_step (v := .bool false) (by simp only [RK.val?, ev, updo, upd, if_true]; rfl) ?_
    refine wpR_done ?_
    rw [wpC_seq, wpC_cond_f rfl]
    refine wpC_exit_out3 ?_
    refine hQ _ w1 E (fun j hj h5 => ?_) ?_ (hE.perm hb h0)
    · simp only [updo, upd, show j ≠ 26 by omega, show j ≠ 25 by omega, if_false]; exact ag j hj h5
    · exact { hS with s24 := by simp [updo, upd, hS.s24], s4 := by simp [updo, upd, hS.s4] }
  · -- an entry
    have hsz2 : w2.heap = w1.heap := by rcases hw2 with rfl | rfl <;> rfl
    have hm2 : Mod [] w1 w2 := by
      rcases hw2 with rfl | rfl
      · exact Mod.refl _ _
      · exact Mod.drew _ _
    have hitl : it < w2.heap.size := by rw [hsz2]; exact (Array.getElem?_eq_some_iff.1 hit).1
    refine wpR_step (v := .bool true) (by simp only [RK.val?, ev, updo, upd, if_true]; rfl) ?_
    refine wpR_done ?_
    rw [wpC_seq, wpC_cond_t rfl, wpC_skip]
    simp only [thenC]
    rw [wpC_block, wpC_seq, wpC_blk]
    have hpm : Mod [it] w2 (putObj w2 it (.mapIter (some r) clock (seen.push e.born) clock)) := Mod.putObj (by simp)
    have hget : (putObj w2 it (.mapIter (some r) clock (seen.push e.born) clock)).heap[it]? = some (.mapIter (some r) clock (seen.push e.born) clock) := putObj_get hitl
    have hmp : (putObj w2 it (.mapIter (some r) clock (seen.push e.born) clock)).heap[r]? = some (.map es clock) := by
      rw [putObj_other hS.nr.1, hsz2]; exact hS.map
    obtain ⟨rest, hrow, hlen⟩ := hS.row
    have hcell := (hS.cell.mod hm2 (by simp)).mod hpm (by simpa using hS.ne1.symm)
    have hrow := (hrow.mod hm2 (by simp)).mod hpm (by simpa using hS.ne2.symm)
    have hpsz : (putObj w2 it (.mapIter (some r) clock (seen.push e.born) clock)).heap.size = w2.heap.size := putObj_size _ _ _
    have hm3 : Mod [it] w1 (putObj w2 it (.mapIter (some r) clock (seen.push e.born) clock)) := hm2.nil.trans hpm
    generalize hw3 : putObj w2 it (.mapIter (some r) clock (seen.push e.born) clock) = w3 at hpm hget hmp hcell hrow hpsz hm3 ⊢
    obtain ⟨k, hkk⟩ := hk e (mem_left he).1
    have hlt := hE.lt hb he
    have hnn := hS.hn
    refine wpR_run ?_
    simp only [RK.run, ev, updo, upd, show (24 : Nat) ≠ 26 by decide, show (24 : Nat) ≠ 25 by decide, if_false, hS.s24, hget, hmp]
    refine ⟨trivial, e, (mem_left he).1, hb, by simp, ?_⟩
    refine wpR_step (v := e.key) (by simp only [RK.val?, ev, updo, upd, if_true]; rfl) ?_
    refine wpR_step (v := e.key) (by simp only [RK.val?, ev, updo, upd, if_true]) ?_
    refine wpR_done ?_
    rw [wpC_blk]
    refine wpR_step (v := .slice (some ⟨B, 0, none⟩) E.length n) (by simp only [RK.val?, ev, updo, upd]; simp [hS.s4, hcell.cell]) ?_
    refine wpR_step (v := e.key) (by simp only [RK.val?, ev, updo, upd]; simp) ?_
    refine wpR_run ?_
    have hkc : e.key.cells = #[e.key] := by rw [hkk]; rfl
    have hko : e.key.oneCell' = true := by rw [hkk]; rfl
    simp only [RK.run, List.map_cons, List.map_nil, ev, updo, upd, if_true, zrep, List.replicate_succ, List.replicate_zero, List.flatten_cons, List.flatten_nil, List.append_nil, fillL, hkc]
    have hspl : splice [Value.int .u32 0] 0 [e.key] = [e.key] := splice_all rfl
    simp only [List.size_toArray, List.length_cons, List.length_nil, Nat.zero_add, Nat.le_refl, and_self, if_true, hspl]
    intro Tn
    have bA := Blk.new w3 [e.key] Tn
    have mA : Mod [] w3 (w3.alloc (.cells [e.key].toArray Tn)) := Mod.alloc _ _ _
    have zA : (w3.alloc (.cells [e.key].toArray Tn)).heap.size = w3.heap.size + 1 := by simp
    have hcell4 := hcell.mod mA (by simp)
    have hrow4 := hrow.mod mA (by simp)
    have hget4 : (w3.alloc (.cells [e.key].toArray Tn)).heap[it]? = some (.mapIter (some r) clock (seen.push e.born) clock) := by rw [mA.block it (by omega) (by simp)]; exact hget
    have hrl : r < w3.heap.size := (Array.getElem?_eq_some_iff.1 hmp).1
    have hmp4 : (w3.alloc (.cells [e.key].toArray Tn)).heap[r]? = some (.map es clock) := by rw [mA.block r hrl (by simp)]; exact hmp
    generalize w3.alloc (.cells [e.key].toArray Tn) = w4 at bA mA zA hcell4 hrow4 hget4 hmp4 ⊢
    refine wpR_run ?_
    have hsrc : srcCells w4 1 (.slice (some ⟨w3.heap.size, 0, none⟩) 1 1) = some (1, [e.key]) := by
      simp only [srcCells, Nat.mul_one]
      rw [cellsAt_of' bA.cells (n := 1) rfl]; rfl
    simp only [RK.run, ev, updo, upd, show (29 : Nat) ≠ 31 by decide, show (29 : Nat) ≠ 30 by decide, if_false, if_true, hsrc, appendRun]
    rw [if_pos (by omega)]
    simp only [Addr.add_mk, Nat.zero_add, Nat.mul_one]
    obtain ⟨x, rest', rfl⟩ : ∃ x r', rest = x :: r' := by cases rest with | nil => simp at hlen; omega | cons x r' => exact ⟨x, r', rfl⟩
    simp only [List.length_cons] at hlen
    refine ⟨stOk_one hrow4 (by simp) hko, ?_⟩
    have hput : Mod [B] w4 (putCells w4 ⟨B, E.length, none⟩ 0 [e.key]) := Mod.put (by simp)
    have hp := hrow4.put (o := E.length) (vs := [e.key]) (by simp)
    have hsp2 : splice (E.map (·.key) ++ x :: rest') E.length [e.key] = (E ++ [e]).map (·.key) ++ rest' := by
      have h1 : (E.map (·.key) ++ x :: rest').take E.length = E.map (·.key) := List.take_left' (by simp)
      have h2 : (E.map (·.key) ++ x :: rest').drop (E.length + [e.key].length) = rest' := by
        rw [show E.map (·.key) ++ x :: rest' = (E.map (·.key) ++ [x]) ++ rest' by simp]
        exact List.drop_left' (by simp)
      unfold splice
      rw [h1, h2]; simp
    rw [hsp2] at hp
    have hcell5 := hcell4.mod hput (by simpa using hS.ne3)
    have hget5 : (putCells w4 ⟨B, E.length, none⟩ 0 [e.key]).heap[it]? = some (.mapIter (some r) clock (seen.push e.born) clock) := by
      rw [hput.block it (by omega) (by simpa using hS.ne2)]; exact hget4
    have hmp5 : (putCells w4 ⟨B, E.length, none⟩ 0 [e.key]).heap[r]? = some (.map es clock) := by
      rw [hput.block r (by omega) (by simpa using hS.nr.2.2)]; exact hmp4
    have zB : (putCells w4 ⟨B, E.length, none⟩ 0 [e.key]).heap.size = w4.heap.size := size_putCells ..
    generalize putCells w4 ⟨B, E.length, none⟩ 0 [e.key] = w5 at hput hp hcell5 hget5 hmp5 zB ⊢
    refine wpR_run ?_
    have ec : (Value.slice (some ⟨B, 0, none⟩) (E.length + 1) n).cells = #[.slice (some ⟨B, 0, none⟩) (E.length + 1) n] := rfl
    have hput6 : Mod [Bs] w5 (putCells w5 ⟨Bs, 0, none⟩ 0 [.slice (some ⟨B, 0, none⟩) (E.length + 1) n]) := Mod.put (by simp)
    have hp6 := hcell5.put (o := 0) (vs := [.slice (some ⟨B, 0, none⟩) (E.length + 1) n]) (by simp)
    rw [splice_all (by rfl)] at hp6
    simp only [RK.run, ev, updo, upd, if_true, show (4 : Nat) ≠ 32 by decide, show (4 : Nat) ≠ 31 by decide, show (4 : Nat) ≠ 30 by decide, show (4 : Nat) ≠ 29 by decide, show (4 : Nat) ≠ 5 by decide, show (4 : Nat) ≠ 28 by decide, show (4 : Nat) ≠ 27 by decide, show (4 : Nat) ≠ 26 by decide, show (4 : Nat) ≠ 25 by decide, if_false, hS.s4, ec]
    refine ⟨rfl, stOk_one hcell5 (by simp) rfl, ?_⟩
    have hget6 : (putCells w5 ⟨Bs, 0, none⟩ 0 [.slice (some ⟨B, 0, none⟩) (E.length + 1) n]).heap[it]? = some (.mapIter (some r) clock (seen.push e.born) clock) := by
      rw [hput6.block it (by omega) (by simpa using hS.ne1)]; exact hget5
    have hmp6 : (putCells w5 ⟨Bs, 0, none⟩ 0 [.slice (some ⟨B, 0, none⟩) (E.length + 1) n]).heap[r]? = some (.map es clock) := by
      rw [hput6.block r (by omega) (by simpa using hS.nr.2.1)]; exact hmp5
    simp only [wpR, inBlockC, thenC]
    refine ⟨⟨E ++ [e], fun j hj h5 => ?_, ?_⟩, ?_⟩
    · simp only [upd, show j ≠ 32 by omega, show j ≠ 31 by omega, show j ≠ 30 by omega, show j ≠ 29 by omega, h5, show j ≠ 28 by omega, show j ≠ 27 by omega, show j ≠ 26 by omega, show j ≠ 25 by omega, if_false]; exact ag j hj h5
    · refine { hS with s24 := by simp [upd, hS.s24], s4 := by simp [upd, hS.s4], map := hmp6, iter := ⟨_, hget6, hE.push he⟩, cell := by simpa using hp6, row := ⟨rest', hp.mod hput6 (by simpa using hS.ne3.symm), by simp; omega⟩, fr := ?_ }
      have o1 := hS.old1; have o2 := hS.old2; have o3 := hS.old3
      refine Mod.drop (b := it) (S := []) ?_ o1
      refine Mod.drop (b := Bs) (S := [it]) ?_ o2
      refine Mod.drop (b := B) (S := [Bs, it]) ?_ o3
      exact (((hS.fr.mono (by simp)).trans (hm3.mono (by simp))).trans (mA.mono (by simp))).trans ((hput.mono (by simp)).trans (hput6.mono (by simp)))
    · have h6 : (putCells w5 ⟨Bs, 0, none⟩ 0 [.slice (some ⟨B, 0, none⟩) (E.length + 1) n]).iterSeen it = seen.push e.born := by unfold World.iterSeen; rw [hget6]
      rw [hseen, h6]
      exact left_shrinks es seen e he

end
end Go.Msk

/-! Unknown tags, one by one, by rising numbers. -/
namespace Go.Msk
open Go.RowKit
set_option maxRecDepth 100000

/-! Sorting tags. -/
def getT (m : List (Nat × List UInt8)) (k : Nat) : List UInt8 := match m.find? (fun p => k == p.1) with | some p => p.2 | none => []

theorem insT_perm (k : Nat) (l : List UInt8) : ∀ m : List (Nat × List UInt8), (insT k l m).Perm ((k, l) :: m)
  | [] => .refl _
  | (k', l') :: m => by
    simp only [insT]
    split
    · exact .refl _
    · exact ((insT_perm k l m).cons _).trans (.swap _ _ _)

theorem sortT_perm : ∀ m : List (Nat × List UInt8), (sortT m).Perm m
  | [] => .refl _
  | (k, l) :: m => (insT_perm k l (sortT m)).trans ((sortT_perm m).cons _)

theorem insT_sorted (k : Nat) (l : List UInt8) : ∀ m : List (Nat × List UInt8), m.Pairwise (fun a b => a.1 ≤ b.1) → (insT k l m).Pairwise (fun a b => a.1 ≤ b.1)
  | [], _ => by simp [insT]
  | (k', l') :: m, h => by
    simp only [insT]
    rw [List.pairwise_cons] at h
    split
    · rename_i hk
      refine List.pairwise_cons.2 ⟨fun b hb => ?_, List.pairwise_cons.2 h⟩
      rcases List.mem_cons.1 hb with rfl | hb
      · exact Nat.le_of_lt hk
      · have := h.1 b hb; simp only at this ⊢; omega
    · rename_i hk
      refine List.pairwise_cons.2 ⟨fun b hb => ?_, insT_sorted k l m h.2⟩
      have := (insT_perm k l m).mem_iff.1 hb
      rcases List.mem_cons.1 this with rfl | hb
      · simp only; omega
      · exact h.1 b hb

theorem sortT_sorted : ∀ m : List (Nat × List UInt8), (sortT m).Pairwise (fun a b => a.1 ≤ b.1)
  | [] => .nil
  | (k, l) :: m => insT_sorted k l _ (sortT_sorted m)

theorem getT_mem : ∀ {m : List (Nat × List UInt8)} (p : Nat × List UInt8), (m.map (·.1)).Nodup → p ∈ m → getT m p.1 = p.2
  | [], p, _, h => by simp at h
  | q :: m, p, hn, h => by
    unfold getT
    rw [List.find?_cons]
    rw [List.map_cons, List.nodup_cons] at hn
    rcases List.mem_cons.1 h with rfl | h
    · simp
    · have hne : ¬ p.1 = q.1 := fun e => hn.1 (by rw [← e]; exact List.mem_map.2 ⟨p, h, rfl⟩)
      have : (p.1 == q.1) = false := by simpa using hne
      rw [this]
      exact getT_mem p hn.2 h

theorem sortT_eq {m : List (Nat × List UInt8)} {ks : List Nat} (hn : (m.map (·.1)).Nodup) (hp : ks.Perm (m.map (·.1))) (hs : ks.Pairwise (· ≤ ·)) : ks.map (fun k => (k, getT m k)) = sortT m := by
  have h1 : (m.map (·.1)).map (fun k => (k, getT m k)) = m := by
    rw [List.map_map]
    conv => rhs; rw [← List.map_id m]
    apply List.map_congr_left
    intro p hp
    simp only [Function.comp, id, getT_mem p hn hp]
  have h2 : (ks.map (fun k => (k, getT m k))).Perm m := by
    have := hp.map (fun k => (k, getT m k))
    rwa [h1] at this
  refine List.Perm.eq_of_pairwise (le := fun a b => a.1 ≤ b.1) (fun a b ha hb hab hba => ?_) ?_ (sortT_sorted m) (h2.trans (sortT_perm m).symm)
  · have ha' := h2.mem_iff.1 ha
    have hb' := (sortT_perm m).mem_iff.1 hb
    have e : a.1 = b.1 := Nat.le_antisymm hab hba
    have x1 := getT_mem a hn ha'
    have x2 := getT_mem b hn hb'
    rw [e] at x1
    exact Prod.ext e (x1.symm.trans x2)
  · exact List.Pairwise.map _ (fun a b h => h) hs

theorem EntL.get {ok : Nat → Prop} {w : World} {es : List MapEntry} {m : List (Nat × List UInt8)} (h : EntL ok w es m) {k : Nat} (hk : k ∈ m.map (·.1)) : ∃ e, es.find? (keyIs k) = some e ∧ SlC ok w e.val (getT m k).length (u8s (getT m k)) := by
  induction h with
  | nil => simp at hk
  | @cons e k' l es m h1 h2 h3 h4 ih =>
    have hki : keyIs k e = decide (k = k') := by
      unfold keyIs; rw [h1]
      by_cases hkk : k = k'
      · simp [hkk]
      · have : ¬ (k : Int) = k' := by omega
        simp [hkk, this]
    rw [List.find?_cons, hki]
    by_cases hkk : k = k'
    · refine ⟨e, by simp [hkk], ?_⟩
      have : getT ((k', l) :: m) k = l := by unfold getT; simp [hkk]
      rw [this]; exact h3
    · simp only [List.map_cons, List.mem_cons, hkk, false_or] at hk
      obtain ⟨x, hx1, hx2⟩ := ih hk
      refine ⟨x, by simp [hkk, hx1], ?_⟩
      have : getT ((k', l) :: m) k = getT m k := by unfold getT; rw [List.find?_cons, show (k == k') = false by simpa using hkk]
      rw [this]; exact hx2

theorem EntL.len {ok : Nat → Prop} {w : World} {es : List MapEntry} {m : List (Nat × List UInt8)} (h : EntL ok w es m) : es.length = m.length := by
  induction h with
  | nil => rfl
  | cons _ _ _ _ ih => simp [ih]

theorem EntL.klist {ok : Nat → Prop} {w : World} {es : List MapEntry} {m : List (Nat × List UInt8)} (h : EntL ok w es m) : es.map (·.key) = (m.map (·.1)).map u32v := by
  induction h with
  | nil => rfl
  | cons h1 _ _ _ ih => simp [ih, h1, u32v]

theorem EntL.lt32 {ok : Nat → Prop} {w : World} {es : List MapEntry} {m : List (Nat × List UInt8)} (h : EntL ok w es m) : ∀ k ∈ m.map (·.1), k < 4294967296 := by
  induction h with
  | nil => simp
  | cons _ h2 _ _ ih =>
    intro k hk
    rw [List.map_cons] at hk
    rcases List.mem_cons.1 hk with rfl | hk
    · exact h2
    · exact ih k hk

theorem u32v_inj {a b : Nat} (h : u32v a = u32v b) : a = b := by
  simp only [u32v, Value.int.injEq, true_and] at h; omega

theorem map_perm_inj : ∀ {a b : List Nat}, (a.map u32v).Perm (b.map u32v) → a.Perm b := by
  intro a b h
  have hd : ∀ l : List Nat, (l.map u32v).map (fun v => match v with | .int _ n => n.toNat | _ => 0) = l := by
    intro l
    rw [List.map_map]
    conv => rhs; rw [← List.map_id l]
    apply List.map_congr_left
    intro k _; simp [u32v]
  have := h.map (fun v => match v with | .int _ n => n.toNat | _ => 0)
  rwa [hd, hd] at this

/-- What sort.Slice does with new numbers that a variable holds. -/
def SortC (P : Program) (f g : FuncId) (T : TypeId) : Prop :=
  ∀ (w : World) (B Bs : Nat) (ks : List Nat), Blk w B (ks.map u32v) → Blk w Bs [.slice (some ⟨B, 0, none⟩) ks.length ks.length] → Bs ≠ B → ks.length ≤ 2147483647 → (∀ k ∈ ks, k < 4294967296) →
    Calls P f #[.iface T (.slice (some ⟨B, 0, none⟩) ks.length ks.length), .func (.func g) #[] #[.pointer (some ⟨Bs, 0, none⟩)]] w fun e w' =>
      e = .returned (.tuple #[]) ∧ ∃ ks' : List Nat, ks'.Perm ks ∧ ks'.Pairwise (· ≤ ·) ∧ Blk w' B (ks'.map u32v) ∧ Mod [B] w w'

end Go.Msk

/-! Unknown tags, one by one, by rising numbers: the whole. -/
namespace Go.Msk
open Go.RowKit
set_option maxRecDepth 100000

section
variable {P : Program} {F : Nat → Nat}

/-- The function that is called for each tag: what it leaves (I), and that nothing that was there when the calls began turns but S. -/
def EachCB (P : Program) (w0 : World) (S : List Nat) (okv : Nat → Prop) (g : FuncId) (captured : List Value) (I : World → List (Nat × List UInt8) → World → Prop) : Prop :=
  ∀ (wN : World) (done : List (Nat × List UInt8)) (k : Nat) (l : List UInt8) (w1 : World) (v : Value), Mod [] w0 wN → I wN done w1 → done.length < 2147483647 → Mod S wN w1 → k < 4294967296 → l.length ≤ 2147483647 → SlC okv w1 v l.length (u8s l) →
    Calls P g ([u32v k, v] ++ captured).toArray w1 fun e w2 => e = .returned (.tuple #[]) ∧ I wN (done ++ [(k, l)]) w2 ∧ Mod S wN w2

theorem getT_len {m : List (Nat × List UInt8)} (h : ∀ p ∈ m, p.2.length ≤ 2147483647) (k : Nat) : (getT m k).length ≤ 2147483647 := by
  unfold getT
  cases hf : m.find? (fun p => k == p.1) with
  | none => simp
  | some p => exact h p (List.mem_of_find?_eq_some hf)

/-- The calls. -/
theorem each_loop2 {w0 wN w : World} {S : List Nat} {okv : Nat → Prop} {g : FuncId} {captured : List Value} {I : World → List (Nat × List UInt8) → World → Prop} (hcb : EachCB P w0 S okv g captured I) (hbody : hasBody P g = true)
    {σ : Sl} {B o R r : Nat} {m : List (Nat × List UInt8)} {ks : List Nat} {Q : Exit → Sl → World → Prop} (h0 : σ 0 = .pointer (some ⟨B, o, none⟩)) (h1 : σ 1 = .func (.func g) #[] captured.toArray) (h37 : σ 37 = .slice (some ⟨R, 0, none⟩) ks.length ks.length)
    (h38 : σ 38 = .int .i64 ks.length) (h39 : σ 39 = .int .i64 0) (hmN : Mod [] w0 wN) (hw : w = wN) (hrow : Blk wN R (ks.map u32v)) (hcell : wN.cell? ⟨B, o, none⟩ = some (.map (some r))) (hM : MapRep okv wN r m) (hB : B ∉ S) (hr : r ∉ S) (hR : R ∉ S) (hS : ∀ b ∈ S, ¬ okv b)
    (hmv : ∀ p ∈ m, p.2.length ≤ 2147483647) (hks : ∀ k ∈ ks, k ∈ m.map (·.1)) (hlen : ks.length ≤ 2147483647) (hI : I wN [] wN)
    (hQ : ∀ σ' w', I wN (ks.map fun k => (k, getT m k)) w' → Mod S wN w' → Q .normal σ' w') :
    wpC P (.block 2 (.loop (.seq (.blk [⟨some 40, .bin .lss (.tmp 39) (.tmp 38), none⟩])
        (.seq (.cond (.tmp 40) .skip (.exit 2))
        (.seq (.block 3 (.seq (.blk [⟨some 41, .iad (.tmp 37) (.tmp 39) 1, none⟩, ⟨some 42, .ld (.tmp 41), none⟩, ⟨some 7, .mv (.tmp 42), none⟩])
          (.blk [⟨some 43, .mv (.tmp 1), none⟩, ⟨some 44, .mv (.tmp 7), none⟩, ⟨some 45, .mv (.tmp 0), none⟩, ⟨some 46, .nilc (.tmp 45), none⟩, ⟨some 47, .fad (.tmp 46) 0, none⟩, ⟨some 48, .ld (.tmp 47), none⟩, ⟨some 49, .mv (.tmp 7), none⟩,
            ⟨some 50, .mlook (.tmp 48) (.tmp 49) (.slice none 0 0), none⟩, ⟨some 51, .callv (.tmp 43) [.tmp 44, .tmp 50], none⟩])))
        (.blk [⟨some 52, .bin .add (.tmp 39) (.const (.int .i64 1)), none⟩, ⟨some 39, .mv (.tmp 52), none⟩])))))) Q σ w := by
  subst hw
  rw [wpC_block, wpC_loop]
  refine ⟨fun σ' w' => ∃ i, i ≤ ks.length ∧ σ' 0 = .pointer (some ⟨B, o, none⟩) ∧ σ' 1 = .func (.func g) #[] captured.toArray ∧ σ' 37 = .slice (some ⟨R, 0, none⟩) ks.length ks.length ∧ σ' 38 = .int .i64 ks.length ∧ σ' 39 = .int .i64 (i : Nat) ∧
      I w ((ks.take i).map fun k => (k, getT m k)) w' ∧ Mod S w w', fun σ' _ => match σ' 39 with | .int _ i => ks.length - i.toNat | _ => 0, ⟨0, Nat.zero_le _, h0, h1, h37, h38, h39, by simpa using hI, Mod.refl _ _⟩, ?_⟩
  rintro σ1 w1 ⟨i, hi, s0, s1, s37, s38, s39, hI1, hm1⟩
  rw [wpC_seq, wpC_blk]
  refine wpR_step (v := .bool (decide (i < ks.length))) (by
    simp only [RK.val?, ev, s39, s38, isShift, decide_true, Bool.or_true, if_true, intBin]
    congr 2; exact decide_eq_decide.2 (by omega)) ?_
  refine wpR_done ?_
  by_cases hlt : i < ks.length
  · rw [wpC_seq, wpC_cond_t (by simp only [ev, updo, upd, if_true, hlt, decide_true]), wpC_skip]
    simp only [thenC]
    rw [wpC_seq, wpC_block, wpC_seq, wpC_blk]
    have hki : ks[i]? = some ks[i] := List.getElem?_eq_getElem hlt
    have hkm := hks ks[i] (List.getElem_mem hlt)
    have htk : ks.take (i + 1) = ks.take i ++ [ks[i]] := (List.take_append_getElem hlt).symm
    generalize ks[i] = k at hki hkm htk
    have c41 : w1.cell? ⟨R, i, none⟩ = some (u32v k) := by
      have := (hrow.mod hm1 hR).cell i
      rw [this, List.getElem?_map, hki]; rfl
    refine wpR_step (v := .pointer (some ⟨R, i, none⟩)) (by
      simp only [RK.val?, ev, updo, upd, show (37 : Nat) ≠ 40 by decide, show (39 : Nat) ≠ 40 by decide, if_false, s37, s39]
      rw [if_pos (by omega)]
      simp [Addr.add_mk]) ?_
    refine wpR_step (v := u32v k) (by simp only [RK.val?, ev, updo, upd, if_true, c41]) ?_
    refine wpR_step (v := u32v k) (by simp only [RK.val?, ev, updo, upd, if_true]) ?_
    refine wpR_done ?_
    rw [wpC_blk]
    have hcell1 : w1.cell? ⟨B, o, none⟩ = some (.map (some r)) := cell_mod hcell hm1 hB
    have hM1 := hM.mod (ok' := okv) hm1 hr hS fun _ _ h => h
    obtain ⟨es, clock, he1, he2, he3, he4⟩ := hM1.ex
    obtain ⟨e, hf, hv⟩ := he2.get hkm
    have hk32 := he2.lt32 k hkm
    have hmg : mapGet es k (.slice none 0 0) = e.val := by unfold mapGet; rw [hf]
    refine wpR_step (v := .func (.func g) #[] captured.toArray) (by simp only [RK.val?, ev, updo, upd]; simp [s1]) ?_
    refine wpR_step (v := u32v k) (by simp only [RK.val?, ev, updo, upd]; simp) ?_
    refine wpR_step (v := .pointer (some ⟨B, o, none⟩)) (by simp only [RK.val?, ev, updo, upd]; simp [s0]) ?_
    refine wpR_step (v := .pointer (some ⟨B, o, none⟩)) (by simp only [RK.val?, ev, updo, upd, if_true]) ?_
    refine wpR_step (v := .pointer (some ⟨B, o, none⟩)) (by simp only [RK.val?, ev, updo, upd, if_true, Addr.add_mk, Nat.add_zero]) ?_
    refine wpR_step (v := .map (some r)) (by simp only [RK.val?, ev, updo, upd, if_true, hcell1]) ?_
    refine wpR_step (v := u32v k) (by simp only [RK.val?, ev, updo, upd]; simp) ?_
    refine wpR_run ?_
    simp only [RK.run, ev, updo, upd, show (48 : Nat) ≠ 49 by decide, if_false, if_true, u32v, he1]
    refine ⟨he2.keys, ?_⟩
    rw [hmg]
    refine wpR_run ?_
    have hc := hcb w ((ks.take i).map fun k => (k, getT m k)) k (getT m k) w1 e.val hmN hI1 (by simp only [List.length_map, List.length_take]; omega) hm1 hk32 (getT_len hmv k) hv
    simp only [RK.run, ev, updo, upd, show (43 : Nat) ≠ 50 by decide, show (43 : Nat) ≠ 49 by decide, show (43 : Nat) ≠ 48 by decide, show (43 : Nat) ≠ 47 by decide, show (43 : Nat) ≠ 46 by decide, show (43 : Nat) ≠ 45 by decide, show (43 : Nat) ≠ 44 by decide,
      show (44 : Nat) ≠ 50 by decide, show (44 : Nat) ≠ 49 by decide, show (44 : Nat) ≠ 48 by decide, show (44 : Nat) ≠ 47 by decide, show (44 : Nat) ≠ 46 by decide, show (44 : Nat) ≠ 45 by decide, if_false, if_true, List.map_cons, List.map_nil, List.nil_append]
    refine ⟨hbody, hc.mono ?_⟩
    rintro en w2 ⟨rfl, hI2, hm2⟩
    refine ⟨_, rfl, ?_⟩
    simp only [wpR, inBlockC, thenC]
    rw [wpC_blk]
    refine wpR_step (v := .int .i64 ((i + 1 : Nat) : Int)) (by
      simp only [RK.val?, ev, upd, show (39 : Nat) ≠ 51 by decide, show (39 : Nat) ≠ 50 by decide, show (39 : Nat) ≠ 49 by decide, show (39 : Nat) ≠ 48 by decide, show (39 : Nat) ≠ 47 by decide, show (39 : Nat) ≠ 46 by decide, show (39 : Nat) ≠ 45 by decide, show (39 : Nat) ≠ 44 by decide, show (39 : Nat) ≠ 43 by decide, show (39 : Nat) ≠ 7 by decide, show (39 : Nat) ≠ 42 by decide, show (39 : Nat) ≠ 41 by decide, show (39 : Nat) ≠ 40 by decide, if_false, s39, isShift, decide_true, Bool.or_true, if_true, intBin]
      have e1 : (i : Int) + 1 = ((i + 1 : Nat) : Int) := by omega
      rw [e1, i64_small (by omega) (by omega)]) ?_
    refine wpR_step (v := .int .i64 ((i + 1 : Nat) : Int)) (by simp only [RK.val?, ev, updo, upd, if_true]) ?_
    simp only [wpR]
    refine ⟨⟨i + 1, by omega, by simp [updo, upd, s0], by simp [updo, upd, s1], by simp [updo, upd, s37], by simp [updo, upd, s38], by simp only [updo, upd, if_true], ?_, hm2⟩, ?_⟩
    · rw [htk, List.map_append]; exact hI2
    · simp only [updo, upd, if_true, s39]; omega
  · rw [wpC_seq, wpC_cond_f (by simp only [ev, updo, upd, if_true, hlt, decide_false])]
    refine wpC_exit_out ?_
    refine hQ _ w1 ?_ hm1
    have : i = ks.length := by omega
    subst this
    simpa using hI1

theorem tEach_call {w : World} (hm : P.follows .mixedOrders = true) (h : liftF P (F tEach) = some (ir_tEach F)) (hsort : SortC P (F sortSlice) (F tEach1) (F tyU32s))
    {S : List Nat} {okv : Nat → Prop} {g : FuncId} {captured : List Value} {I : World → List (Nat × List UInt8) → World → Prop} (hcb : EachCB P w S okv g captured I) (hbody : hasBody P g = true)
    {B o : Nat} {v : Value} {m : List (Nat × List UInt8)} (hc : w.cell? ⟨B, o, none⟩ = some v) (hM : TagM okv w v m) (hlen : m.length ≤ 2147483647) (hmv : ∀ p ∈ m, p.2.length ≤ 2147483647) (hB : B ∉ S) (hr : ∀ r, v = .map (some r) → r ∉ S) (hSl : ∀ b ∈ S, b < w.heap.size) (hS : ∀ b ∈ S, ¬ okv b)
    (hI : ∀ wN, Mod [] w wN → I wN [] wN) :
    Calls P (F tEach) [.pointer (some ⟨B, o, none⟩), .func (.func g) #[] captured.toArray].toArray w fun e w' => e = .returned (.tuple #[]) ∧ ∃ wN, Mod [] w wN ∧ I wN (sortT m) w' ∧ Mod S wN w' := by
  unfold ir_tEach at h
  refine call_of h hm (by simp) ?_
  have a0 : args0 [.pointer (some ⟨B, o, none⟩), .func (.func g) #[] captured.toArray] 0 = .pointer (some ⟨B, o, none⟩) := rfl
  have a1 : args0 [.pointer (some ⟨B, o, none⟩), .func (.func g) #[] captured.toArray] 1 = .func (.func g) #[] captured.toArray := rfl
  generalize args0 [.pointer (some ⟨B, o, none⟩), .func (.func g) #[] captured.toArray] = σ0 at a0 a1 ⊢
  rw [wpC_seq, wpC_seq, wpC_blk]
  refine wpR_step (v := .pointer (some ⟨B, o, none⟩)) (congrArg some a0) ?_
  refine wpR_step (v := .pointer (some ⟨B, o, none⟩)) (by simp only [RK.val?, ev, updo, upd, if_true]) ?_
  refine wpR_step (v := .pointer (some ⟨B, o, none⟩)) (by simp only [RK.val?, ev, updo, upd, if_true, Addr.add_mk, Nat.add_zero]) ?_
  refine wpR_step (v := v) (by simp only [RK.val?, ev, updo, upd, if_true, hc]) ?_
  have hml : ∀ (σ : Sl) (x : Nat) (K : Value → World → Prop), σ x = v → K (.int .i64 m.length) w → (RK.mlen (.tmp x)).run P σ w K := by
    intro σ x K hx hK
    rcases hM with ⟨rfl, rfl⟩ | ⟨r, rfl, hM⟩
    · simp only [RK.run, ev, hx]; exact hK
    · obtain ⟨es, clock, he1, he2, -, -⟩ := hM.ex
      have hl := he2.len
      simp only [RK.run, ev, hx, he1]
      have : es.size = m.length := by simpa using hl
      rw [this]; exact hK
  refine wpR_run ?_
  refine hml _ 11 _ (by simp only [updo, upd, if_true]) ?_
  refine wpR_step (v := .bool (decide (m.length = 0))) (by
    simp only [RK.val?, ev, updo, upd, if_true, isShift, decide_true, Bool.or_true, intBin]
    congr 2
    by_cases hz : m.length = 0 <;> simp [hz]) ?_
  refine wpR_done ?_
  by_cases hz : m.length = 0
  · rw [wpC_cond_t (by simp only [ev, updo, upd, if_true, hz, decide_true])]
    have : m = [] := List.length_eq_zero_iff.1 hz
    subst this
    simp only [wpC, thenC, postC, rvals, List.mapM_nil, Option.pure_def, tup]
    exact ⟨trivial, w, Mod.refl _ _, hI w (Mod.refl _ _), Mod.refl _ _⟩
  rw [wpC_cond_f (by simp only [ev, updo, upd, if_true, hz, decide_false]), wpC_skip]
  simp only [thenC]
  obtain ⟨r, rfl, hMr⟩ : ∃ r, v = .map (some r) ∧ MapRep okv w r m := by
    rcases hM with ⟨-, rfl⟩ | h
    · simp at hz
    · exact h
  clear hM
  have hM := hMr
  clear hMr
  obtain ⟨es, clock, he1, he2, he3, he4⟩ := hM.ex
  have hesl : es.size = m.length := by have := he2.len; simpa using this
  have hBl : B < w.heap.size := World.block_lt_of_cell? w ⟨B, o, none⟩ hc
  have hrl := hM.lt
  rw [wpC_seq, wpC_blk]
  refine wpR_step (v := .pointer (some ⟨B, o, none⟩)) (by simp only [RK.val?, ev, updo, upd]; simp [a0]) ?_
  refine wpR_step (v := .pointer (some ⟨B, o, none⟩)) (by simp only [RK.val?, ev, updo, upd, if_true]) ?_
  refine wpR_step (v := .pointer (some ⟨B, o, none⟩)) (by simp only [RK.val?, ev, updo, upd, if_true, Addr.add_mk, Nat.add_zero]) ?_
  refine wpR_step (v := .map (some r)) (by simp only [RK.val?, ev, updo, upd, if_true, hc]) ?_
  refine wpR_run ?_
  refine hml _ 17 _ (by simp only [updo, upd, if_true]) ?_
  refine wpR_run ?_
  simp only [RK.run, ev, updo, upd, if_true]
  refine ⟨by omega, by omega, by omega, by omega, ?_⟩
  intro Tn
  simp only [Int.toNat_natCast, Int.toNat_zero]
  have bR := Blk.new w (zrep m.length [.int .u32 0]) Tn
  have m1 : Mod [] w (w.alloc (.cells (zrep m.length [.int .u32 0]).toArray Tn)) := Mod.alloc _ _ _
  have z1 : (w.alloc (.cells (zrep m.length [.int .u32 0]).toArray Tn)).heap.size = w.heap.size + 1 := by simp
  generalize w.alloc (.cells (zrep m.length [.int .u32 0]).toArray Tn) = w1 at bR m1 z1 ⊢
  refine wpR_run ?_
  intro Tn2
  have bS := Blk.new w1 [.slice none 0 0] Tn2
  obtain ⟨k1, k2, k3⟩ := new_put w1 [.slice none 0 0] [.slice (some ⟨w.heap.size, 0, none⟩) 0 m.length] Tn2 rfl (by simp [Value.oneCell'])
  have z2 : (w1.alloc (.cells [Value.slice none 0 0].toArray Tn2)).heap.size = w1.heap.size + 1 := by simp
  generalize w1.alloc (.cells [Value.slice none 0 0].toArray Tn2) = w2 at bS k1 k2 k3 z2 ⊢
  refine wpR_run ?_
  have ec : (Value.slice (some ⟨w.heap.size, 0, none⟩) 0 m.length).cells.toList = [.slice (some ⟨w.heap.size, 0, none⟩) 0 m.length] := rfl
  simp only [RK.run, ev, updo, upd, if_true, show (19 : Nat) ≠ 4 by decide, if_false, ec]
  refine ⟨rfl, k1, ?_⟩
  have z3 : (putCells w2 ⟨w1.heap.size, 0, none⟩ 0 [.slice (some ⟨w.heap.size, 0, none⟩) 0 m.length]).heap.size = w2.heap.size := size_putCells ..
  generalize putCells w2 ⟨w1.heap.size, 0, none⟩ 0 [.slice (some ⟨w.heap.size, 0, none⟩) 0 m.length] = w3 at k2 k3 z3 ⊢
  have m03 : Mod [] w w3 := m1.trans k3
  have bR3 := bR.mod k3 (by simp)
  refine wpR_done ?_
  rw [wpC_seq, wpC_seq, wpC_blk]
  have hc3 : w3.cell? ⟨B, o, none⟩ = some (.map (some r)) := cell_mod hc m03 (by simp)
  have he13 : w3.heap[r]? = some (.map es clock) := by rw [m03.block r hrl (by simp)]; exact he1
  refine wpR_step (v := .pointer (some ⟨B, o, none⟩)) (by simp only [RK.val?, ev, upd]; simp [a0]) ?_
  refine wpR_step (v := .pointer (some ⟨B, o, none⟩)) (by simp only [RK.val?, ev, updo, upd, if_true]) ?_
  refine wpR_step (v := .pointer (some ⟨B, o, none⟩)) (by simp only [RK.val?, ev, updo, upd, if_true, Addr.add_mk, Nat.add_zero]) ?_
  refine wpR_step (v := .map (some r)) (by simp only [RK.val?, ev, updo, upd, if_true, hc3]) ?_
  refine wpR_run ?_
  simp only [RK.run, ev, updo, upd, if_true, he13]
  refine wpR_done ?_
  have m4 : Mod [] w3 (w3.alloc (.mapIter (some r) clock #[] clock)) := Mod.alloc _ _ _
  have hit : (w3.alloc (.mapIter (some r) clock #[] clock)).heap[w3.heap.size]? = some (.mapIter (some r) clock #[] clock) := heap_alloc_new _ _
  have he14 : (w3.alloc (.mapIter (some r) clock #[] clock)).heap[r]? = some (.map es clock) := by rw [m4.block r (by have := m03.size; omega) (by simp)]; exact he13
  have bR4 := bR3.mod m4 (by simp)
  have bS4 := k2.mod m4 (by simp)
  generalize w3.alloc (.mapIter (some r) clock #[] clock) = w4 at m4 hit he14 bR4 bS4 ⊢
  have hzl : (zrep m.length [Value.int .u32 0]).length = m.length := by simp [zrep]
  refine each_loop1 (w0 := w) (it := w3.heap.size) (Bs := w1.heap.size) (B := w.heap.size) (r := r) (n := m.length) (es := es) (clock := clock)
    ⟨by simp [upd], by simp [upd], he14, ⟨#[], hit, ⟨by simp, by simp, by simp⟩⟩, by simpa using bS4, ⟨_, by simpa using bR4, by simpa using hzl⟩, m03.trans m4, by omega, by omega, by omega, ⟨by have := m03.size; omega, by omega, by omega⟩, hesl.symm, m03.size, by omega, Nat.le_refl _⟩
    he2.keys he3 he4 fun σ5 w5 E a5 hK hperm => ?_
  have q0 : σ5 0 = .pointer (some ⟨B, o, none⟩) := by rw [a5 0 (by omega) (by omega)]; simp [upd, a0]
  have q1 : σ5 1 = .func (.func g) #[] captured.toArray := by rw [a5 1 (by omega) (by omega)]; simp [upd, a1]
  simp only [thenC]
  have hEl : E.length = m.length := by rw [hperm.length_eq]; simpa using hesl
  obtain ⟨rest, hrow, hrl2⟩ := hK.row
  have hr0 : rest = [] := List.length_eq_zero_iff.1 (by omega)
  subst hr0
  -- the keys as numbers
  have hEk : (E.map (·.key)).Perm ((m.map (·.1)).map u32v) := by rw [← he2.klist]; exact hperm.map _
  obtain ⟨ks, hks⟩ : ∃ ks : List Nat, E.map (·.key) = ks.map u32v := by
    refine ⟨(E.map (·.key)).map (fun v => match v with | .int _ n => n.toNat | _ => 0), ?_⟩
    rw [List.map_map]
    conv => lhs; rw [← List.map_id (E.map (·.key))]
    apply List.map_congr_left
    intro x hx
    have := hEk.mem_iff.1 hx
    obtain ⟨k, -, rfl⟩ := List.mem_map.1 this
    simp [u32v]
  rw [hks] at hEk
  have hkp : ks.Perm (m.map (·.1)) := map_perm_inj hEk
  have hkl : ks.length = m.length := by have := hkp.length_eq; simpa using this
  have hrow' : Blk w5 w.heap.size (ks.map u32v) := by rw [← hks]; simpa using hrow
  have hcell5 : Blk w5 w1.heap.size [.slice (some ⟨w.heap.size, 0, none⟩) ks.length ks.length] := by rw [hkl]; have := hK.cell; rwa [hEl] at this
  rw [wpC_seq, wpC_blk]
  refine wpR_step (v := .slice (some ⟨w.heap.size, 0, none⟩) ks.length ks.length) (by simp only [RK.val?, ev, hK.s4]; exact hcell5.cell 0) ?_
  refine wpR_step (v := .iface (F tyU32s) (.slice (some ⟨w.heap.size, 0, none⟩) ks.length ks.length)) (by simp only [RK.val?, ev, updo, upd, if_true]) ?_
  refine wpR_step (v := .func (.func (F tEach1)) #[] #[.pointer (some ⟨w1.heap.size, 0, none⟩)]) (by simp only [RK.val?, List.map_cons, List.map_nil, ev, updo, upd]; simp [hK.s4]) ?_
  refine wpR_call (vs := [.iface (F tyU32s) (.slice (some ⟨w.heap.size, 0, none⟩) ks.length ks.length), .func (.func (F tEach1)) #[] #[.pointer (some ⟨w1.heap.size, 0, none⟩)]]) (by simp only [List.map_cons, List.map_nil, ev, updo, upd]; simp)
    (hsort w5 w.heap.size w1.heap.size ks hrow' hcell5 (by omega) (by omega) (fun k hk => he2.lt32 k (hkp.mem_iff.1 hk))) ?_
  rintro e w6 ⟨rfl, ks', hp', hs', hrow6, m6⟩
  refine ⟨_, rfl, ?_⟩
  have hl' : ks'.length = ks.length := hp'.length_eq
  have m06 : Mod [] w w6 := Mod.drop (b := w.heap.size) (S := []) (hK.fr.nil.trans m6) (Nat.le_refl _)
  have hcell6 := hcell5.mod m6 (by simp; omega)
  refine wpR_done ?_
  rw [wpC_seq, wpC_blk]
  refine wpR_step (v := .slice (some ⟨w.heap.size, 0, none⟩) ks.length ks.length) (by
    simp only [RK.val?, ev, updo, upd, show (4 : Nat) ≠ 36 by decide, show (4 : Nat) ≠ 35 by decide, show (4 : Nat) ≠ 34 by decide, show (4 : Nat) ≠ 33 by decide, if_false, hK.s4]
    exact hcell6.cell 0) ?_
  refine wpR_step (v := .int .i64 ks.length) (by simp only [RK.val?, ev, updo, upd, if_true]) ?_
  refine wpR_step (v := .int .i64 0) rfl ?_
  refine wpR_done ?_
  have nS : ∀ {x}, w.heap.size ≤ x → x ∉ S := fun hx hs => by have := hSl _ hs; omega
  have hM2 : MapRep (fun b => okv b ∧ b < w.heap.size) w r m := hM.mod (Mod.refl [] _) (by simp) (by simp) fun b hb hx => ⟨hx, hb⟩
  refine each_loop2 (w0 := w) (wN := w6) (okv := okv) (I := I) hcb hbody (r := r) (m := m) (ks := ks') (R := w.heap.size) (by simp only [updo, upd]; simp [q0]) (by simp only [updo, upd]; simp [q1]) (by simp only [updo, upd]; simp [hl']) (by simp only [updo, upd]; simp [hl']) (by simp only [updo, upd]; simp) m06 rfl hrow6
    (cell_mod hc m06 (by simp)) (hM.mod m06 (by simp) (by simp) fun _ _ h => h) hB (hr r rfl) (nS (Nat.le_refl _)) hS hmv (fun k hk => hkp.mem_iff.1 (hp'.mem_iff.1 hk)) (by omega) (hI w6 m06) fun σ7 w7 hI7 hm7 => ?_
  simp only [postC, rvals, List.mapM_nil, Option.pure_def, tup]
  refine ⟨trivial, w6, m06, ?_, hm7⟩
  rw [← sortT_eq hM.keys (hp'.trans hkp) hs']; exact hI7

end
end Go.Msk

/-! impl.sorted on tags that are sorted: nothing turns. -/
namespace Go.Msk
open Go.RowKit
set_option maxRecDepth 100000

section
variable {P : Program} {F : Nat → Nat}

theorem wpR_offG {k : RK} {d : Option Nat} {a : Nat} {b : Bool} {r : List RI} {σ : Sl} {w : World} {Q : Sl → World → Prop} (hg : σ a = .bool (!b)) (h : wpR P r (updo σ d undef) w Q) : wpR P (⟨d, k, some (a, b)⟩ :: r) σ w Q := by
  have : gOk (some (a, b)) σ = false := by simp only [gOk, hg]; cases b <;> rfl
  simp only [wpR, RI.wp, this, Bool.false_eq_true, if_false]
  exact h

/-- Cells of pairs by places. -/
theorem SlC.pairAt {ok : Nat → Prop} {w : World} {v : Value} {n j : Nat} {css : List (List Value)} {a b : Value} (h : SlC ok w v n css.flatten) (hn : n = css.length) (hsz : ∀ c ∈ css, c.length = 2) (hj : css[j]? = some [a, b]) :
    ∃ p c, v = .slice (some p) n c ∧ j < n ∧ w.cell? ((p.add (j * 2)).add 0) = some a := by
  obtain ⟨base, cap, rfl, h2, h3, h4⟩ := h
  have hjl : j < css.length := by
    rcases Nat.lt_or_ge j css.length with h | h
    · exact h
    · rw [List.getElem?_eq_none h] at hj; simp at hj
  obtain ⟨p, rfl⟩ : ∃ p, base = some p := by
    cases base with
    | some p => exact ⟨p, rfl⟩
    | none => have := h3 rfl; omega
  obtain ⟨k1, k2, k3⟩ := h4 p rfl
  refine ⟨p, cap, rfl, by omega, ?_⟩
  have hfl : css.flatten[j * 2]? = some a := by
    have key : ∀ (l : List (List Value)) (j : Nat), (∀ c ∈ l, c.length = 2) → l[j]? = some [a, b] → l.flatten[j * 2]? = some a := by
      intro l
      induction l with
      | nil => intro j _ h; simp at h
      | cons x l ih =>
        intro j hs hj
        cases j with
        | zero => simp at hj; subst hj; rfl
        | succ j =>
          have hx := hs x List.mem_cons_self
          rw [List.flatten_cons, List.getElem?_append_right (by omega), hx, show (j + 1) * 2 - 2 = j * 2 by omega]
          exact ih j (fun c hc => hs c (List.mem_cons_of_mem _ hc)) (by simpa using hj)
    exact key css j hsz hj
  have := k3.2 (j * 2) a hfl
  rw [Addr.add_of k3.1, Addr.add_mk]
  simpa using this

/-- The keys of pairs. -/
structure Pairs (w : World) (ok : Nat → Prop) (v : Value) (ks : List Nat) (css : List (List Value)) : Prop where
  sl : SlC ok w v css.length css.flatten
  len : ks.length = css.length
  two : ∀ c ∈ css, c.length = 2
  key : ∀ (j k : Nat), ks[j]? = some k → ∃ x, css[j]? = some [u32v k, x]

theorem Pairs.mod {ok : Nat → Prop} {w w' : World} {v : Value} {ks : List Nat} {css : List (List Value)} (h : Pairs w ok v ks css) (hm : Mod [] w w') : Pairs w' ok v ks css :=
  ⟨h.sl.mod hm (by simp) fun _ _ h => h, h.len, h.two, h.key⟩

theorem pairwise_get {l : List Nat} (h : l.Pairwise (· ≤ ·)) {i j a b : Nat} (hi : l[i]? = some a) (hj : l[j]? = some b) (hij : i < j) : a ≤ b := by
  rw [List.pairwise_iff_getElem] at h
  obtain ⟨hi', rfl⟩ := List.getElem?_eq_some_iff.1 hi
  obtain ⟨hj', rfl⟩ := List.getElem?_eq_some_iff.1 hj
  exact h i j hi' hj' hij

/-- The test of the inner loop fails. -/
theorem sorted_test {w : World} {ok : Nat → Prop} {v : Value} {ks : List Nat} {css : List (List Value)} {i : Nat} {σ : Sl} {Q : Sl → World → Prop} (hp : Pairs w ok v ks css) (hs : ks.Pairwise (· ≤ ·)) (hi : i < ks.length) (hlen : ks.length ≤ 2147483647) (h0 : σ 0 = v) (h3 : σ 3 = .int .i64 i)
    (hQ : ∀ σ', (∀ j, j < 10 → σ' j = σ j) → σ' 25 = .bool false → Q σ' w) :
    wpR P [⟨some 10, .mv (.tmp 3), none⟩, ⟨some 11, .bin .gtr (.tmp 10) (.const (.int .i64 0)), none⟩, ⟨some 12, .mv (.tmp 11), none⟩, ⟨some 13, .mv (.tmp 0), some (12, true)⟩, ⟨some 14, .mv (.tmp 3), some (12, true)⟩, ⟨some 15, .iad (.tmp 13) (.tmp 14) 2, some (12, true)⟩,
      ⟨some 16, .fad (.tmp 15) 0, some (12, true)⟩, ⟨some 17, .ld (.tmp 16), some (12, true)⟩, ⟨some 18, .mv (.tmp 0), some (12, true)⟩, ⟨some 19, .mv (.tmp 3), some (12, true)⟩, ⟨some 20, .bin .sub (.tmp 19) (.const (.int .i64 1)), some (12, true)⟩,
      ⟨some 21, .iad (.tmp 18) (.tmp 20) 2, some (12, true)⟩, ⟨some 22, .fad (.tmp 21) 0, some (12, true)⟩, ⟨some 23, .ld (.tmp 22), some (12, true)⟩, ⟨some 24, .bin .lss (.tmp 17) (.tmp 23), some (12, true)⟩, ⟨some 25, .pick (.tmp 12) (.tmp 24) (.const (.bool false)), none⟩] σ w Q := by
  refine wpR_step (v := .int .i64 i) (congrArg some h3) ?_
  refine wpR_step (v := .bool (decide (0 < i))) (by
    simp only [RK.val?, ev, updo, upd, if_true, isShift, decide_true, Bool.or_true, intBin]
    congr 2; exact decide_eq_decide.2 (by omega)) ?_
  refine wpR_step (v := .bool (decide (0 < i))) (by simp only [RK.val?, ev, updo, upd, if_true]) ?_
  by_cases hi0 : 0 < i
  · obtain ⟨i', rfl⟩ : ∃ i', i = i' + 1 := ⟨i - 1, by omega⟩
    obtain ⟨a, ha⟩ : ∃ a, ks[i' + 1]? = some a := ⟨_, List.getElem?_eq_getElem hi⟩
    obtain ⟨b, hb⟩ : ∃ b, ks[i']? = some b := ⟨_, List.getElem?_eq_getElem (by omega)⟩
    have hle := pairwise_get hs hb ha (by omega)
    obtain ⟨xa, hxa⟩ := hp.key _ _ ha
    obtain ⟨xb, hxb⟩ := hp.key _ _ hb
    obtain ⟨p, c, rfl, hj1, c1⟩ := hp.sl.pairAt rfl hp.two hxa
    obtain ⟨p', c', hv', hj2, c2⟩ := hp.sl.pairAt rfl hp.two hxb
    simp only [Value.slice.injEq, Option.some.injEq] at hv'
    obtain ⟨rfl, -, rfl⟩ := hv'
    have g : ∀ (σ : Sl), σ 12 = .bool (decide (0 < i' + 1)) → σ 12 = .bool true := fun σ h => by rw [h]; simp
    have hl := hp.len
    refine wpR_stepG (v := .slice (some p) css.length c) (by simp [updo, upd]) (by simp only [RK.val?, ev, updo, upd]; simp [h0]) ?_
    refine wpR_stepG (v := .int .i64 ((i' + 1 : Nat) : Int)) (by simp [updo, upd]) (by simp only [RK.val?, ev, updo, upd]; simp [h3]) ?_
    refine wpR_stepG (v := .pointer (some (p.add ((i' + 1) * 2)))) (by simp [updo, upd]) (by
      simp only [RK.val?, ev, updo, upd, show (13 : Nat) ≠ 14 by decide, if_false, if_true]
      rw [if_pos (by omega)]; simp) ?_
    refine wpR_stepG (v := .pointer (some ((p.add ((i' + 1) * 2)).add 0))) (by simp [updo, upd]) (by simp only [RK.val?, ev, updo, upd, if_true]) ?_
    refine wpR_stepG (v := u32v a) (by simp [updo, upd]) (by simp only [RK.val?, ev, updo, upd, if_true, c1]) ?_
    refine wpR_stepG (v := .slice (some p) css.length c) (by simp [updo, upd]) (by simp only [RK.val?, ev, updo, upd]; simp [h0]) ?_
    refine wpR_stepG (v := .int .i64 ((i' + 1 : Nat) : Int)) (by simp [updo, upd]) (by simp only [RK.val?, ev, updo, upd]; simp [h3]) ?_
    refine wpR_stepG (v := .int .i64 (i' : Nat)) (by simp [updo, upd]) (by
      simp only [RK.val?, ev, updo, upd, if_true, isShift, decide_true, Bool.or_true, intBin]
      have e1 : ((i' + 1 : Nat) : Int) - 1 = (i' : Nat) := by omega
      rw [e1, i64_small (by omega) (by omega)]) ?_
    refine wpR_stepG (v := .pointer (some (p.add (i' * 2)))) (by simp [updo, upd]) (by
      simp only [RK.val?, ev, updo, upd, show (18 : Nat) ≠ 20 by decide, show (18 : Nat) ≠ 19 by decide, if_false, if_true]
      rw [if_pos (by omega)]; simp) ?_
    refine wpR_stepG (v := .pointer (some ((p.add (i' * 2)).add 0))) (by simp [updo, upd]) (by simp only [RK.val?, ev, updo, upd, if_true]) ?_
    refine wpR_stepG (v := u32v b) (by simp [updo, upd]) (by simp only [RK.val?, ev, updo, upd, if_true, c2]) ?_
    refine wpR_stepG (v := .bool false) (by simp [updo, upd]) (by
      simp only [RK.val?, ev, updo, upd, show (17 : Nat) ≠ 23 by decide, show (17 : Nat) ≠ 22 by decide, show (17 : Nat) ≠ 21 by decide, show (17 : Nat) ≠ 20 by decide, show (17 : Nat) ≠ 19 by decide, show (17 : Nat) ≠ 18 by decide, if_false, if_true, u32v, isShift, decide_true, Bool.or_true, intBin]
      congr 2; simp; omega) ?_
    refine wpR_step (v := .bool false) (by simp only [RK.val?, ev, updo, upd]; simp) ?_
    simp only [wpR]
    refine hQ _ (fun j hj => ?_) (by simp only [updo, upd, if_true])
    simp only [updo, upd, show j ≠ 25 by omega, show j ≠ 24 by omega, show j ≠ 23 by omega, show j ≠ 22 by omega, show j ≠ 21 by omega, show j ≠ 20 by omega, show j ≠ 19 by omega, show j ≠ 18 by omega, show j ≠ 17 by omega, show j ≠ 16 by omega, show j ≠ 15 by omega, show j ≠ 14 by omega, show j ≠ 13 by omega, show j ≠ 12 by omega, show j ≠ 11 by omega, show j ≠ 10 by omega, if_false]
  · have hd : decide (0 < i) = false := by simp; omega
    simp only [hd]
    refine wpR_offG (by simp [updo, upd]) ?_
    refine wpR_offG (by simp [updo, upd]) ?_
    refine wpR_offG (by simp [updo, upd]) ?_
    refine wpR_offG (by simp [updo, upd]) ?_
    refine wpR_offG (by simp [updo, upd]) ?_
    refine wpR_offG (by simp [updo, upd]) ?_
    refine wpR_offG (by simp [updo, upd]) ?_
    refine wpR_offG (by simp [updo, upd]) ?_
    refine wpR_offG (by simp [updo, upd]) ?_
    refine wpR_offG (by simp [updo, upd]) ?_
    refine wpR_offG (by simp [updo, upd]) ?_
    refine wpR_offG (by simp [updo, upd]) ?_
    refine wpR_step (v := .bool false) (by simp only [RK.val?, ev, updo, upd]; simp) ?_
    simp only [wpR]
    refine hQ _ (fun j hj => ?_) (by simp only [updo, upd, if_true])
    simp only [updo, upd, show j ≠ 25 by omega, show j ≠ 24 by omega, show j ≠ 23 by omega, show j ≠ 22 by omega, show j ≠ 21 by omega, show j ≠ 20 by omega, show j ≠ 19 by omega, show j ≠ 18 by omega, show j ≠ 17 by omega, show j ≠ 16 by omega, show j ≠ 15 by omega, show j ≠ 14 by omega, show j ≠ 13 by omega, show j ≠ 12 by omega, show j ≠ 11 by omega, show j ≠ 10 by omega, if_false]

theorem iSorted_call {w : World} (hm : P.follows .mixedOrders = true) (h : liftF P (F iSorted) = some (ir_iSorted F)) {ok : Nat → Prop} {v : Value} {ks : List Nat} {css : List (List Value)} (hp : Pairs w ok v ks css) (hs : ks.Pairwise (· ≤ ·)) (hlen : ks.length ≤ 2147483647) :
    Calls P (F iSorted) [v].toArray w fun e w' => e = .returned (.tuple #[]) ∧ Mod [] w w' := by
  unfold ir_iSorted at h
  refine call_of h hm (by simp) ?_
  have a0 : args0 [v] 0 = v := rfl
  generalize args0 [v] = σ0 at a0 ⊢
  obtain ⟨base, cap, hv, -⟩ := hp.sl
  have hl := hp.len
  rw [wpC_seq, wpC_blk]
  refine wpR_step (v := v) (congrArg some a0) ?_
  refine wpR_step (v := .int .i64 ks.length) (by simp only [RK.val?, ev, updo, upd, if_true, hv, hl]) ?_
  refine wpR_step (v := .int .i64 0) rfl ?_
  refine wpR_done ?_
  rw [wpC_block, wpC_loop]
  refine ⟨fun σ' w' => ∃ i : Nat, i ≤ ks.length ∧ σ' 0 = v ∧ σ' 5 = .int .i64 ks.length ∧ σ' 6 = .int .i64 i ∧ Mod [] w w', fun σ' _ => match σ' 6 with | .int _ i => ks.length - i.toNat | _ => 0,
    ⟨0, Nat.zero_le _, by simp [updo, upd, a0], by simp [updo, upd], by simp [updo, upd], Mod.refl _ _⟩, ?_⟩
  rintro σ1 w1 ⟨i, hi, s0, s5, s6, hm1⟩
  rw [wpC_seq, wpC_blk]
  refine wpR_step (v := .bool (decide (i < ks.length))) (by
    simp only [RK.val?, ev, s6, s5, isShift, decide_true, Bool.or_true, if_true, intBin]
    congr 2; exact decide_eq_decide.2 (by omega)) ?_
  refine wpR_done ?_
  by_cases hlt : i < ks.length
  · rw [wpC_seq, wpC_cond_t (by simp only [ev, updo, upd, if_true, hlt, decide_true]), wpC_skip]
    simp only [thenC]
    rw [wpC_seq, wpC_block, wpC_seq, wpC_blk]
    refine wpR_step (v := .int .i64 i) (by simp only [RK.val?, ev, updo, upd]; simp [s6]) ?_
    refine wpR_step (v := .int .i64 i) (by simp only [RK.val?, ev, updo, upd, if_true]) ?_
    refine wpR_done ?_
    rw [wpC_seq, wpC_blk]
    refine wpR_step (v := .int .i64 i) (by simp only [RK.val?, ev, updo, upd, if_true]) ?_
    refine wpR_step (v := .int .i64 i) (by simp only [RK.val?, ev, updo, upd, if_true]) ?_
    refine wpR_done ?_
    rw [wpC_block, wpC_loop]
    refine ⟨fun σ' w' => σ' 0 = v ∧ σ' 3 = .int .i64 i ∧ σ' 5 = .int .i64 ks.length ∧ σ' 6 = .int .i64 i ∧ Mod [] w w', fun _ _ => 0, ⟨by simp [updo, upd, s0], by simp [updo, upd], by simp [updo, upd, s5], by simp [updo, upd, s6], hm1⟩, ?_⟩
    rintro σ2 w2 ⟨t0, t3, t5, t6, hm2⟩
    rw [wpC_seq, wpC_seq]
    refine wpD_pure rfl ?_
    have hm2d : Mod [] w w2.drew := hm2.trans (Mod.drew _ _)
    simp only [List.map_cons, List.map_nil, List.append_nil]
    refine sorted_test (hp.mod hm2d) hs hlt hlen t0 t3 fun σ3 a3 f3 => ?_
    simp only [thenC]
    rw [wpC_cond_f (by simp only [ev, f3])]
    simp only [wpC, thenC, inBlockC, if_true]
    have u6 : σ3 6 = .int .i64 i := by rw [a3 6 (by omega)]; exact t6
    refine wpR_step (v := .int .i64 ((i + 1 : Nat) : Int)) (by
      simp only [RK.val?, ev, u6, isShift, decide_true, Bool.or_true, if_true, intBin]
      have e1 : (i : Int) + 1 = ((i + 1 : Nat) : Int) := by omega
      rw [e1, i64_small (by omega) (by omega)]) ?_
    refine wpR_step (v := .int .i64 ((i + 1 : Nat) : Int)) (by simp only [RK.val?, ev, updo, upd, if_true]) ?_
    simp only [wpR]
    refine ⟨⟨i + 1, by omega, by simp [updo, upd, a3, t0], by simp [updo, upd, a3, t5], by simp only [updo, upd, if_true], hm2d⟩, ?_⟩
    simp only [updo, upd, if_true, s6]; omega
  · rw [wpC_seq, wpC_cond_f (by simp only [ev, updo, upd, if_true, hlt, decide_false])]
    refine wpC_exit_out ?_
    simp only [postC, rvals, List.mapM_nil, Option.pure_def, tup]
    exact ⟨trivial, hm1⟩

end
end Go.Msk
