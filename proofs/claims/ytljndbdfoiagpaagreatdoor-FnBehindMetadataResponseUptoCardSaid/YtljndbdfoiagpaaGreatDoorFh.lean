/- A small language of resolved operations, and what the generic and the generated functions do in it (part 8). -/
import Derived.Test.YtljndbdfoiagpaaGreatDoorFg
import Derived.ProofKit
import Derived.LaidMore
import Derived.OpenShut
import Derived.Stop.Joined

namespace Go.Msk
open Go.RowKit
set_option maxRecDepth 100000
def putTag : List (Nat × List UInt8) → Nat → List UInt8 → List (Nat × List UInt8)
  | [], k, l => [(k, l)]
  | (k', l') :: m, k, l => if k = k' then (k, l) :: m else (k', l') :: putTag m k l
def rdTagsN : Nat → List (Nat × List UInt8) → RS → List (Nat × List UInt8) × RS
  | 0, m, s => (m, s)
  | n + 1, m, s => rdTagsN n (putTag m (rdUv s).1 ((rdSpan (rdUv (rdUv s).2).1 (rdUv (rdUv s).2).2).1.getD [])) (rdSpan (rdUv (rdUv s).2).1 (rdUv (rdUv s).2).2).2
def rdTags (s : RS) : List (Nat × List UInt8) × RS := rdTagsN (rdUv s).1 [] (rdUv s).2
theorem putTag_keys : ∀ (m : List (Nat × List UInt8)) (k : Nat) (l : List UInt8), (putTag m k l).map (·.1) = if k ∈ m.map (·.1) then m.map (·.1) else m.map (·.1) ++ [k]
  | [], k, l => by simp [putTag]
  | (k', l') :: m, k, l => by
    have ih := putTag_keys m k l
    simp only [putTag]
    by_cases h : k = k'
    · subst h; simp
    · rw [if_neg h]
      simp only [List.map_cons, ih, List.mem_cons, h, false_or]
      split <;> simp
theorem putTag_nodup {m : List (Nat × List UInt8)} {k : Nat} {l : List UInt8} (h : (m.map (·.1)).Nodup) : ((putTag m k l).map (·.1)).Nodup := by
  rw [putTag_keys]
  split
  · exact h
  · rename_i hk
    rw [List.nodup_append]
    refine ⟨h, by simp, fun a ha b hb => ?_⟩
    simp only [List.mem_singleton] at hb
    subst hb
    exact fun e => hk (e ▸ ha)
def putE : List MapEntry → Nat → Nat → Value → List MapEntry
  | [], c, k, v => [{ key := .int .u32 k, val := v, born := c }]
  | e :: r, c, k, v => if keyIs k e = true then { e with key := .int .u32 k, val := v } :: r else e :: putE r c k v
theorem putE_some (c k : Nat) (v : Value) : ∀ (l : List MapEntry) (i : Nat), l.findIdx? (keyIs k) = some i → l.modify i (fun e => { e with key := .int .u32 k, val := v }) = putE l c k v
  | [], i, h => by simp at h
  | e :: r, i, h => by
    rw [List.findIdx?_cons] at h
    simp only [putE]
    split at h
    · rename_i he
      simp only [Option.some.injEq] at h; subst h
      rw [if_pos he]; rfl
    · rename_i he
      rw [if_neg he]
      cases hr : r.findIdx? (keyIs k) with
      | none => simp [hr] at h
      | some j =>
        simp only [hr, Option.map_some, Option.some.injEq] at h
        subst h
        rw [List.modify_succ_cons, putE_some c k v r j hr]
theorem putE_none (c k : Nat) (v : Value) : ∀ (l : List MapEntry), l.findIdx? (keyIs k) = none → l ++ [{ key := .int .u32 k, val := v, born := c }] = putE l c k v
  | [], _ => rfl
  | e :: r, h => by
    rw [List.findIdx?_cons] at h
    split at h
    · simp at h
    · rename_i he
      simp only [Option.map_eq_none_iff] at h
      simp only [putE, if_neg he, List.cons_append, putE_none c k v r h]
theorem mapPut_list (es : Array MapEntry) (clock k : Nat) (v : Value) (hb : (es.toList.map (·.born)).Nodup) (hc : ∀ e ∈ es.toList, e.born < clock) :
    ∃ es' c', mapPut es clock .u32 k v = .map es' c' ∧ es'.toList = putE es.toList clock k v ∧ (es'.toList.map (·.born)).Nodup ∧ ∀ e ∈ es'.toList, e.born < c' := by
  unfold mapPut
  cases hf : es.toList.findIdx? (keyIs k) with
  | none =>
    refine ⟨_, _, rfl, ?_, ?_, ?_⟩
    · rw [Array.toList_push]; exact putE_none clock k v _ hf
    · rw [Array.toList_push, List.map_append, List.nodup_append]
      refine ⟨hb, by simp, fun a ha b hb' => ?_⟩
      simp only [List.map_cons, List.map_nil, List.mem_singleton] at hb'
      obtain ⟨e, he, rfl⟩ := List.mem_map.1 ha
      have := hc e he
      omega
    · intro e he
      rw [Array.toList_push, List.mem_append] at he
      rcases he with he | he
      · have := hc e he; omega
      · simp only [List.mem_singleton] at he; subst he; simp
  | some i =>
    have hm : (es.modify i fun e => { e with key := .int .u32 k, val := v }).toList = putE es.toList clock k v := by
      rw [Array.toList_modify]; exact putE_some clock k v _ i hf
    have hmap : (putE es.toList clock k v).map (·.born) = es.toList.map (·.born) := by
      rw [← putE_some clock k v _ i hf]
      apply List.ext_getElem?
      intro j
      simp only [List.getElem?_map, List.getElem?_modify]
      cases es.toList[j]? with
      | none => simp
      | some e => simp only [Option.map_some]; split <;> rfl
    refine ⟨_, _, rfl, hm, by rw [hm, hmap]; exact hb, fun e he => ?_⟩
    rw [hm] at he
    have : e.born ∈ (putE es.toList clock k v).map (·.born) := List.mem_map.2 ⟨e, he, rfl⟩
    rw [hmap] at this
    obtain ⟨e', he', h⟩ := List.mem_map.1 this
    rw [← h]; exact hc e' he'
theorem EntL.put {ok : Nat → Prop} {w : World} {c k : Nat} {v : Value} {l : List UInt8} (hk : k < 4294967296) (hv : SlC ok w v l.length (u8s l)) {es : List MapEntry} {m : List (Nat × List UInt8)} (h : EntL ok w es m) : EntL ok w (putE es c k v) (putTag m k l) := by
  induction h with
  | nil => exact .cons rfl hk hv .nil
  | @cons e k' l' es m h1 h2 h3 h4 ih =>
    have hki : keyIs k e = decide (k = k') := by
      unfold keyIs; rw [h1]
      by_cases hkk : k = k'
      · simp [hkk]
      · have : ¬ (k : Int) = k' := by omega
        simp [hkk, this]
    simp only [putE, putTag, hki, decide_eq_true_eq]
    split
    · exact .cons rfl hk hv h4
    · exact .cons h1 h2 h3 ih
theorem EntL.keys {ok : Nat → Prop} {w : World} {es : List MapEntry} {m : List (Nat × List UInt8)} (h : EntL ok w es m) : ∀ e ∈ es, ∃ a, e.key = .int .u32 a := by
  induction h with
  | nil => simp
  | cons h1 _ _ _ ih =>
    intro e he
    rcases List.mem_cons.1 he with rfl | he
    · exact ⟨_, h1⟩
    · exact ih e he
theorem Mod.putObj {w : World} {r : Nat} {o : Obj} {S : List Nat} (hr : r ∈ S) : Mod S w (Msk.putObj w r o) := by
  refine ⟨rfl, rfl, rfl, by simp [Msk.putObj], fun k hk hkS => ?_⟩
  simp only [Msk.putObj]
  exact Array.getElem?_setIfInBounds_ne (fun e => hkS (by rw [← e]; exact hr))
theorem putObj_get {w : World} {r : Nat} {o : Obj} (h : r < w.heap.size) : (putObj w r o).heap[r]? = some o := by
  simp [putObj, h]
def TagM (ok : Nat → Prop) (w : World) (v : Value) (m : List (Nat × List UInt8)) : Prop :=
  (v = .map none ∧ m = []) ∨ ∃ r, v = .map (some r) ∧ MapRep ok w r m
section
variable {P : Program} {F : Nat → Nat}
theorem tSet_call {w : World} (hm : P.follows .mixedOrders = true) (h : liftF P (F tSet) = some (ir_tSet F)) {tb k : Nat} {mv v : Value} {m : List (Nat × List UInt8)} {l : List UInt8} {ok : Nat → Prop} (hb : Blk w tb [mv]) (hM : TagM ok w mv m) (hk : k < 4294967296)
    (hv : SlC ok w v l.length (u8s l)) (htb : ¬ ok tb) (hr0 : ∀ r, mv = .map (some r) → ¬ ok r ∧ r ≠ tb) :
    Calls P (F tSet) [.pointer (some ⟨tb, 0, none⟩), .int .u32 k, v].toArray w fun e w' => e = .returned (.tuple #[]) ∧ ∃ r, Blk w' tb [.map (some r)] ∧ MapRep (fun b => ok b ∧ b < w.heap.size) w' r (putTag m k l) ∧ r ≠ tb ∧
      ((mv = .map (some r) ∧ Mod [tb, r] w w') ∨ (mv = .map none ∧ w.heap.size ≤ r ∧ Mod [tb] w w')) := by
  unfold ir_tSet at h
  refine call_of h hm (by simp) ?_
  have a0 : args0 [.pointer (some ⟨tb, 0, none⟩), .int .u32 k, v] 0 = .pointer (some ⟨tb, 0, none⟩) := rfl
  have a1 : args0 [.pointer (some ⟨tb, 0, none⟩), .int .u32 k, v] 1 = .int .u32 k := rfl
  have a2 : args0 [.pointer (some ⟨tb, 0, none⟩), .int .u32 k, v] 2 = v := rfl
  generalize args0 [.pointer (some ⟨tb, 0, none⟩), .int .u32 k, v] = σ0 at a0 a1 a2 ⊢
  have c0 : w.cell? ⟨tb, 0, none⟩ = some mv := hb.cell 0
  have htl := hb.lt
  -- what happens once there is a map
  have key : ∀ (σ : Sl) (w1 : World) (r : Nat), σ 0 = .pointer (some ⟨tb, 0, none⟩) → σ 1 = .int .u32 k → σ 2 = v → Blk w1 tb [.map (some r)] → MapRep (fun b => ok b ∧ b < w.heap.size) w1 r m → r ≠ tb → ¬ (ok r ∧ r < w.heap.size) → w.heap.size ≤ w1.heap.size → SlC (fun b => ok b ∧ b < w.heap.size) w1 v l.length (u8s l) →
      ((mv = .map (some r) ∧ w1 = w) ∨ (mv = .map none ∧ w.heap.size ≤ r ∧ Mod [tb] w w1)) →
      wpC P (.blk [⟨some 15, .mv (.tmp 0), none⟩, ⟨some 16, .nilc (.tmp 15), none⟩, ⟨some 17, .fad (.tmp 16) 0, none⟩, ⟨some 18, .ld (.tmp 17), none⟩, ⟨some 19, .mv (.tmp 1), none⟩, ⟨some 20, .mv (.tmp 2), none⟩, ⟨none, .mapup (.tmp 18) (.tmp 19) (.tmp 20), none⟩])
        (postC [] fun e w' => e = .returned (.tuple #[]) ∧ ∃ r, Blk w' tb [.map (some r)] ∧ MapRep (fun b => ok b ∧ b < w.heap.size) w' r (putTag m k l) ∧ r ≠ tb ∧
          ((mv = .map (some r) ∧ Mod [tb, r] w w') ∨ (mv = .map none ∧ w.heap.size ≤ r ∧ Mod [tb] w w'))) σ w1 := by
    intro σ w1 r s0 s1 s2 hb1 hM1 hrt hnr hsz hv1 hcase
    have c1 : w1.cell? ⟨tb, 0, none⟩ = some (.map (some r)) := hb1.cell 0
    have hrl := hM1.lt
    obtain ⟨es, clock, he1, he2, he3, he4⟩ := hM1.ex
    obtain ⟨es', c', p1, p2, p3, p4⟩ := mapPut_list es clock k v he3 he4
    rw [wpC_blk]
    refine wpR_step (v := .pointer (some ⟨tb, 0, none⟩)) (congrArg some s0) ?_
    refine wpR_step (v := .pointer (some ⟨tb, 0, none⟩)) (by simp only [RK.val?, ev, updo, upd, if_true]) ?_
    refine wpR_step (v := .pointer (some ⟨tb, 0, none⟩)) (by simp only [RK.val?, ev, updo, upd, if_true, Addr.add_mk]) ?_
    refine wpR_step (v := .map (some r)) (by simp only [RK.val?, ev, updo, upd, if_true, c1]) ?_
    refine wpR_step (v := .int .u32 k) (by simp only [RK.val?, ev, updo, upd]; simp [s1]) ?_
    refine wpR_step (v := v) (by simp only [RK.val?, ev, updo, upd]; simp [s2]) ?_
    refine wpR_run ?_
    simp only [RK.run, ev, updo, upd, show (18 : Nat) ≠ 20 by decide, show (18 : Nat) ≠ 19 by decide, show (19 : Nat) ≠ 20 by decide, if_false, if_true, he1]
    refine ⟨he2.keys, ?_⟩
    simp only [wpR, postC, rvals, List.mapM_nil, Option.pure_def, tup]
    refine ⟨trivial, r, ?_, ?_, hrt, ?_⟩
    · exact hb1.mod (Mod.putObj (S := [r]) (by simp)) (by simp; omega)
    · rw [p1]
      have hmd : Mod [r] w1 (putObj w1 r (.map es' c')) := Mod.putObj (by simp)
      refine ⟨⟨es', c', putObj_get hrl, ?_, p3, p4⟩, putTag_nodup hM1.keys⟩
      rw [p2]
      exact (he2.put hk hv1).mod hmd (fun b hb hx => by simp only [List.mem_singleton] at hb; subst hb; exact hnr hx) fun _ _ h => h
    · rcases hcase with ⟨h1, h2⟩ | ⟨h1, h2, h3⟩
      · refine .inl ⟨h1, ?_⟩
        rw [h2]; exact Mod.putObj (by simp)
      · refine .inr ⟨h1, h2, ?_⟩
        have hmd : Mod [r, tb] w1 (putObj w1 r (mapPut es clock .u32 k v)) := Mod.putObj (by simp)
        exact Mod.drop (b := r) (S := [tb]) ((h3.mono (by simp)).trans hmd) h2
  generalize postC [] _ = Q at key ⊢
  rw [wpC_seq, wpC_seq, wpC_blk]
  refine wpR_step (v := .pointer (some ⟨tb, 0, none⟩)) (congrArg some a0) ?_
  refine wpR_step (v := .pointer (some ⟨tb, 0, none⟩)) (by simp only [RK.val?, ev, updo, upd, if_true]) ?_
  refine wpR_step (v := .pointer (some ⟨tb, 0, none⟩)) (by simp only [RK.val?, ev, updo, upd, if_true, Addr.add_mk]) ?_
  refine wpR_step (v := mv) (by simp only [RK.val?, ev, updo, upd, if_true, c0]) ?_
  have hv2 : SlC (fun b => ok b ∧ b < w.heap.size) w v l.length (u8s l) := hv.mod (Mod.refl [] _) (by simp) fun b hb hx => ⟨hx, hb⟩
  rcases hM with ⟨rfl, rfl⟩ | ⟨r, rfl, hM⟩
  · refine wpR_step (v := .bool true) (by simp only [RK.val?, ev, updo, upd, if_true]; rfl) ?_
    refine wpR_done ?_
    rw [wpC_cond_t rfl, wpC_blk]
    refine wpR_step (v := .pointer (some ⟨tb, 0, none⟩)) (by simp only [RK.val?, ev, updo, upd]; simp [a0]) ?_
    refine wpR_run ?_
    simp only [RK.run]
    refine wpR_step (v := .pointer (some ⟨tb, 0, none⟩)) (by simp only [RK.val?, ev, updo, upd]; simp) ?_
    refine wpR_step (v := .pointer (some ⟨tb, 0, none⟩)) (by simp only [RK.val?, ev, updo, upd, if_true, Addr.add_mk]) ?_
    refine wpR_run ?_
    have hma : Mod [] w (w.alloc (.map #[] 0)) := Mod.alloc _ _ _
    have hsz : (w.alloc (.map #[] 0)).heap.size = w.heap.size + 1 := by simp
    have hget : (w.alloc (.map #[] 0)).heap[w.heap.size]? = some (.map #[] 0) := heap_alloc_new w _
    have hba := hb.mod hma (by simp)
    generalize w.alloc (.map #[] 0) = w1 at hma hsz hget hba ⊢
    simp only [RK.run, ev, updo, upd, if_true, show (12 : Nat) ≠ 14 by decide, show (12 : Nat) ≠ 13 by decide, if_false]
    have ec : (Value.map (some w.heap.size)).cells = #[.map (some w.heap.size)] := rfl
    rw [ec]
    have hput : Mod [tb] w1 (putCells w1 ⟨tb, 0, none⟩ 0 [.map (some w.heap.size)]) := Mod.put (by simp)
    have hp := hba.put (o := 0) (vs := [.map (some w.heap.size)]) (by simp)
    rw [splice_all (by rfl)] at hp
    refine ⟨rfl, stOk_one hba (by simp) rfl, ?_⟩
    refine wpR_done ?_
    generalize hσ : upd _ 14 _ = σ1
    have s0 : σ1 0 = .pointer (some ⟨tb, 0, none⟩) := by rw [← hσ]; simp [upd, a0]
    have s1 : σ1 1 = .int .u32 k := by rw [← hσ]; simp [upd, a1]
    have s2 : σ1 2 = v := by rw [← hσ]; simp [upd, a2]
    clear hσ
    refine key σ1 _ w.heap.size s0 s1 s2 hp ?_ (by omega) (fun h => by omega) (by rw [size_putCells]; omega) ?_ (.inr ⟨rfl, Nat.le_refl _, hma.nil.trans hput⟩)
    · refine ⟨⟨#[], 0, ?_, .nil, by simp, by simp⟩, by simp⟩
      rw [hput.block _ (by omega) (by simp; omega)]; exact hget
    · exact (hv2.mod hma (by simp) fun _ _ h => h).mod hput (fun b hb hx => by simp only [List.mem_singleton] at hb; subst hb; exact htb hx.1) fun _ _ h => h
  · refine wpR_step (v := .bool false) (by simp only [RK.val?, ev, updo, upd, if_true]; rfl) ?_
    refine wpR_done ?_
    rw [wpC_cond_f rfl, wpC_skip]
    simp only [thenC]
    obtain ⟨q1, q2⟩ := hr0 r rfl
    generalize hσ : updo _ (some 10) _ = σ1
    have s0 : σ1 0 = .pointer (some ⟨tb, 0, none⟩) := by rw [← hσ]; simp [updo, upd, a0]
    have s1 : σ1 1 = .int .u32 k := by rw [← hσ]; simp [updo, upd, a1]
    have s2 : σ1 2 = v := by rw [← hσ]; simp [updo, upd, a2]
    clear hσ
    refine key σ1 _ r s0 s1 s2 hb (hM.mod (Mod.refl [] _) (by simp) (by simp) fun b hb hx => ⟨hx, hb⟩) q2 (fun h => q1 h.1) (Nat.le_refl _) hv2 (.inl ⟨rfl, rfl⟩)
end
end Go.Msk

namespace Go.Msk
open Go.RowKit
set_option maxRecDepth 100000
def TagS (S : List Nat) (n0 : Nat) (w : World) (rb tb b2 : Nat) (mv : Value) (m : List (Nat × List UInt8)) (s : RS) : Prop :=
  (mv = .map none ∧ m = [] ∧ IsRd (b2 :: tb :: S) w rb s) ∨
  ∃ r, mv = .map (some r) ∧ n0 ≤ r ∧ r ≠ tb ∧ r ≠ b2 ∧ r ≠ rb ∧ MapRep (fun b => b ∉ rb :: r :: b2 :: tb :: S) w r m ∧ IsRd (r :: b2 :: tb :: S) w rb s
theorem TagS.rd {S : List Nat} {n0 : Nat} {w : World} {rb tb b2 : Nat} {mv : Value} {m : List (Nat × List UInt8)} {s : RS} (h : TagS S n0 w rb tb b2 mv m s) : ∃ S', (∀ x ∈ b2 :: tb :: S, x ∈ S') ∧ (∀ x ∈ S', x ∈ b2 :: tb :: S ∨ (n0 ≤ x ∧ x ≠ rb)) ∧ IsRd S' w rb s ∧
    (∀ (w' : World) (s' : RS), IsRd S' w' rb s' → Mod [rb] w w' → TagS S n0 w' rb tb b2 mv m s') ∧ (mv = .map none ∧ m = [] ∧ S' = b2 :: tb :: S ∨ ∃ r, mv = .map (some r) ∧ n0 ≤ r ∧ r ≠ tb ∧ r ≠ b2 ∧ r ≠ rb ∧ S' = r :: b2 :: tb :: S ∧ MapRep (fun b => b ∉ rb :: S') w r m) := by
  rcases h with ⟨h1, h2, h3⟩ | ⟨r, h1, h2, h3, h4, h5, h6, h7⟩
  · exact ⟨b2 :: tb :: S, fun _ h => h, fun _ h => .inl h, h3, fun w' s' hr hm => .inl ⟨h1, h2, hr⟩, .inl ⟨h1, h2, rfl⟩⟩
  · refine ⟨r :: b2 :: tb :: S, fun x h => List.mem_cons_of_mem _ h, fun x hx => ?_, h7, fun w' s' hr hm => .inr ⟨r, h1, h2, h3, h4, h5, h6.mod hm (by simpa using h5) (by simp) (fun _ _ h => h), hr⟩, .inr ⟨r, h1, h2, h3, h4, h5, rfl, h6⟩⟩
    rcases List.mem_cons.1 hx with rfl | hx
    · exact .inr ⟨h2, h5⟩
    · exact .inl hx
theorem OctX.slcN {O : List Nat} {w : World} {v : Value} {o : Option (List UInt8)} (h : OctX O w v o) : SlC (fun b => b ∉ O) w v (o.getD []).length (u8s (o.getD [])) := by
  obtain ⟨h1, h2⟩ := h
  cases o with
  | none => simp only [IsOct] at h1; subst h1; exact SlC.nil
  | some l =>
    obtain ⟨a, n, c, rfl, hb⟩ := h1
    refine ⟨some a, c, by rw [hb.hlen]; rfl, by have := hb.hcap; have := hb.hlen; simp only [Option.getD_some]; omega, fun h => by simp at h, fun a' e _ => ?_⟩
    simp only [Option.some.injEq] at e; subst e
    exact ⟨(h2 a n c rfl).1, (h2 a n c rfl).2, hb.hcells a rfl⟩
section
variable {P : Program} {F : Nat → Nat}
theorem tag_step {S : List Nat} (hm : P.follows .mixedOrders = true) (huv : liftF P (F rUvarint) = some (ir_rUvarint F)) (hk : liftF P (F kUvarint) = some (ir_kUvarint F)) (hsp : liftF P (F rSpan) = some (ir_rSpan F)) (hset : liftF P (F tSet) = some (ir_tSet F))
    {rb tb b2 : Nat} {mv : Value} {m : List (Nat × List UInt8)} {s : RS} {σ : Sl} {w w0 : World} {Q : Exit → Sl → World → Prop} (h0 : σ 0 = .pointer (some ⟨rb, 0, none⟩)) (h3 : σ 3 = .pointer (some ⟨tb, 0, none⟩))
    (hb : Blk w tb [mv]) (hb2 : Blk w b2 [.map none]) (hS : TagS S w0.heap.size w rb tb b2 mv m s) (hrt : rb ≠ tb) (hr2 : rb ≠ b2) (h2t : b2 ≠ tb) (hrS : rb ∉ S) (_hSl : ∀ x ∈ S, x < w0.heap.size) (htb : w0.heap.size ≤ tb) (hmw : Mod [rb] w0 w)
    (hQ : ∀ σ' w' mv', (∀ j, j < 5 → σ' j = σ j) → Blk w' tb [mv'] → Blk w' b2 [.map none] → Mod [rb] w0 w' →
      TagS S w0.heap.size w' rb tb b2 mv' (putTag m (rdUv s).1 ((rdSpan (rdUv (rdUv s).2).1 (rdUv (rdUv s).2).2).1.getD [])) (rdSpan (rdUv (rdUv s).2).1 (rdUv (rdUv s).2).2).2 → Q .normal σ' w') :
    wpC P (.seq (.blk [⟨some 13, .mv (.tmp 0), none⟩, ⟨some 14, .call (F rUvarint) [.tmp 13], none⟩, ⟨some 15, .mv (.tmp 0), none⟩, ⟨some 16, .call (F rUvarint) [.tmp 15], none⟩, ⟨some 5, .mv (.tmp 14), none⟩, ⟨some 6, .mv (.tmp 16), none⟩])
      (.blk [⟨some 17, .mv (.tmp 5), none⟩, ⟨some 18, .mv (.tmp 0), none⟩, ⟨some 19, .mv (.tmp 6), none⟩, ⟨some 20, .conv .i64 (.tmp 19), none⟩, ⟨some 21, .call (F rSpan) [.tmp 18, .tmp 20], none⟩, ⟨some 22, .call (F tSet) [.tmp 3, .tmp 17, .tmp 21], none⟩])) Q σ w := by
  obtain ⟨S', e1, e2, hr, hkeep, hcase⟩ := hS.rd
  have hrS' : rb ∉ S' := fun hx => by
    rcases e2 _ hx with hx | ⟨-, hx⟩
    · simp only [List.mem_cons] at hx
      rcases hx with hx | hx | hx
      · exact hr2 hx
      · exact hrt hx
      · exact hrS hx
    · exact hx rfl
  rw [wpC_seq, wpC_blk]
  refine wpR_step (v := .pointer (some ⟨rb, 0, none⟩)) (congrArg some h0) ?_
  refine wpR_call (vs := [.pointer (some ⟨rb, 0, none⟩)]) (by simp only [List.map_cons, List.map_nil, ev, updo, upd, if_true]) (rUvarint_call hm huv hk S' w rb s hr hrS') ?_
  rintro e w1 ⟨rfl, hr1, m1⟩
  refine ⟨_, rfl, ?_⟩
  refine wpR_step (v := .pointer (some ⟨rb, 0, none⟩)) (by simp only [RK.val?, ev, updo, upd]; simp [h0]) ?_
  refine wpR_call (vs := [.pointer (some ⟨rb, 0, none⟩)]) (by simp only [List.map_cons, List.map_nil, ev, updo, upd, if_true]) (rUvarint_call hm huv hk S' w1 rb _ hr1 hrS') ?_
  rintro e w2 ⟨rfl, hr2', m2⟩
  refine ⟨_, rfl, ?_⟩
  simp only at hr1 hr2' ⊢
  have hk1 := rdUv_lt s
  have hk2 := rdUv_lt (rdUv s).2
  generalize rdUv s = q1 at *
  obtain ⟨k, s1⟩ := q1
  simp only at *
  generalize rdUv s1 = q2 at *
  obtain ⟨z, s2⟩ := q2
  simp only at *
  refine wpR_step (v := .int .u32 k) (by simp only [RK.val?, ev, updo, upd]; simp) ?_
  refine wpR_step (v := .int .u32 z) (by simp only [RK.val?, ev, updo, upd]; simp) ?_
  refine wpR_done ?_
  generalize hσ : updo _ (some 6) _ = σ1
  have q0 : σ1 0 = .pointer (some ⟨rb, 0, none⟩) := by rw [← hσ]; simp [updo, upd, h0]
  have q3 : σ1 3 = .pointer (some ⟨tb, 0, none⟩) := by rw [← hσ]; simp [updo, upd, h3]
  have q5 : σ1 5 = .int .u32 k := by rw [← hσ]; simp [updo, upd]
  have q6 : σ1 6 = .int .u32 z := by rw [← hσ]; simp [updo, upd]
  have qa : ∀ j, j < 5 → σ1 j = σ j := fun j hj => by
    rw [← hσ]; simp only [updo, upd, show j ≠ 6 by omega, show j ≠ 5 by omega, show j ≠ 16 by omega, show j ≠ 15 by omega, show j ≠ 14 by omega, show j ≠ 13 by omega, if_false]
  clear hσ
  rw [wpC_blk]
  refine wpR_step (v := .int .u32 k) (congrArg some q5) ?_
  refine wpR_step (v := .pointer (some ⟨rb, 0, none⟩)) (by simp only [RK.val?, ev, updo, upd]; simp [q0]) ?_
  refine wpR_step (v := .int .u32 z) (by simp only [RK.val?, ev, updo, upd]; simp [q6]) ?_
  refine wpR_step (v := .int .i64 z) (by simp only [RK.val?, ev, updo, upd, if_true, i64_small (n := z) (by omega) (by omega)]) ?_
  refine wpR_call (vs := [.pointer (some ⟨rb, 0, none⟩), .int .i64 z]) (by simp only [List.map_cons, List.map_nil, ev, updo, upd]; simp) (rSpan_call hm hsp hr2' z) ?_
  rintro e w3 ⟨v, rfl, ho, hr3, m3⟩
  refine ⟨_, rfl, ?_⟩
  have m03 : Mod [rb] w w3 := (m1.trans m2).trans m3
  have hT3 := hkeep w3 _ hr3 m03
  have hb3 := hb.mod m03 (by simpa using hrt.symm)
  have hb23 := hb2.mod m03 (by simpa using hr2.symm)
  have hv := ho.slcN
  have ntb : tb ∈ S' := e1 _ (by simp)
  have nb2 : b2 ∈ S' := e1 _ (by simp)
  have hTM : TagM (fun b => b ∉ rb :: S') w3 mv m := by
    rcases hcase with ⟨c1, c2, -⟩ | ⟨r, c1, c2, c3, c4, c5, c6, c7⟩
    · exact .inl ⟨c1, c2⟩
    · exact .inr ⟨r, c1, c7.mod m03 (by simpa using c5) (by simp) fun _ _ h => h⟩
  refine wpR_call (vs := [.pointer (some ⟨tb, 0, none⟩), .int .u32 k, v]) (by simp only [List.map_cons, List.map_nil, ev, updo, upd]; simp [q3]) (tSet_call hm hset hb3 hTM hk1 hv (fun h => h (List.mem_cons_of_mem _ ntb)) (fun r hr => by
    rcases hcase with ⟨c1, -, -⟩ | ⟨r', c1, c2, c3, c4, c5, c6, c7⟩
    · rw [c1] at hr; simp at hr
    · rw [c1] at hr
      simp only [Value.map.injEq, Option.some.injEq] at hr; subst hr
      exact ⟨fun h => h (by rw [c6]; simp), c3⟩)) ?_
  rintro e w4 ⟨rfl, r, hb4, hM4, hrtb, hmod4⟩
  refine ⟨_, rfl, ?_⟩
  have hwl : w0.heap.size ≤ w3.heap.size := (hmw.trans m03).size
  have hb2l := hb23.lt
  have hb3l := hb3.lt
  have hrl := hr3.lt
  have hsub : ∀ {x}, x ∈ S → x ∈ S' := fun hx => e1 _ (by simp [hx])
  simp only [wpR]
  rcases hmod4 with ⟨c0, mm⟩ | ⟨c0, c1, mm⟩
  · -- the map was there
    rcases hcase with ⟨k1, -, -⟩ | ⟨r', k1, k2, k3, k4, k5, k6, k7⟩
    · rw [k1] at c0; simp at c0
    · rw [k1] at c0
      simp only [Value.map.injEq, Option.some.injEq] at c0; subst c0
      refine hQ _ w4 _ (fun j hj => ?_) hb4 (hb23.mod mm (by simp [h2t, k4.symm])) ?_ (.inr ⟨r', rfl, k2, k3, k4, k5, ?_, ?_⟩)
      · rw [← qa j hj]
        simp only [updo, upd, show j ≠ 22 by omega, show j ≠ 21 by omega, show j ≠ 20 by omega, show j ≠ 19 by omega, show j ≠ 18 by omega, show j ≠ 17 by omega, if_false]
      · refine Mod.drop (b := tb) (S := [rb]) ?_ htb
        refine Mod.drop (b := r') (S := [tb, rb]) ?_ k2
        exact ((hmw.trans m03).mono (by simp)).trans (mm.mono (by simp))
      · rw [← k6]
        exact hM4.mod (Mod.refl [] _) (by simp) (by simp) fun b _ hb => hb.1
      · rw [← k6]
        refine hr3.mod mm (by simp [hrt, k5.symm]) fun x hx => ?_
        simp only [List.mem_cons, List.not_mem_nil, or_false] at hx
        rcases hx with rfl | rfl
        · exact ntb
        · rw [k6]; simp
  · rcases hcase with ⟨k1, k2, k3⟩ | ⟨r', k1, -⟩
    · subst k3
      have hrr : r ≠ rb := by omega
      have hr2b : r ≠ b2 := by omega
      refine hQ _ w4 _ (fun j hj => ?_) hb4 (hb23.mod mm (by simpa using h2t)) ?_ (.inr ⟨r, rfl, by omega, hrtb, hr2b, hrr, ?_, ?_⟩)
      · rw [← qa j hj]
        simp only [updo, upd, show j ≠ 22 by omega, show j ≠ 21 by omega, show j ≠ 20 by omega, show j ≠ 19 by omega, show j ≠ 18 by omega, show j ≠ 17 by omega, if_false]
      · refine Mod.drop (b := tb) (S := [rb]) ?_ htb
        exact ((hmw.trans m03).mono (by simp)).trans (mm.mono (by simp))
      · refine hM4.mod (Mod.refl [] _) (by simp) (by simp) fun b _ hb => ?_
        simp only [List.mem_cons, not_or] at hb ⊢
        obtain ⟨⟨q1, q2, q3, q4⟩, q5⟩ := hb
        exact ⟨q1, by omega, q2, q3, q4⟩
      · have h5 : IsRd (b2 :: tb :: S) w4 rb _ := hr3.mod mm (by simpa using hrt) (by simp)
        obtain ⟨base, len, cap, p1, p2, p3, p4⟩ := h5.ex
        obtain ⟨base', len', cap', p1', p2', p3', p4'⟩ := hr3.ex
        refine ⟨⟨base, len, cap, p1, p2, p3, fun a ha => ⟨(p4 a ha).1, ?_, (p4 a ha).2.2⟩⟩, h5.short⟩
        -- the source's block is an old one
        have hsame : base' = base := by
          have x1 := p1.cell 0
          have x2 := (p1'.mod mm (by simpa using hrt)).cell 0
          rw [x1] at x2
          have x3 : base' = base ∧ len' = len ∧ cap' = cap := by simpa using x2.symm
          exact x3.1
        subst hsame
        have := (p4' a ha).2.2
        simp only [List.mem_cons, not_or]
        have q := (p4 a ha).2.1
        simp only [List.mem_cons, not_or] at q
        exact ⟨by omega, q.1, q.2.1, q.2.2⟩
    · rw [k1] at c0; simp at c0
theorem tRead_call (hm : P.follows .mixedOrders = true) (h : liftF P (F tRead) = some (ir_tRead F)) (huv : liftF P (F rUvarint) = some (ir_rUvarint F)) (hk : liftF P (F kUvarint) = some (ir_kUvarint F)) (hsp : liftF P (F rSpan) = some (ir_rSpan F)) (hset : liftF P (F tSet) = some (ir_tSet F)) :
    RdG P (F tRead) 1 fun s => (.tag (rdTags s).1, (rdTags s).2) := by
  intro S w rb s hr hrb hSl
  unfold ir_tRead at h
  refine call_of h hm (by simp) ?_
  have a0 : args0 [.pointer (some ⟨rb, 0, none⟩)] 0 = .pointer (some ⟨rb, 0, none⟩) := rfl
  generalize args0 [.pointer (some ⟨rb, 0, none⟩)] = σ0 at a0 ⊢
  have hrl := hr.lt
  rw [wpC_seq, wpC_blk]
  refine wpR_run ?_
  intro T2
  have b2 := Blk.new w [.map none] T2
  have m1 : Mod [] w (w.alloc (.cells [Value.map none].toArray T2)) := Mod.alloc _ _ _
  have z1 : (w.alloc (.cells [Value.map none].toArray T2)).heap.size = w.heap.size + 1 := by simp
  generalize w.alloc (.cells [Value.map none].toArray T2) = w1 at b2 m1 z1 ⊢
  refine wpR_done ?_
  rw [wpC_seq, wpC_blk]
  refine wpR_run ?_
  intro T3
  have b3 := Blk.new w1 [.map none] T3
  have m2 : Mod [] w1 (w1.alloc (.cells [Value.map none].toArray T3)) := Mod.alloc _ _ _
  have z2 : (w1.alloc (.cells [Value.map none].toArray T3)).heap.size = w1.heap.size + 1 := by simp
  generalize w1.alloc (.cells [Value.map none].toArray T3) = w2 at b3 m2 z2 ⊢
  refine wpR_done ?_
  have hrd2 : IsRd (w.heap.size :: w1.heap.size :: S) w2 rb s := hr.freshL (m1.trans m2) fun x hx => by
    simp only [List.mem_cons] at hx
    rcases hx with rfl | rfl | hx
    · exact .inr (Nat.le_refl _)
    · exact .inr (by omega)
    · exact .inl hx
  have n1 : rb ≠ w.heap.size := by omega
  have n2 : rb ≠ w1.heap.size := by omega
  rw [wpC_seq, wpC_seq, wpC_blk]
  refine wpR_step (v := .pointer (some ⟨rb, 0, none⟩)) (by simp only [RK.val?, ev, updo, upd]; simp [a0]) ?_
  refine wpR_call (vs := [.pointer (some ⟨rb, 0, none⟩)]) (by simp only [List.map_cons, List.map_nil, ev, updo, upd, if_true]) (rUvarint_call hm huv hk _ w2 rb s hrd2 (by simp [n1, n2, hrb])) ?_
  rintro e w3 ⟨rfl, hr3, m3⟩
  refine ⟨_, rfl, ?_⟩
  simp only at hr3 ⊢
  refine wpR_step (v := .int .u32 (rdUv s).1) (by simp only [RK.val?, ev, updo, upd, if_true]) ?_
  refine wpR_done ?_
  generalize hσ : updo _ (some 4) _ = σ1
  have q0 : σ1 0 = .pointer (some ⟨rb, 0, none⟩) := by rw [← hσ]; simp [updo, upd, a0]
  have q2 : σ1 2 = .pointer (some ⟨w.heap.size, 0, none⟩) := by rw [← hσ]; simp [updo, upd]
  have q3 : σ1 3 = .pointer (some ⟨w1.heap.size, 0, none⟩) := by rw [← hσ]; simp [updo, upd]
  have q4 : σ1 4 = .int .u32 (rdUv s).1 := by rw [← hσ]; simp [updo, upd]
  clear hσ
  have hk1 := rdUv_lt s
  have hres : rdTagsN (rdUv s).1 [] (rdUv s).2 = rdTags s := rfl
  rw [wpC_block, wpC_loop]
  -- behind the loop
  have hfin : ∀ (σ' : Sl) (w' : World) (mv : Value), σ' 2 = .pointer (some ⟨w.heap.size, 0, none⟩) → σ' 3 = .pointer (some ⟨w1.heap.size, 0, none⟩) → Blk w' w1.heap.size [mv] → Blk w' w.heap.size [.map none] → Mod [rb] w w' →
      TagS S w.heap.size w' rb w1.heap.size w.heap.size mv (rdTags s).1 (rdTags s).2 →
      wpC P (.seq (.blk [⟨some 23, .ldn (.tmp 3) 1, none⟩, ⟨none, .st (.tmp 2) 1 (.tmp 23), none⟩]) .ret) (postC [.cells 2 1] fun e w' => ∃ v, e = .returned v ∧ (v.cells.size = 1 ∧ Rep (rb :: S) w' (.tag (rdTags s).1) v.cells.toList) ∧ IsRd S w' rb (rdTags s).2 ∧ Mod [rb] w w') σ' w' := by
    intro σ' w' mv s2 s3 hb3 hb2 hm' hT
    have h1c : mv.oneCell' = true := by
      rcases hT with ⟨rfl, -⟩ | ⟨r, rfl, -⟩ <;> rfl
    rw [wpC_seq, wpC_blk]
    refine wpR_step (v := .agg #[mv]) (by simp only [RK.val?, ev, s3, cellsAt_of' hb3.cells (n := 1) rfl, Option.map_some]) ?_
    refine wpR_run ?_
    have ec : (Value.agg #[mv]).cells = #[mv] := rfl
    have hput : Mod [w.heap.size] w' (putCells w' ⟨w.heap.size, 0, none⟩ 0 [mv]) := Mod.put (by simp)
    have hp := hb2.put (o := 0) (vs := [mv]) (by simp)
    rw [splice_all (by rfl)] at hp
    simp only [RK.run, ev, updo, upd, if_true, show (2 : Nat) ≠ 23 by decide, if_false, s2, ec]
    refine ⟨rfl, stOk_one hb2 (by simp) h1c, ?_⟩
    refine wpR_done ?_
    simp only [wpC, postC, rvals, List.mapM_cons, List.mapM_nil, RV.val, upd, show (2 : Nat) ≠ 23 by decide, if_false, s2]
    rw [cellsAt_of' hp.cells (n := 1) rfl]
    simp only [Option.bind_eq_bind, Option.map_some, Option.bind_some, Option.pure_def, tup_one]
    have hmf : Mod [rb] w (putCells w' ⟨w.heap.size, 0, none⟩ 0 [mv]) := Mod.drop (b := w.heap.size) (S := [rb]) ((hm'.mono (by simp)).trans (hput.mono (by simp))) (Nat.le_refl _)
    refine ⟨_, rfl, ⟨rfl, ?_⟩, ?_, hmf⟩
    · show Rep (rb :: S) _ _ [mv]
      rcases hT with ⟨rfl, e2, -⟩ | ⟨r, rfl, k1, k2, k3, k4, k5, k6⟩
      · rw [e2]; exact .tag0
      · refine .tag1 (fun hx => ?_) ((k5.mod hput (by simpa using k3) (by simp) fun _ _ h => h).mod (Mod.refl [] _) (by simp) (by simp) fun b _ hb hx => hb (by
          rcases List.mem_cons.1 hx with rfl | hx
          · simp
          · simp [hx]))
        rcases List.mem_cons.1 hx with rfl | hx
        · exact k4 rfl
        · have := hSl _ hx; omega
    · rcases hT with ⟨-, -, k6⟩ | ⟨r, -, -, -, -, -, -, k6⟩
      · exact (k6.mod hput (by simpa using n1) (by simp)).weakL fun x hx => by simp [hx]
      · exact (k6.mod hput (by simpa using n1) (by simp)).weakL fun x hx => by simp [hx]
  refine ⟨fun σ' w' => ∃ n m s' mv, σ' 0 = .pointer (some ⟨rb, 0, none⟩) ∧ σ' 2 = .pointer (some ⟨w.heap.size, 0, none⟩) ∧ σ' 3 = .pointer (some ⟨w1.heap.size, 0, none⟩) ∧ σ' 4 = .int .u32 (n : Nat) ∧ n < 4294967296 ∧ Blk w' w1.heap.size [mv] ∧ Blk w' w.heap.size [.map none] ∧
      Mod [rb] w w' ∧ TagS S w.heap.size w' rb w1.heap.size w.heap.size mv m s' ∧ rdTagsN n m s' = rdTags s,
    fun σ' _ => match σ' 4 with | .int _ n => n.toNat | _ => 0, ⟨(rdUv s).1, [], (rdUv s).2, .map none, q0, q2, q3, q4, hk1, b3.mod m3 (by simpa using n2.symm), (b2.mod m2 (by simp)).mod m3 (by simpa using n1.symm), ((m1.trans m2).nil).trans m3, .inl ⟨rfl, rfl, hr3⟩, hres⟩, ?_⟩
  rintro σ w' ⟨n, m, s', mv, s0, s2, s3, s4, hn, hb, hb2, hmw, hT, hN⟩
  rw [wpC_seq, wpC_seq, wpC_blk]
  refine wpR_step (v := .int .u32 n) (congrArg some s4) ?_
  refine wpR_step (v := .bool (decide (0 < n))) (by
    simp only [RK.val?, ev, updo, upd, if_true, isShift, decide_true, Bool.or_true, intBin]
    congr 2; exact decide_eq_decide.2 (by omega)) ?_
  refine wpR_done ?_
  by_cases h0 : 0 < n
  · rw [wpC_cond_t (by simp only [ev, updo, upd, if_true, h0, decide_true]), wpC_skip]
    simp only [thenC]
    rw [wpC_seq, wpC_block]
    obtain ⟨n', rfl⟩ : ∃ n', n = n' + 1 := ⟨n - 1, by omega⟩
    refine tag_step (w0 := w) hm huv hk hsp hset (by simp [updo, upd, s0]) (by simp [updo, upd, s3]) hb hb2 hT n2 n1 (by omega) hrb hSl (by omega) hmw fun σ2 w4 mv' a2 hb4 hb24 hmw4 hT4 => ?_
    simp only [inBlockC, thenC]
    rw [wpC_blk]
    have t4 : σ2 4 = .int .u32 ((n' + 1 : Nat) : Int) := by rw [a2 4 (by omega)]; simp [updo, upd, s4]
    refine wpR_step (v := .int .u32 ((n' + 1 : Nat) : Int)) (congrArg some t4) ?_
    refine wpR_step (v := .int .u32 (n' : Nat)) (by
      simp only [RK.val?, ev, updo, upd, if_true, isShift, decide_true, Bool.or_true, intBin]
      have e1 : ((n' + 1 : Nat) : Int) - 1 = (n' : Nat) := by omega
      rw [e1, u32_nat (by omega)]) ?_
    refine wpR_step (v := .int .u32 (n' : Nat)) (by simp only [RK.val?, ev, updo, upd, if_true]) ?_
    simp only [wpR]
    refine ⟨⟨n', _, _, mv', ?_, ?_, ?_, rfl, by omega, hb4, hb24, hmw4, hT4, hN⟩, ?_⟩
    · simp only [updo, upd]; simp [a2 0 (by omega), s0, updo, upd]
    · simp only [updo, upd]; simp [a2 2 (by omega), s2, updo, upd]
    · simp only [updo, upd]; simp [a2 3 (by omega), s3, updo, upd]
    · simp only [updo, upd, if_true, s4]; omega
  · rw [wpC_cond_f (by simp only [ev, updo, upd, if_true, h0, decide_false])]
    have : n = 0 := by omega
    subst this
    simp only [rdTagsN] at hN
    rw [← hN] at hfin
    have hf := hfin (updo (updo σ (some 9) (.int .u32 ((0 : Nat) : Int))) (some 10) (.bool (decide (0 < 0)))) w' mv (by simp [updo, upd, s2]) (by simp [updo, upd, s3]) hb hb2 hmw hT
    rw [hN] at hf
    exact wpC_exit_out hf
end
end Go.Msk

namespace Go.Msk
open Go.RowKit
set_option maxRecDepth 100000
def decStd : Dec where
  len := fun x s => if x then rdCArrayLen s else rdArrayLen s
  prim := fun p x s => match p with
    | .bool => (.num (.bool (decide ((rdN 1 s).1 ≠ 0))), (rdN 1 s).2)
    | .i8 => (.num (.int .i8 (IntKind.i8.wrap (rdN 1 s).1)), (rdN 1 s).2)
    | .i16 => (.num (.int .i16 (IntKind.i16.wrap (rdN 2 s).1)), (rdN 2 s).2)
    | .u16 => (.num (.int .u16 (rdN 2 s).1), (rdN 2 s).2)
    | .i32 => (.num (.int .i32 (IntKind.i32.wrap (rdN 4 s).1)), (rdN 4 s).2)
    | .u32 => (.num (.int .u32 (rdN 4 s).1), (rdN 4 s).2)
    | .i64 => (.num (.int .i64 (IntKind.i64.wrap (rdN 8 s).1)), (rdN 8 s).2)
    | .uuid => (.arr (rdUuid s).1, (rdUuid s).2)
    | .str => if x then (.num (str (rdCString s).1), (rdCString s).2) else (.num (str (rdString s).1), (rdString s).2)
    | .nstr => if x then (.nstr (rdCNullableString s).1, (rdCNullableString s).2) else (.nstr (rdNullableString s).1, (rdNullableString s).2)
    | .byt => if x then (.byt (rdCBytes s).1, (rdCBytes s).2) else (.byt (rdBytes s).1, (rdBytes s).2)
    | .nbyt => if x then (.byt (rdCNullableBytes s).1, (rdCNullableBytes s).2) else (.byt (rdNullableBytes s).1, (rdNullableBytes s).2)
  tags := rdTags
structure Lib (P : Program) (F : Nat → Nat) (has : Nat → Bool) : Prop where
  mixed : P.follows .mixedOrders = true
  beUint16 : has Msk.beUint16 = true → liftF P (F Msk.beUint16) = some (ir_beUint16 F)
  beUint32 : has Msk.beUint32 = true → liftF P (F Msk.beUint32) = some (ir_beUint32 F)
  beUint64 : has Msk.beUint64 = true → liftF P (F Msk.beUint64) = some (ir_beUint64 F)
  kUvarint : has Msk.kUvarint = true → liftF P (F Msk.kUvarint) = some (ir_kUvarint F)
  kUnsafeString : has Msk.kUnsafeString = true → liftF P (F Msk.kUnsafeString) = some (ir_kUnsafeString F)
  rOk : has Msk.rOk = true → liftF P (F Msk.rOk) = some (ir_rOk F)
  rComplete : has Msk.rComplete = true → liftF P (F Msk.rComplete) = some (ir_rComplete F)
  rSpan : has Msk.rSpan = true → liftF P (F Msk.rSpan) = some (ir_rSpan F)
  rUvarint : has Msk.rUvarint = true → liftF P (F Msk.rUvarint) = some (ir_rUvarint F)
  rReadUint64 : has Msk.rReadUint64 = true → liftF P (F Msk.rReadUint64) = some (ir_rReadUint64 F)
  rBool : has Msk.rBool = true → liftF P (F Msk.rBool) = some (ir_rBool F)
  rInt8 : has Msk.rInt8 = true → liftF P (F Msk.rInt8) = some (ir_rInt8 F)
  rInt16 : has Msk.rInt16 = true → liftF P (F Msk.rInt16) = some (ir_rInt16 F)
  rUint16 : has Msk.rUint16 = true → liftF P (F Msk.rUint16) = some (ir_rUint16 F)
  rInt32 : has Msk.rInt32 = true → liftF P (F Msk.rInt32) = some (ir_rInt32 F)
  rInt64 : has Msk.rInt64 = true → liftF P (F Msk.rInt64) = some (ir_rInt64 F)
  rUuid : has Msk.rUuid = true → liftF P (F Msk.rUuid) = some (ir_rUuid F)
  rString : has Msk.rString = true → liftF P (F Msk.rString) = some (ir_rString F)
  rUnsafeString : has Msk.rUnsafeString = true → liftF P (F Msk.rUnsafeString) = some (ir_rUnsafeString F)
  rCompactString : has Msk.rCompactString = true → liftF P (F Msk.rCompactString) = some (ir_rCompactString F)
  rUnsafeCompactString : has Msk.rUnsafeCompactString = true → liftF P (F Msk.rUnsafeCompactString) = some (ir_rUnsafeCompactString F)
  rNullableString : has Msk.rNullableString = true → liftF P (F Msk.rNullableString) = some (ir_rNullableString F)
  rUnsafeNullableString : has Msk.rUnsafeNullableString = true → liftF P (F Msk.rUnsafeNullableString) = some (ir_rUnsafeNullableString F)
  rCompactNullableString : has Msk.rCompactNullableString = true → liftF P (F Msk.rCompactNullableString) = some (ir_rCompactNullableString F)
  rUnsafeCompactNullableString : has Msk.rUnsafeCompactNullableString = true → liftF P (F Msk.rUnsafeCompactNullableString) = some (ir_rUnsafeCompactNullableString F)
  rBytes : has Msk.rBytes = true → liftF P (F Msk.rBytes) = some (ir_rBytes F)
  rCompactBytes : has Msk.rCompactBytes = true → liftF P (F Msk.rCompactBytes) = some (ir_rCompactBytes F)
  rNullableBytes : has Msk.rNullableBytes = true → liftF P (F Msk.rNullableBytes) = some (ir_rNullableBytes F)
  rCompactNullableBytes : has Msk.rCompactNullableBytes = true → liftF P (F Msk.rCompactNullableBytes) = some (ir_rCompactNullableBytes F)
  rArrayLen : has Msk.rArrayLen = true → liftF P (F Msk.rArrayLen) = some (ir_rArrayLen F)
  rCompactArrayLen : has Msk.rCompactArrayLen = true → liftF P (F Msk.rCompactArrayLen) = some (ir_rCompactArrayLen F)
  tSet : has Msk.tSet = true → liftF P (F Msk.tSet) = some (ir_tSet F)
  tRead : has Msk.tRead = true → liftF P (F Msk.tRead) = some (ir_tRead F)
def hasAll (has : Nat → Bool) (l : List Nat) : Bool := l.all has
theorem hasAll_mem {has : Nat → Bool} {l : List Nat} (h : hasAll has l = true) : ∀ c ∈ l, has c = true := by
  unfold hasAll at h; rwa [List.all_eq_true] at h
def selOk (F : Nat → Nat) (has : Nat → Bool) (p : PK) (u x : Bool) (f : FuncId) : Bool :=
  let ok (c : Nat) (l : List Nat) : Bool := f == F c && hasAll has (c :: l)
  match p with
  | .bool => ok rBool []
  | .i8 => ok rInt8 []
  | .i16 => ok rInt16 [beUint16]
  | .u16 => ok rUint16 [beUint16]
  | .i32 => ok rInt32 [beUint32]
  | .u32 => false
  | .i64 => ok rInt64 [rReadUint64, beUint64]
  | .uuid => ok rUuid [rSpan]
  | .str => match u, x with
    | true, true => ok rUnsafeCompactString [rUvarint, kUvarint, rSpan, kUnsafeString]
    | true, false => ok rUnsafeString [rInt16, beUint16, rSpan, kUnsafeString]
    | false, true => ok rCompactString [rUvarint, kUvarint, rSpan]
    | false, false => ok rString [rInt16, beUint16, rSpan]
  | .nstr => match u, x with
    | true, true => ok rUnsafeCompactNullableString [rUvarint, kUvarint, rSpan, kUnsafeString]
    | true, false => ok rUnsafeNullableString [rInt16, beUint16, rSpan, kUnsafeString]
    | false, true => ok rCompactNullableString [rUvarint, kUvarint, rSpan]
    | false, false => ok rNullableString [rInt16, beUint16, rSpan]
  | .byt => if x then ok rCompactBytes [rUvarint, kUvarint, rSpan] else ok rBytes [rInt32, beUint32, rSpan]
  | .nbyt => if x then ok rCompactNullableBytes [rUvarint, kUvarint, rSpan] else ok rNullableBytes [rInt32, beUint32, rSpan]
def lenOk (F : Nat → Nat) (has : Nat → Bool) (x : Bool) (f : FuncId) : Bool :=
  if x then f == F rCompactArrayLen && hasAll has [rCompactArrayLen, rUvarint, kUvarint] else f == F rArrayLen && hasAll has [rArrayLen, rInt32, beUint32]
section
variable {P : Program} {F : Nat → Nat} {has : Nat → Bool} {f : FuncId}
theorem RdC.g {val : RS → Value × RS} (h : RdC P f val) (h1 : ∀ s, (val s).1.cells = #[(val s).1]) (h2 : ∀ s, (val s).1.oneCell' = true) : RdG P f 1 fun s => (.num (val s).1, (val s).2) :=
  fun S w rb s hr hrb _ => (h S w rb s hr hrb).mono fun e w' ⟨e1, e2, e3⟩ => ⟨_, e1, ⟨by rw [h1]; rfl, by rw [h1]; exact .num (h2 s)⟩, e2, e3⟩
theorem RdC.l {val : RS → Int × RS} (h : RdC P f fun s => (.int .i32 (val s).1, (val s).2)) : RdL P f val :=
  fun S w rb s hr hrb _ => (h S w rb s hr hrb).mono fun _e _w' ⟨e1, e2, e3⟩ => ⟨_, e1, rfl, e2, e3⟩
theorem OctX.cells {O : List Nat} {w : World} {v : Value} {o : Option (List UInt8)} (h : OctX O w v o) : v.cells = #[v] := by
  cases o with
  | none => have := h.1; simp only [IsOct] at this; subst this; rfl
  | some l => obtain ⟨a, n, c, rfl, -⟩ := h.1; rfl
theorem PStr.rep {O : List Nat} {n : Nat} {w : World} {v : Value} {o : Option (List UInt8)} (h : PStr n w v o) (hO : ∀ y ∈ O, y < n) : v.cells = #[v] ∧ Rep O w (.nstr o) [v] := by
  cases o with
  | none => simp only [PStr] at h; subst h; exact ⟨rfl, .nstr0⟩
  | some l =>
    obtain ⟨b, rfl, hb, hc⟩ := h
    exact ⟨rfl, .nstr1 (fun hx => by have := hO _ hx; omega) hc⟩
theorem i32_le (n : Int) : IntKind.i32.wrap n ≤ 2147483647 := by
  simp only [IntKind.wrap, IntKind.bits, IntKind.signed]; simp; split <;> omega
theorem rdCArrayLen_short (s : RS) : (rdCArrayLen s).1 ≤ (rdCArrayLen s).2.src.length ∧ (rdCArrayLen s).1 ≤ 2147483647 := by
  unfold rdCArrayLen; simp only
  split
  · simp
  · rename_i h; exact ⟨by simpa using h, i32_le _⟩
theorem decStd_short : decStd.Short := by
  intro x s
  simp only [decStd]
  split
  · exact rdCArrayLen_short s
  · simp only [rdArrayLen]
    split
    · simp
    · rename_i h; exact ⟨by simpa using h, i32_le _⟩
theorem byt_rd {dec : RS → Option (List UInt8) × RS} (h : ∀ (S : List Nat) (w : World) (rb : Nat) (s : RS), IsRd S w rb s → rb ∉ S → (∀ y ∈ S, y < w.heap.size) →
    Calls P f [.pointer (some ⟨rb, 0, none⟩)].toArray w fun e w' => ∃ v, e = .returned v ∧ OctX (rb :: S) w' v (dec s).1 ∧ IsRd S w' rb (dec s).2 ∧ Mod [rb] w w') : RdG P f 1 fun s => (.byt (dec s).1, (dec s).2) :=
  fun S w rb s hr hrb hS => (h S w rb s hr hrb hS).mono fun e w' ⟨v, e1, e2, e3, e4⟩ => ⟨v, e1, ⟨by rw [e2.cells]; rfl, by rw [e2.cells]; exact .byt e2⟩, e3, e4⟩
theorem nstr_rd {dec : RS → Option (List UInt8) × RS} (h : ∀ (S : List Nat) (w : World) (rb : Nat) (s : RS), IsRd S w rb s → rb ∉ S →
    Calls P f [.pointer (some ⟨rb, 0, none⟩)].toArray w fun e w' => ∃ v, e = .returned v ∧ PStr w.heap.size w' v (dec s).1 ∧ IsRd S w' rb (dec s).2 ∧ Mod [rb] w w') : RdG P f 1 fun s => (.nstr (dec s).1, (dec s).2) :=
  fun S w rb s hr hrb hS => (h S w rb s hr hrb).mono fun e w' ⟨v, e1, e2, e3, e4⟩ => by
    obtain ⟨k1, k2⟩ := e2.rep (O := rb :: S) (fun y hy => by
      rcases List.mem_cons.1 hy with rfl | hy
      · exact hr.lt
      · exact hS y hy)
    exact ⟨v, e1, ⟨by rw [k1]; rfl, by rw [k1]; exact k2⟩, e3, e4⟩
variable (L : Lib P F has)
include L
theorem ok_std (h : has rOk = true) : OkC P (F rOk) := fun _S _w _rb _s hr => rOk_call L.mixed (L.rOk h) hr
theorem cpl_std (h : has rComplete = true) : CplC P (F rComplete) (F gErr) := fun _S _w _rb _s _T _v hr hg => rComplete_call L.mixed (L.rComplete h) hr hg
theorem tags_std (h : hasAll has [tRead, rUvarint, kUvarint, rSpan, tSet] = true) : RdG P (F tRead) 1 fun s => (.tag (decStd.tags s).1, (decStd.tags s).2) := by
  have h := hasAll_mem h
  exact tRead_call L.mixed (L.tRead (h _ (by simp))) (L.rUvarint (h _ (by simp))) (L.kUvarint (h _ (by simp))) (L.rSpan (h _ (by simp))) (L.tSet (h _ (by simp)))
theorem len_std {x : Bool} (h : lenOk F has x f = true) : RdL P f (decStd.len x) := by
  unfold lenOk at h
  cases x with
  | true =>
    simp only [if_true, Bool.and_eq_true, beq_iff_eq] at h
    obtain ⟨rfl, h⟩ := h
    have h := hasAll_mem h
    exact (rCompactArrayLen_call L.mixed (L.rCompactArrayLen (h _ (by simp))) (L.rUvarint (h _ (by simp))) (L.kUvarint (h _ (by simp)))).l
  | false =>
    simp only [Bool.false_eq_true, if_false, Bool.and_eq_true, beq_iff_eq] at h
    obtain ⟨rfl, h⟩ := h
    have h := hasAll_mem h
    exact (rArrayLen_call L.mixed (L.rArrayLen (h _ (by simp))) (L.rInt32 (h _ (by simp))) (L.beUint32 (h _ (by simp)))).l
theorem sel_std {p : PK} {u x : Bool} (h : selOk F has p u x f = true) : RdG P f p.size (decStd.prim p x) := by
  have hm := L.mixed
  have spl : ∀ {c : Nat} {l : List Nat}, (f == F c && hasAll has (c :: l)) = true → f = F c ∧ ∀ y ∈ c :: l, has y = true := fun h => by
    simp only [Bool.and_eq_true, beq_iff_eq] at h
    exact ⟨h.1, hasAll_mem h.2⟩
  cases p with
  | bool => obtain ⟨rfl, q⟩ := spl h; exact (rBool_call hm (L.rBool (q _ (by simp)))).g (fun _ => rfl) fun _ => rfl
  | i8 => obtain ⟨rfl, q⟩ := spl h; exact (rInt8_call hm (L.rInt8 (q _ (by simp)))).g (fun _ => rfl) fun _ => rfl
  | i16 => obtain ⟨rfl, q⟩ := spl h; exact (rInt16_call hm (L.rInt16 (q _ (by simp))) (L.beUint16 (q _ (by simp)))).g (fun _ => rfl) fun _ => rfl
  | u16 => obtain ⟨rfl, q⟩ := spl h; exact (rUint16_call hm (L.rUint16 (q _ (by simp))) (L.beUint16 (q _ (by simp)))).g (fun _ => rfl) fun _ => rfl
  | i32 => obtain ⟨rfl, q⟩ := spl h; exact (rInt32_call hm (L.rInt32 (q _ (by simp))) (L.beUint32 (q _ (by simp)))).g (fun _ => rfl) fun _ => rfl
  | u32 => simp [selOk] at h
  | i64 => obtain ⟨rfl, q⟩ := spl h; exact (rInt64_call hm (L.rInt64 (q _ (by simp))) (L.rReadUint64 (q _ (by simp))) (L.beUint64 (q _ (by simp)))).g (fun _ => rfl) fun _ => rfl
  | uuid =>
    obtain ⟨rfl, q⟩ := spl h
    exact fun S w rb s hr hrb _ => (rUuid_call hm (L.rUuid (q _ (by simp))) (L.rSpan (q _ (by simp))) S w rb s hr hrb).mono fun e w' ⟨e1, e2, e3⟩ =>
      ⟨_, e1, ⟨by have := rdUuid_len s; simp [Value.cells, u8s, this, PK.size], .arr⟩, e2, e3⟩
  | str =>
    cases u with
    | true => cases x with
      | true => obtain ⟨rfl, q⟩ := spl h; exact (rUnsafeCompactString_call hm (L.rUnsafeCompactString (q _ (by simp))) (L.rUvarint (q _ (by simp))) (L.kUvarint (q _ (by simp))) (L.rSpan (q _ (by simp))) (L.kUnsafeString (q _ (by simp)))).g (fun _ => rfl) fun _ => rfl
      | false => obtain ⟨rfl, q⟩ := spl h; exact (rUnsafeString_call hm (L.rUnsafeString (q _ (by simp))) (L.rInt16 (q _ (by simp))) (L.beUint16 (q _ (by simp))) (L.rSpan (q _ (by simp))) (L.kUnsafeString (q _ (by simp)))).g (fun _ => rfl) fun _ => rfl
    | false => cases x with
      | true => obtain ⟨rfl, q⟩ := spl h; exact (rCompactString_call hm (L.rCompactString (q _ (by simp))) (L.rUvarint (q _ (by simp))) (L.kUvarint (q _ (by simp))) (L.rSpan (q _ (by simp)))).g (fun _ => rfl) fun _ => rfl
      | false => obtain ⟨rfl, q⟩ := spl h; exact (rString_call hm (L.rString (q _ (by simp))) (L.rInt16 (q _ (by simp))) (L.beUint16 (q _ (by simp))) (L.rSpan (q _ (by simp)))).g (fun _ => rfl) fun _ => rfl
  | nstr =>
    cases u with
    | true => cases x with
      | true => obtain ⟨rfl, q⟩ := spl h; exact nstr_rd fun S w rb s hr hrb => rUnsafeCompactNullableString_call hm (L.rUnsafeCompactNullableString (q _ (by simp))) (L.rUvarint (q _ (by simp))) (L.kUvarint (q _ (by simp))) (L.rSpan (q _ (by simp))) (L.kUnsafeString (q _ (by simp))) hr hrb
      | false => obtain ⟨rfl, q⟩ := spl h; exact nstr_rd fun S w rb s hr hrb => rUnsafeNullableString_call hm (L.rUnsafeNullableString (q _ (by simp))) (L.rInt16 (q _ (by simp))) (L.beUint16 (q _ (by simp))) (L.rSpan (q _ (by simp))) (L.kUnsafeString (q _ (by simp))) hr hrb
    | false => cases x with
      | true => obtain ⟨rfl, q⟩ := spl h; exact nstr_rd fun S w rb s hr hrb => rCompactNullableString_call hm (L.rCompactNullableString (q _ (by simp))) (L.rUvarint (q _ (by simp))) (L.kUvarint (q _ (by simp))) (L.rSpan (q _ (by simp))) hr hrb
      | false => obtain ⟨rfl, q⟩ := spl h; exact nstr_rd fun S w rb s hr hrb => rNullableString_call hm (L.rNullableString (q _ (by simp))) (L.rInt16 (q _ (by simp))) (L.beUint16 (q _ (by simp))) (L.rSpan (q _ (by simp))) hr hrb
  | byt =>
    cases x with
    | true => obtain ⟨rfl, q⟩ := spl h; exact byt_rd fun S w rb s hr hrb hS => rCompactBytes_call hm (L.rCompactBytes (q _ (by simp))) (L.rUvarint (q _ (by simp))) (L.kUvarint (q _ (by simp))) (L.rSpan (q _ (by simp))) hr hrb hS
    | false => obtain ⟨rfl, q⟩ := spl h; exact byt_rd fun S w rb s hr hrb hS => rBytes_call hm (L.rBytes (q _ (by simp))) (L.rInt32 (q _ (by simp))) (L.beUint32 (q _ (by simp))) (L.rSpan (q _ (by simp))) hr hrb hS
  | nbyt =>
    cases x with
    | true => obtain ⟨rfl, q⟩ := spl h; exact byt_rd fun S w rb s hr hrb _ => rCompactNullableBytes_call hm (L.rCompactNullableBytes (q _ (by simp))) (L.rUvarint (q _ (by simp))) (L.kUvarint (q _ (by simp))) (L.rSpan (q _ (by simp))) hr hrb
    | false => obtain ⟨rfl, q⟩ := spl h; exact byt_rd fun S w rb s hr hrb _ => rNullableBytes_call hm (L.rNullableBytes (q _ (by simp))) (L.rInt32 (q _ (by simp))) (L.beUint32 (q _ (by simp))) (L.rSpan (q _ (by simp))) hr hrb
end
end Go.Msk

namespace Go.Msk
open Go.RowKit
set_option maxRecDepth 100000
def dfL : List (Nat × Value) → Nat → List IC
  | [], _ => []
  | (off, v) :: r, t => .blk [⟨some t, .mv (.tmp 0), none⟩, ⟨some (t + 1), .nilc (.tmp t), none⟩, ⟨some (t + 2), .fad (.tmp (t + 1)) off, none⟩, ⟨none, .st (.tmp (t + 2)) 1 (.const v), none⟩] :: dfL r (t + 3)
def dfGen (l : List (Nat × Value)) : IC × List RV × Nat := (seqs (dfL l 2), [], 2 + 3 * l.length)
def dfRes : List (Nat × Value) → List Value → List Value
  | [], z => z
  | (off, v) :: r, z => dfRes r (z.set off v)
def dfOk (l : List (Nat × Value)) (n : Nat) : Prop := ∀ p ∈ l, p.1 < n ∧ p.2.cells = #[p.2] ∧ p.2.oneCell' = true
def dfOkB (l : List (Nat × Value)) (n : Nat) : Bool := l.all fun p => Nat.blt p.1 n && match p.2 with
  | .int .. | .bool _ | .string _ | .pointer _ => true
  | _ => false
theorem dfOk_of {l : List (Nat × Value)} {n : Nat} (h : dfOkB l n = true) : dfOk l n := by
  intro p hp
  unfold dfOkB at h
  rw [List.all_eq_true] at h
  have := h p hp
  simp only [Bool.and_eq_true] at this
  refine ⟨Nat.lt_of_succ_le (Nat.le_of_ble_eq_true this.1), ?_⟩
  have h2 := this.2
  cases hv : p.2 <;> rw [hv] at h2 <;> first | (simp at h2; done) | exact ⟨rfl, rfl⟩
section
variable {P : Program}
theorem set_splice1 (pre z post : List Value) (off : Nat) (v : Value) (h : off < z.length) : splice (pre ++ (z ++ post)) (pre.length + off) [v] = pre ++ (z.set off v ++ post) := by
  unfold splice
  rw [List.take_length_add_append, List.take_append_of_le_length (by omega)]
  have e : pre.length + off + [v].length = pre.length + (off + 1) := by simp; omega
  rw [e, List.drop_length_add_append, List.drop_append_of_le_length (by omega), List.set_eq_take_append_cons_drop, if_pos h]
  simp
theorem dfL_wp {B : Nat} {pre post : List Value} : ∀ (l : List (Nat × Value)) (t : Nat) (z : List Value) (σ : Sl) (w : World) (Q : Exit → Sl → World → Prop), 1 ≤ t → dfOk l z.length → σ 0 = .pointer (some ⟨B, pre.length, none⟩) →
    Blk w B (pre ++ (z ++ post)) → (∀ σ' w', Mod [B] w w' → Blk w' B (pre ++ (dfRes l z ++ post)) → Q .normal σ' w') → wpL P (dfL l t) Q σ w
  | [], t, z, σ, w, Q, ht, hok, h0, hb, hQ => hQ σ w (Mod.refl _ _) hb
  | (off, v) :: r, t, z, σ, w, Q, ht, hok, h0, hb, hQ => by
    obtain ⟨ho, hv, h1⟩ := hok (off, v) List.mem_cons_self
    simp only at ho hv h1
    simp only [dfL, wpL, wpC, wpR, RI.wp, gOk, if_true, RK.run, ev, updo]
    simp only [upd, if_true, h0, Addr.add_mk, hv]
    have hput : Mod [B] w (putCells w ⟨B, pre.length + off, none⟩ 0 [v]) := Mod.put (by simp)
    refine ⟨rfl, stOk_many hb (by simp; omega) (by simpa using h1), ?_⟩
    have hp := hb.put (o := pre.length + off) (vs := [v]) (by simp; omega)
    rw [set_splice1 _ _ _ _ _ ho] at hp
    simp only [thenC]
    refine dfL_wp r (t + 3) (z.set off v) _ _ Q (by omega) (fun p hp => by rw [List.length_set]; exact hok p (List.mem_cons_of_mem _ hp)) ?_ (by simpa using hp) fun σ' w' hm hb' => hQ σ' w' (hput.trans hm) hb'
    simp only [upd, show (0 : Nat) ≠ t by omega, show (0 : Nat) ≠ t + 1 by omega, show (0 : Nat) ≠ t + 2 by omega, if_false, h0]
theorem df_call (hm : P.follows .mixedOrders = true) {f : FuncId} {l : List (Nat × Value)} (h : liftF P f = some (dfGen l)) {z d : List Value} (hok : dfOk l z.length) (hd : dfRes l z = d) : DfC P f z d := by
  intro w B pre post hb
  refine call_of h hm (by simp; omega) ?_
  rw [wpC_seqs]
  refine dfL_wp l 2 z _ w _ (by omega) hok rfl hb fun σ' w' hm' hb' => ?_
  simp only [postC, rvals, List.mapM_nil, Option.pure_def, tup]
  exact ⟨trivial, hd ▸ hb', hm'⟩
end
end Go.Msk

namespace Go.Msk
open Go.RowKit
set_option maxRecDepth 100000
def Sc.okB (F : Nat → Nat) (has : Nat → Bool) (u x : Bool) : Sc → Bool
  | .nil => true
  | .prm _ _ r p d rest => selOk F has p u x (r.sel u x) && decide (p.size = d.size) && rest.okB F has u x
  | .enm _ _ r p d rest => selOk F has p u x (r.sel u x) && decide (p.size = d.size) && rest.okB F has u x
  | .lsp _ len bytes d _ r p rest => lenOk F has x (len.sel u x) && decide (bytes.b ≤ 32768) && selOk F has p u x (r.sel u x) && decide (p.size = d.size) && rest.okB F has u x
  | .lss _ len bytes z _ body rest => lenOk F has x (len.sel u x) && decide (bytes.b ≤ 32768) && decide (z.length = body.size) && body.okB F has u x && rest.okB F has u x
  | .sub _ _ body rest => body.okB F has u x && rest.okB F has u x
  | .tags f => !x || (f == F tRead && hasAll has [tRead, rUvarint, kUvarint, rSpan, tSet])
  | .uid _ f rest => selOk F has .uuid u x f && rest.okB F has u x
  | .vst _ _ r1 r2 rest => selOk F has .str u x (r1.sel u x) && selOk F has .nstr u x (r2.sel u x) && rest.okB F has u x
def Sc.dfs : Sc → List (FuncId × List Value × List Value)
  | .nil => []
  | .prm _ _ _ _ _ rest => rest.dfs
  | .enm _ _ _ _ _ rest => rest.dfs
  | .lsp _ _ _ _ _ _ _ rest => rest.dfs
  | .lss _ _ _ z dfl body rest => (dfl, z, body.dcs.flatten) :: (body.dfs ++ rest.dfs)
  | .sub _ dfl body rest => (dfl, body.dcs.flatten, body.dcs.flatten) :: (body.dfs ++ rest.dfs)
  | .tags _ => []
  | .uid _ _ rest => rest.dfs
  | .vst _ _ _ _ rest => rest.dfs
def DfsOk (P : Program) : List (FuncId × List Value × List Value) → Prop
  | [] => True
  | p :: l => DfC P p.1 p.2.1 p.2.2 ∧ DfsOk P l
theorem DfsOk.append {P : Program} {l l' : List (FuncId × List Value × List Value)} (h : DfsOk P (l ++ l')) : DfsOk P l ∧ DfsOk P l' := by
  induction l with
  | nil => exact ⟨trivial, h⟩
  | cons p l ih => exact ⟨⟨h.1, (ih h.2).1⟩, (ih h.2).2⟩
theorem Sc.ok_of {P : Program} {F : Nat → Nat} {has : Nat → Bool} (L : Lib P F has) {u x : Bool} : ∀ sc : Sc, sc.okB F has u x = true → DfsOk P sc.dfs → sc.Ok P decStd u x := by
  intro sc
  induction sc with
  | nil => intro _ _; trivial
  | prm vc i r p d rest ih =>
    intro h hd
    simp only [Sc.okB, Bool.and_eq_true, decide_eq_true_eq] at h
    exact ⟨sel_std L h.1.1, h.1.2, ih h.2 hd⟩
  | enm vc i r p d rest ih =>
    intro h hd
    simp only [Sc.okB, Bool.and_eq_true, decide_eq_true_eq] at h
    exact ⟨sel_std L h.1.1, h.1.2, ih h.2 hd⟩
  | lsp vc len b d i r p rest ih =>
    intro h hd
    simp only [Sc.okB, Bool.and_eq_true, decide_eq_true_eq] at h
    exact ⟨len_std L h.1.1.1.1, h.1.1.1.2, sel_std L h.1.1.2, h.1.2, ih h.2 hd⟩
  | lss vc len b z dfl body rest ihb ih =>
    intro h hd
    simp only [Sc.okB, Bool.and_eq_true, decide_eq_true_eq] at h
    obtain ⟨k1, k2⟩ := DfsOk.append hd.2
    exact ⟨len_std L h.1.1.1.1, h.1.1.1.2, h.1.1.2, hd.1, ihb h.1.2 k1, ih h.2 k2⟩
  | sub vc dfl body rest ihb ih =>
    intro h hd
    simp only [Sc.okB, Bool.and_eq_true] at h
    obtain ⟨k1, k2⟩ := DfsOk.append hd.2
    exact ⟨hd.1, ihb h.1 k1, ih h.2 k2⟩
  | vst vc V r1 r2 rest ih =>
    intro h hd
    simp only [Sc.okB, Bool.and_eq_true] at h
    exact ⟨sel_std L h.1.1, sel_std L h.1.2, fun s => by cases x <;> exact ⟨_, rfl⟩, ih h.2 hd⟩
  | uid vc f rest ih =>
    intro h hd
    simp only [Sc.okB, Bool.and_eq_true] at h
    exact ⟨sel_std L h.1, ih h.2 hd⟩
  | tags f =>
    intro h _ hx
    simp only [Sc.okB, hx, Bool.not_true, Bool.false_or, Bool.and_eq_true, beq_iff_eq] at h
    obtain ⟨rfl, h⟩ := h
    exact tags_std L h
def Top.okB (F : Nat → Nat) (has : Nat → Bool) (T : Top) : Bool :=
  (match T.rv with | none => true | some f => f == F rInt16 && hasAll has [rInt16, beUint16]) && (!T.sc.lists || (T.ok == F rOk && has rOk)) && (T.cpl == F rComplete && has rComplete) &&
  T.sc.okB F has true false && T.sc.okB F has false false && (T.flex.isNone || (T.sc.okB F has true true && T.sc.okB F has false true))
theorem Top.ok_of {P : Program} {F : Nat → Nat} {has : Nat → Bool} (L : Lib P F has) {T : Top} (h : T.okB F has = true) (hd : DfsOk P T.sc.dfs) {l : List (Nat × Value)} (hf : liftF P T.dfl = some (dfGen l)) (hl : dfOk l (T.sc.dcs.flatten.length + 1))
    (hr : ∀ ver, dfRes l (.int .i16 ver :: T.sc.dcs.flatten) = .int .i16 ver :: T.sc.dcs.flatten) (u : Bool) : T.Ok P decStd (F gErr) u := by
  unfold Top.okB at h
  simp only [Bool.and_eq_true, beq_iff_eq, Bool.or_eq_true] at h
  obtain ⟨⟨⟨⟨⟨h1, h2⟩, h3⟩, h4⟩, h5⟩, h6⟩ := h
  refine ⟨fun f hf => ?_, ?_, ?_, decStd_short, fun ver => df_call L.mixed hf (by simpa using hl) (hr ver), fun x hx => ?_⟩
  · rw [hf] at h1
    simp only [Bool.and_eq_true, beq_iff_eq] at h1
    obtain ⟨rfl, h1⟩ := h1
    have h1 := hasAll_mem h1
    exact rInt16_call L.mixed (L.rInt16 (h1 _ (by simp))) (L.beUint16 (h1 _ (by simp)))
  · intro hl2
    have h2 := h2.resolve_left (by simp [hl2])
    rw [h2.1]; exact ok_std L h2.2
  · rw [h3.1]; exact cpl_std L h3.2
  · refine Sc.ok_of L _ ?_ hd
    cases x with
    | false => cases u <;> assumption
    | true =>
      have : T.flex.isNone = false := by
        cases hfl : T.flex with
        | none => exact absurd (hx hfl) (by simp)
        | some n => rfl
      rw [this] at h6
      have h6 := h6.resolve_left (by simp)
      cases u
      · exact h6.2
      · exact h6.1
end Go.Msk

namespace Go.Msk
open Go.RowKit Go.ChangeShapes Go.WideShapes Go.ChangeAt
set_option maxRecDepth 100000
theorem Mod.keptBut {W W' : World} (h : Mod [] W W') (may : MemPlace → Prop) : W.keptBut W' may := by
  refine ⟨h.os, h.output, fun i hi => ?_⟩
  rw [h.block i hi (by simp)]
  cases W.heap[i]? with
  | none => rfl
  | some o => cases o <;> simp
theorem post_of_mod {H : Type} {enc : TypeId × Value → H} {P : Program} {f : Func} {s : ChangeSpec} {apart fresh handsOn : Bool} {W W' : World} {args : Array Value} {v : Value} {ds gs : List (DataW H)} {before pa pv : List MemPlace}
    (hW : DataW.Whole enc P f.params.toList s.vars apart W args.toList ds gs before)
    (hres : ∀ b : Nat, DataW.TrodAll enc P W' b (fun _ => false) handsOn f.resultTypes.toList (v.resultList f.resultTypes.size) (s.fn H (ds ++ gs)).results [])
    (hargs : DataW.TrodAll enc P W' 0 (fun b => decide (b < W.heap.size)) true f.params.toList args.toList (s.fn H (ds ++ gs)).args pa)
    (hvars : DataW.TrodVars enc P W' (fun b => decide (b < W.heap.size)) s.vars (s.fn H (ds ++ gs)).vars pv) (hm : Mod [] W W') : s.post enc P f apart fresh handsOn false W args v W' :=
  ⟨ds, gs, before, [], pa, pv, hW, hres _, hargs, hvars, hm.keptBut _, fun h => by simp at h⟩
theorem u8_of {n : Int} (h : (Lit.int .u8 n).wf = true) : 0 ≤ n ∧ n < 256 := by
  simp only [Lit.wf, Bool.and_eq_true, decide_eq_true_eq] at h
  have h1 : IntKind.u8.min = 0 := by rfl
  have h2 : IntKind.u8.max = 255 := by rfl
  omega
section
variable {H : Type} {enc : TypeId × Value → H} {P : Program} {W : World}
theorem open_octets {base : Nat} {t e : TypeId} {v : Value} {d : DataW H} {p : List MemPlace} (ht : P.underlying t = some (.slice e)) (he : P.underlying e = some (.int .u8)) (hc : P.cellsOf e = 1) (hv : Value.okWide P W .any base t v)
    (h : DataW.Trod enc P W 0 (fun _ => true) true t v d p) :
    ∃ src : List UInt8, SlC (fun _ => True) W v src.length (u8s src) ∧ ∀ W', Mod [] W W' → DataW.Trod enc P W' 0 (fun b => decide (b < W.heap.size)) true t v d p := by
  have hv' := hv
  simp only [Value.okWide, ht, Cell.okWide, Cell.ok] at hv'
  obtain ⟨a0, len, cap, rfl⟩ := okWide_slice ht hv
  obtain ⟨fuel, hf⟩ := h
  rcases open_ints ht he hc hf with ⟨hcs, hx⟩ | ⟨a, len', cap', zs, hcs, _, hl, hm, hz, hx, hcell, hwz⟩
  · have e0 : Value.slice a0 len cap = .slice none 0 0 := by simpa [Value.cells] using hcs
    simp only [Value.slice.injEq] at e0
    obtain ⟨rfl, rfl, rfl⟩ := e0
    refine ⟨[], SlC.nil, fun W' _ => ⟨1, ?_⟩⟩
    simp only [Prod.mk.injEq] at hx
    obtain ⟨rfl, rfl⟩ := hx
    simp [DataW.trod, ht, Value.cells]
  · have e0 : Value.slice a0 len cap = .slice (some a) len' cap' := by simpa [Value.cells] using hcs
    simp only [Value.slice.injEq] at e0
    obtain ⟨rfl, rfl, rfl⟩ := e0
    simp only at hv'
    obtain ⟨-, -, -, hsp, row, cells, hsh, -⟩ := hv'
    have hlt : a.block < W.heap.size := by
      unfold World.shape? at hsh
      rcases Nat.lt_or_ge a.block W.heap.size with h | h
      · exact h
      · rw [Array.getElem?_eq_none h] at hsh; simp at hsh
    simp only [if_true] at hz
    have hadd : ∀ i, a.add i = ⟨a.block, a.off + i, none⟩ := Addr.add_of hsp
    have hb : ∀ n ∈ zs, 0 ≤ n ∧ n < 256 := fun n hn => u8_of (hwz n hn)
    have hlen : ((zs.take len).map fun n => UInt8.ofNat n.toNat).length = len := by simp; omega
    refine ⟨(zs.take len).map fun n => UInt8.ofNat n.toNat, ⟨some a, cap, by rw [hlen], by rw [hlen]; exact hl, fun h => by simp at h, fun a' ha _ => ?_⟩, fun W' hmod => ⟨2, ?_⟩⟩
    · simp only [Option.some.injEq] at ha; subst ha
      refine ⟨trivial, hlt, hsp, fun i v hi => ?_⟩
      have hi' : i < len := by
        have := (List.getElem?_eq_some_iff.1 hi).1
        rw [u8s_length, hlen] at this
        exact this
      have := hcell i (by omega)
      rw [hadd] at this
      rw [this]
      have hzi : zs[i]? = some zs[i] := List.getElem?_eq_getElem (by omega)
      have e1 : zs.getD i 0 = zs[i] := by rw [List.getD, hzi]; rfl
      rw [e1]
      have hn := hb zs[i] (List.getElem_mem (by omega))
      simp only [u8s, List.map_map, List.getElem?_map, List.getElem?_take, hi', if_true, hzi, Option.map_some, Function.comp, Option.some.injEq] at hi
      rw [← hi]
      congr 1
      generalize zs[i] = n at hn
      have : (UInt8.ofNat n.toNat).toNat = n.toNat := by simp; omega
      rw [Value.int.injEq]
      exact ⟨rfl, by rw [this]; omega⟩
    · simp only [Prod.mk.injEq] at hx
      obtain ⟨rfl, rfl⟩ := hx
      exact shut_ints 0 ht he hc (Nat.zero_le _) hl hm (by simp [hlt, hz]) (fun i hi => by
        have := hcell i hi
        exact cell_mod this hmod (by simp)) hwz
theorem gerr_of_laid {n : String} {g : Nat} {t : TypeId} {ms : Array (String × TypeId)} {tn : String} {d : DataW Unit} (hg : P.globalNamed n = some g) (ht : (P.globals[g]?).map (·.type) = some t) (hi : P.underlying t = some (.interface ms))
    (hl : laidMetH P [(n, .iface tn d)] W) (hh : ([(n, DataW.iface (H := Unit) tn d)].all fun x => x.2.handleName?.isNone) = true) : ∃ T v, GErr g W T v := by
  rw [MakeChecks.laidMetH_plain _ _ _ hh] at hl
  obtain ⟨ps, ⟨g0, t0, cs0, f0, p0, q0, hg0, ht0, hv0, hd0, -⟩, -, -⟩ := hl
  obtain rfl := Option.some.inj (hg.symm.trans hg0)
  obtain rfl := Option.some.inj (ht.symm.trans ht0)
  obtain ⟨_, u, v, hcs, -, -⟩ := iface_of_trod hi hd0
  refine ⟨u, v, ?_⟩
  have := World.var?_cell hg hv0 0
  rw [Array.eq_one_of_toList hcs] at this
  simpa [GErr] using this
end
end Go.Msk

namespace Go.Msk
open Go.RowKit
set_option maxRecDepth 100000
inductive TR where
  | mk (n : Int) (s : List UInt8) (null : Bool) (l : List TR) (u : List (Nat × List UInt8))
  deriving Inhabited
inductive RepU (ok : Nat → Prop) (w : World) : List (Nat × List UInt8) → List (List Value) → Prop
  | nil : RepU ok w [] []
  | cons {k : Nat} {b : List UInt8} {u : List (Nat × List UInt8)} {v : Value} {css : List (List Value)} : SlC ok w v b.length (u8s b) → RepU ok w u css → RepU ok w ((k, b) :: u) ([.int .u32 k, v] :: css)
mutual
inductive RepT (ok : Nat → Prop) (w : World) : TR → List Value → Prop
  | mk {n : Int} {s : List UInt8} {null : Bool} {l : List TR} {u : List (Nat × List UInt8)} {sv lv uv : Value} {css uss : List (List Value)} : SlC ok w sv s.length (u8s s) → SlC ok w lv l.length css.flatten → RepTL ok w l css →
      SlC ok w uv u.length uss.flatten → RepU ok w u uss → RepT ok w (.mk n s null l u) [.int .i64 n, sv, .bool null, lv, uv]
inductive RepTL (ok : Nat → Prop) (w : World) : List TR → List (List Value) → Prop
  | nil : RepTL ok w [] []
  | cons {t : TR} {l : List TR} {cs : List Value} {css : List (List Value)} : RepT ok w t cs → RepTL ok w l css → RepTL ok w (t :: l) (cs :: css)
end
theorem RepU.mod {ok ok' : Nat → Prop} {S : List Nat} {w w' : World} {u : List (Nat × List UInt8)} {css : List (List Value)} (h : RepU ok w u css) (hm : Mod S w w') (hS : ∀ b ∈ S, ¬ ok b) (ho : ∀ b, b < w.heap.size → ok b → ok' b) : RepU ok' w' u css := by
  induction h with
  | nil => exact .nil
  | cons h _ ih => exact .cons (h.mod hm hS ho) ih
theorem RepT.mod {ok ok' : Nat → Prop} {S : List Nat} {w w' : World} (hm : Mod S w w') (hS : ∀ b ∈ S, ¬ ok b) (ho : ∀ b, b < w.heap.size → ok b → ok' b) {t : TR} {cs : List Value} (h : RepT ok w t cs) : RepT ok' w' t cs := by
  refine RepT.rec (motive_1 := fun t cs _ => RepT ok' w' t cs) (motive_2 := fun l css _ => RepTL ok' w' l css) ?_ ?_ ?_ h
  · intro n s null l u sv lv uv css uss h1 h2 _ h4 h5 ih
    exact .mk (h1.mod hm hS ho) (h2.mod hm hS ho) ih (h4.mod hm hS ho) (h5.mod hm hS ho)
  · exact .nil
  · intro t l cs css _ _ ih1 ih2; exact .cons ih1 ih2
theorem RepTL.mod {ok ok' : Nat → Prop} {S : List Nat} {w w' : World} (hm : Mod S w w') (hS : ∀ b ∈ S, ¬ ok b) (ho : ∀ b, b < w.heap.size → ok b → ok' b) {l : List TR} {css : List (List Value)} (h : RepTL ok w l css) : RepTL ok' w' l css := by
  induction l generalizing css with
  | nil => cases h; exact .nil
  | cons t l ih => cases h with | cons h1 h2 => exact .cons (h1.mod hm hS ho) (ih h2)
theorem RepTL.length {ok : Nat → Prop} {w : World} {l : List TR} {css : List (List Value)} (h : RepTL ok w l css) : l.length = css.length := by
  induction l generalizing css with
  | nil => cases h; rfl
  | cons g l ih => cases h with | cons h1 h2 => simp [ih h2]
theorem RepT.five {ok : Nat → Prop} {w : World} {t : TR} {cs : List Value} (h : RepT ok w t cs) : cs.length = 5 := by cases h; rfl
theorem RepTL.five {ok : Nat → Prop} {w : World} {l : List TR} {css : List (List Value)} (h : RepTL ok w l css) : ∀ cs ∈ css, cs.length = 5 := by
  induction l generalizing css with
  | nil => cases h; simp
  | cons g l ih =>
    cases h with
    | cons h1 h2 =>
      intro cs hc
      rcases List.mem_cons.1 hc with rfl | hc
      · exact h1.five
      · exact ih h2 cs hc
theorem RepT.oneCell {ok : Nat → Prop} {w : World} {t : TR} {cs : List Value} (h : RepT ok w t cs) : ∀ v ∈ cs, v.oneCell' = true := by
  cases h with
  | mk h1 h2 h3 h4 h5 =>
    intro v hv
    simp only [List.mem_cons, List.not_mem_nil, or_false] at hv
    rcases hv with rfl | rfl | rfl | rfl | rfl
    · rfl
    · exact h1.one
    · rfl
    · exact h2.one
    · exact h4.one
theorem Cells.app {w : World} {B o : Nat} {a b : List Value} (h : Cells w ⟨B, o, none⟩ (a ++ b)) : Cells w ⟨B, o, none⟩ a ∧ Cells w ⟨B, o + a.length, none⟩ b := by
  refine ⟨?_, ?_⟩
  · have := h.take a.length; rwa [List.take_left] at this
  · have := h.sub a.length; rwa [List.drop_left] at this
theorem Cells.each {w : World} {B o sz : Nat} {css : List (List Value)} (h : Cells w ⟨B, o, none⟩ css.flatten) (hs : ∀ c ∈ css, c.length = sz) {j : Nat} {c : List Value} (hj : css[j]? = some c) : Cells w ⟨B, o + j * sz, none⟩ c := by
  induction css generalizing j o with
  | nil => simp at hj
  | cons d css ih =>
    have hd := hs d (by simp)
    simp only [List.flatten_cons] at h
    obtain ⟨h1, h2⟩ := h.app
    cases j with
    | zero => simp at hj; subst hj; simpa using h1
    | succ j =>
      have := ih h2 (fun c hc => hs c (by simp [hc])) (by simpa using hj)
      rw [hd] at this
      rwa [show o + (j + 1) * sz = o + sz + j * sz by rw [Nat.add_mul, Nat.one_mul]; omega]
def TR.zero : TR := .mk 0 [] false [] []
def tzero : List Value := [.int .i64 0, .slice none 0 0, .bool false, .slice none 0 0, .slice none 0 0]
theorem RepT.num {ok : Nat → Prop} {w : World} (n : Int) (b : Bool) : RepT ok w (.mk n [] b [] []) [.int .i64 n, .slice none 0 0, .bool b, .slice none 0 0, .slice none 0 0] :=
  .mk (css := []) (uss := []) SlC.nil SlC.nil .nil SlC.nil .nil
theorem RepT.zero {ok : Nat → Prop} {w : World} : RepT ok w TR.zero tzero := .num 0 false
def insT (k : Nat) (l : List UInt8) : List (Nat × List UInt8) → List (Nat × List UInt8)
  | [] => [(k, l)]
  | (k', l') :: m => if k < k' then (k, l) :: (k', l') :: m else (k', l') :: insT k l m
def sortT : List (Nat × List UInt8) → List (Nat × List UInt8)
  | [] => []
  | (k, l) :: m => insT k l (sortT m)
end Go.Msk

namespace Go.Msk
open Go.RowKit
set_option maxRecDepth 100000
def nd (r : RI) : DI := ⟨r, false, []⟩
def headD (t off : Nat) : List DI :=
  [nd ⟨some t, .fad (.tmp 3) 3, none⟩, nd ⟨some (t + 1), .ld (.tmp t), none⟩, nd ⟨some (t + 2), .mv (.tmp 0), none⟩, nd ⟨some (t + 3), .nilc (.tmp (t + 2)), none⟩, nd ⟨some (t + 4), .fad (.tmp (t + 3)) off, none⟩, nd ⟨some (t + 5), .ld (.tmp (t + 4)), none⟩]
section
variable {P : Program}
end
end Go.Msk

namespace Go.Msk
open Go.RowKit
set_option maxRecDepth 100000
def own : Value → Option Nat
  | .slice (some a) _ _ => some a.block
  | _ => none
theorem splice_end {p r es : List Value} {o : Nat} (h : p.length = o) : splice (p ++ r) o es = p ++ (es ++ r.drop es.length) := by
  subst h
  unfold splice
  rw [List.take_left, List.drop_length_add_append]
theorem flat_snoc (css : List (List Value)) (es : List Value) : (css ++ [es]).flatten = css.flatten ++ es := by simp
section
variable {P : Program}
end
end Go.Msk

namespace Go.Msk
open Go.RowKit
set_option maxRecDepth 100000
def nullF (i t off : Nat) : IC :=
  .drw (headD t off ++ [nd ⟨some (t + 6), .isnil .sl false (.tmp (t + 5)), none⟩, nd ⟨some (t + 7), .iad (.tmp (t + 1)) (.const (.int .i64 i)) 5, none⟩, nd ⟨some (t + 8), .fad (.tmp (t + 7)) 2, none⟩])
    [⟨none, .st (.tmp (t + 8)) 1 (.tmp (t + 6)), none⟩]
section
variable {P : Program}
theorem _root_.Go.Msk.RepL.nth {O : List Nat} {w : World} {gs : List GV} {css : List (List Value)} (h : RepL O w gs css) {j : Nat} {g : GV} (hg : gs[j]? = some g) : ∃ cs, css[j]? = some cs ∧ Rep O w g cs := by
  induction gs generalizing css j with
  | nil => simp at hg
  | cons a l ih =>
    cases h with
    | cons h1 h2 =>
      cases j with
      | zero => simp only [List.getElem?_cons_zero, Option.some.injEq] at hg; subst hg; exact ⟨_, rfl, h1⟩
      | succ j => simp only [List.getElem?_cons_succ] at hg ⊢; exact ih h2 hg
theorem flat_cells {w : World} {a : Addr} {css : List (List Value)} {sz j : Nat} {cs : List Value} (h : Cells w a css.flatten) (hsz : ∀ c ∈ css, c.length = sz) (hj : css[j]? = some cs) : Cells w ⟨a.block, a.off + j * sz, none⟩ cs := by
  induction css generalizing a j with
  | nil => simp at hj
  | cons c css ih =>
    cases j with
    | zero =>
      simp only [List.getElem?_cons_zero, Option.some.injEq] at hj; subst hj
      have := h.take c.length
      simp only [List.flatten_cons, List.take_left] at this
      have hs := h.1
      cases a; simp only at hs; subst hs
      simpa using this
    | succ j =>
      simp only [List.getElem?_cons_succ] at hj
      have h1 := h.sub c.length
      simp only [List.flatten_cons, List.drop_left] at h1
      have h2 := ih h1 (fun d hd => hsz d (List.mem_cons_of_mem _ hd)) hj
      rw [hsz c List.mem_cons_self] at h2
      simp only at h2
      rw [show a.off + (j + 1) * sz = a.off + sz + j * sz by rw [Nat.succ_mul]; omega]
      exact h2
end
end Go.Msk

namespace Go.Msk
open Go.RowKit
def ir_sSame (_F : Nat → Nat) : IC × List RV × Nat := (.seq (.blk [⟨some 4, .mv (.const (.bool false)), none⟩])
 (.seq (.seq (.blk [⟨some 6, .mv (.tmp 0), none⟩,
 ⟨some 7, .len (.tmp 6), none⟩,
 ⟨some 8, .mv (.tmp 1), none⟩,
 ⟨some 9, .len (.tmp 8), none⟩,
 ⟨some 10, .bin .neq (.tmp 7) (.tmp 9), none⟩])
 (.cond (.tmp 10)
 (.seq (.blk [⟨some 4, .mv (.const (.bool false)), none⟩])
 (.ret))
 (.skip)))
 (.seq (.seq (.blk [⟨some 11, .mv (.tmp 0), none⟩,
 ⟨some 12, .len (.tmp 11), none⟩,
 ⟨some 13, .mv (.const (.int .i64 0)), none⟩])
 (.block 0 (.loop (.seq (.blk [⟨some 14, .bin .lss (.tmp 13) (.tmp 12), none⟩])
 (.seq (.cond (.tmp 14)
 (.skip)
 (.exit 0))
 (.seq (.block 1 (.seq (.blk [⟨some 15, .mv (.tmp 13), none⟩,
 ⟨some 5, .mv (.tmp 15), none⟩])
 (.seq (.drw [⟨⟨some 16, .mv (.tmp 0), none⟩, false, []⟩,
 ⟨⟨some 17, .mv (.tmp 5), none⟩, false, []⟩,
 ⟨⟨some 18, .iad (.tmp 16) (.tmp 17) 1, none⟩, false, []⟩,
 ⟨⟨some 19, .ld (.tmp 18), none⟩, false, []⟩,
 ⟨⟨some 20, .mv (.tmp 1), none⟩, false, []⟩,
 ⟨⟨some 21, .mv (.tmp 5), none⟩, false, []⟩,
 ⟨⟨some 22, .iad (.tmp 20) (.tmp 21) 1, none⟩, false, []⟩,
 ⟨⟨some 23, .ld (.tmp 22), none⟩, false, []⟩,
 ⟨⟨some 24, .bin .neq (.tmp 19) (.tmp 23), none⟩, false, []⟩]
 [])
 (.cond (.tmp 24)
 (.seq (.blk [⟨some 4, .mv (.const (.bool false)), none⟩])
 (.ret))
 (.skip)))))
 (.blk [⟨some 25, .bin .add (.tmp 13) (.const (.int .i64 1)), none⟩,
 ⟨some 13, .mv (.tmp 25), none⟩])))))))
 (.seq (.blk [⟨some 4, .mv (.const (.bool true)), none⟩])
 (.ret)))),
 [.tmp 4], 26)
def ir_lVersion (_F : Nat → Nat) : IC × List RV × Nat := (.seq (.blk [⟨some 4, .mv (.const (.int .i64 0)), none⟩])
 (.seq (.blk [⟨some 5, .mv (.tmp 0), none⟩,
 ⟨some 6, .conv .i64 (.tmp 5), none⟩,
 ⟨some 7, .mv (.tmp 1), none⟩,
 ⟨some 8, .bin .add (.tmp 7) (.const (.int .i64 1)), none⟩,
 ⟨some 9, .bin .rem (.tmp 6) (.tmp 8), none⟩,
 ⟨some 4, .mv (.tmp 9), none⟩])
 (.ret)),
 [.tmp 4], 10)
end Go.Msk

namespace Go.Msk
open Go.RowKit
set_option maxRecDepth 100000
section
variable {P : Program} {F : Nat → Nat}
attribute [local simp] bnd wpC wpR RI.wp gOk RK.run thenC inBlockC updo upd ev args0 postC rvals RV.val tup_one isShift
theorem version_call (hm : P.follows .mixedOrders = true) (h : liftF P (F lVersion) = some (ir_lVersion F)) {w : World} {n m : Int} (hn : 0 ≤ n ∧ n < 256) (hm0 : 0 ≤ m ∧ m < 32768) :
    Calls P (F lVersion) [.int .u8 n, .int .i64 m].toArray w fun e w' => e = .returned (.int .i64 (n % (m + 1))) ∧ w' = w := by
  refine call_of h hm (by simp) ?_
  have e1 : IntKind.i64.wrap n = n := by simp [IntKind.wrap, IntKind.bits, IntKind.signed]; omega
  have e2 : IntKind.i64.wrap (m + 1) = m + 1 := by simp [IntKind.wrap, IntKind.bits, IntKind.signed]; omega
  have e3 : IntKind.i64.wrap (n.tmod (m + 1)) = n % (m + 1) := by
    have h1 : n.tmod (m + 1) = n % (m + 1) := Int.tmod_eq_emod_of_nonneg hn.1
    have h2 : 0 ≤ n % (m + 1) := Int.emod_nonneg _ (by omega)
    have h3 : n % (m + 1) < m + 1 := Int.emod_lt_of_pos _ (by omega)
    rw [h1]
    simp only [IntKind.wrap, IntKind.bits, IntKind.signed]; simp; omega
  have e4 : n.tmod (m + 1) = n % (m + 1) := Int.tmod_eq_emod_of_nonneg hn.1
  have e0 : m + 1 ≠ 0 := by omega
  simp [e1, e2, intBin, e0, e4]
end
end Go.Msk

namespace Go.Msk
open Go.RowKit
set_option maxRecDepth 100000
theorem SlC.get {ok : Nat → Prop} {w : World} {v : Value} {l : List UInt8} (h : SlC ok w v l.length (u8s l)) {i : Nat} (hi : i < l.length) :
    ∃ a c b, v = .slice (some a) l.length c ∧ l[i]? = some b ∧ w.cell? (a.add (i * 1)) = some (.int .u8 b.toNat) := by
  obtain ⟨base, cap, rfl, h2, h3, h4⟩ := h
  cases base with
  | none => have := h3 rfl; omega
  | some a =>
    obtain ⟨-, -, hc⟩ := h4 a rfl (by omega)
    have hb : l[i]? = some l[i] := List.getElem?_eq_getElem hi
    exact ⟨a, cap, l[i], rfl, hb, by rw [Nat.mul_one]; exact hc.nth (by rw [u8s_get, hb]; rfl)⟩
theorem SlC.shape {ok : Nat → Prop} {w : World} {v : Value} {n : Nat} {cs : List Value} (h : SlC ok w v n cs) : ∃ b c, v = .slice b n c := by
  obtain ⟨base, cap, rfl, -⟩ := h; exact ⟨_, _, rfl⟩
theorem u8_ne (a b : UInt8) : ((a.toNat : Int) != b.toNat) = (a != b) := by
  by_cases h : a = b
  · subst h; simp
  · have h1 : (a != b) = true := by simpa using h
    have h2 : ((a.toNat : Int) != b.toNat) = true := by
      simp only [bne_iff_ne, ne_eq, Int.natCast_inj]
      exact fun e => h (UInt8.toNat_inj.1 e)
    rw [h1, h2]
section
variable {P : Program} {F : Nat → Nat}
attribute [local simp] bnd wpC wpR RI.wp gOk RK.run thenC inBlockC updo upd ev args0 postC rvals RV.val tup_one isShift
theorem same_call (hm : P.follows .mixedOrders = true) (h : liftF P (F sSame) = some (ir_sSame F)) {ok : Nat → Prop} {w : World} {v1 v2 : Value} {l1 l2 : List UInt8} (h1 : SlC ok w v1 l1.length (u8s l1)) (h2 : SlC ok w v2 l2.length (u8s l2))
    (hl : l1.length ≤ 4611686018427387904) : Calls P (F sSame) [v1, v2].toArray w fun e w' => e = .returned (.bool (decide (l1 = l2))) ∧ Mod [] w w' := by
  refine call_of h hm (by simp) ?_
  obtain ⟨b1, c1, e1⟩ := h1.shape
  obtain ⟨b2, c2, e2⟩ := h2.shape
  have a0 : args0 [v1, v2] 0 = v1 := rfl
  have a1 : args0 [v1, v2] 1 = v2 := rfl
  generalize args0 [v1, v2] = σ0 at a0 a1 ⊢
  rw [wpC_seq, wpC_blk]
  refine wpR_step (v := .bool false) (by simp [RK.val?]) ?_
  simp only [wpR, thenC]
  rw [wpC_seq, wpC_seq, wpC_blk]
  refine wpR_step (v := v1) (by simp [RK.val?, a0]) ?_
  refine wpR_step (v := .int .i64 l1.length) (by simp [RK.val?, e1]) ?_
  refine wpR_step (v := v2) (by simp [RK.val?, a1]) ?_
  refine wpR_step (v := .int .i64 l2.length) (by simp [RK.val?, e2]) ?_
  refine wpR_step (v := .bool ((l1.length : Int) != l2.length)) (by simp [RK.val?, intBin]) ?_
  simp only [wpR, thenC]
  by_cases hlen : l1.length = l2.length
  · have hb : ((l1.length : Int) != l2.length) = false := by simp [hlen]
    rw [wpC_cond_f (by simp [hb]), wpC_skip]
    simp only [thenC]
    rw [wpC_seq, wpC_seq, wpC_blk]
    refine wpR_step (v := v1) (by simp [RK.val?, a0]) ?_
    refine wpR_step (v := .int .i64 l1.length) (by simp [RK.val?, e1]) ?_
    refine wpR_step (v := .int .i64 0) (by simp [RK.val?]) ?_
    simp only [wpR, thenC]
    rw [wpC_block, wpC_loop]
    refine ⟨fun σ1 w1 => ∃ i, i ≤ l1.length ∧ σ1 13 = .int .i64 i ∧ σ1 12 = .int .i64 l1.length ∧ σ1 0 = v1 ∧ σ1 1 = v2 ∧ Mod [] w w1 ∧ ∀ k, k < i → l1[k]? = l2[k]?,
      fun σ1 _ => l1.length - (match σ1 13 with | .int _ j => j.toNat | _ => 0), ⟨0, Nat.zero_le _, by simp, by simp, by simp [a0], by simp [a1], Mod.refl _ _, by simp⟩, ?_⟩
    rintro σ1 w1 ⟨i, hi, h13, h12, hv1, hv2, hm1, hpre⟩
    rw [wpC_seq, wpC_blk]
    refine wpR_step (v := .bool (decide ((i : Int) < l1.length))) (by simp [RK.val?, h13, h12, intBin]) ?_
    simp only [wpR, thenC]
    rw [wpC_seq]
    by_cases hlt : i < l1.length
    · rw [wpC_cond_t (by simp [hlt]), wpC_skip]
      simp only [thenC]
      rw [wpC_seq, wpC_block, wpC_seq, wpC_blk]
      refine wpR_step (v := .int .i64 i) (by simp [RK.val?, h13]) ?_
      refine wpR_step (v := .int .i64 i) (by simp [RK.val?]) ?_
      simp only [wpR, thenC]
      have hm2 : Mod [] w w1.drew := hm1.trans (Mod.drew _ _)
      obtain ⟨p1, d1, x1, f1, f2, f3⟩ := (h1.mod (ok' := ok) hm2 (by simp) fun _ _ h => h).get hlt
      obtain ⟨p2, d2, x2, f4, f5, f6⟩ := (h2.mod (ok' := ok) hm2 (by simp) fun _ _ h => h).get (hlen ▸ hlt)
      rw [wpC_seq]
      show wpD P _ _ _ _ _
      refine wpD_pure rfl ?_
      simp only [List.map_cons, List.map_nil, List.append_nil]
      refine wpR_step (v := v1) (by simp [RK.val?, hv1]) ?_
      refine wpR_step (v := .int .i64 i) (by simp [RK.val?]) ?_
      refine wpR_step (v := .pointer (some (p1.add (i * 1)))) (by simp [RK.val?, f1, hlt]) ?_
      refine wpR_step (v := .int .u8 x1.toNat) (by simp [RK.val?]; simpa using f3) ?_
      refine wpR_step (v := v2) (by simp [RK.val?, hv2]) ?_
      refine wpR_step (v := .int .i64 i) (by simp [RK.val?]) ?_
      refine wpR_step (v := .pointer (some (p2.add (i * 1)))) (by simp [RK.val?, f4, ← hlen, hlt]) ?_
      refine wpR_step (v := .int .u8 x2.toNat) (by simp [RK.val?]; simpa using f6) ?_
      refine wpR_step (v := .bool (x1 != x2)) (by simp [RK.val?, intBin, u8_ne]) ?_
      simp only [wpR, thenC]
      by_cases hx : x1 = x2
      · subst hx
        rw [wpC_cond_f (by simp), wpC_skip]
        have hw : IntKind.i64.wrap ((i : Int) + 1) = ((i + 1 : Nat) : Int) := by
          simp only [IntKind.wrap, IntKind.bits, IntKind.signed]; simp; omega
        simp only [inBlockC, thenC]
        rw [wpC_blk]
        refine wpR_step (v := .int .i64 ((i + 1 : Nat) : Int)) (by simp [RK.val?, intBin, h13, hw]) ?_
        refine wpR_step (v := .int .i64 ((i + 1 : Nat) : Int)) (by simp [RK.val?]) ?_
        simp only [wpR, thenC]
        refine ⟨⟨i + 1, hlt, by simp, by simp [h12], by simp [hv1], by simp [hv2], hm2, fun k hk => ?_⟩, ?_⟩
        · rcases Nat.lt_or_ge k i with hk' | hk'
          · exact hpre k hk'
          · have : k = i := by omega
            subst this; rw [f2, f5]
        · simp [h13]; show l1.length - (i + 1) < l1.length - i; omega
      · rw [wpC_cond_t (by simp [hx]), wpC_seq, wpC_blk]
        refine wpR_step (v := .bool false) (by simp [RK.val?]) ?_
        have hne : l1 ≠ l2 := fun e => by subst e; rw [f2] at f5; simp at f5; exact hx f5
        simp [hne, hm2]
    · rw [wpC_cond_f (by simp; omega)]
      have hie : i = l1.length := by omega
      have heq : l1 = l2 := by
        apply List.ext_getElem? ; intro k
        rcases Nat.lt_or_ge k l1.length with hk | hk
        · exact hpre k (by omega)
        · rw [List.getElem?_eq_none hk, List.getElem?_eq_none (by omega)]
      simp [heq, hm1]
  · have hb : ((l1.length : Int) != l2.length) = true := by simp; omega
    rw [wpC_cond_t (by simp [hb]), wpC_seq, wpC_blk]
    refine wpR_step (v := .bool false) (by simp [RK.val?]) ?_
    have hne : l1 ≠ l2 := fun e => hlen (by rw [e])
    simp [hne, Mod.refl]
end
end Go.Msk

namespace Go.Msk
open Go.RowKit
set_option maxRecDepth 100000
structure LRaw2 (w : World) (n0 : Nat) (lv : Value) (css : List (List Value)) : Prop where
  two : ∀ cs ∈ css, cs.length = 2
  sl : (lv = .slice none 0 0 ∧ css = []) ∨ ∃ BA cap rest, lv = .slice (some ⟨BA, 0, none⟩) css.length cap ∧ css.length ≤ cap ∧ n0 ≤ BA ∧ Blk w BA (css.flatten ++ rest) ∧ rest.length = (cap - css.length) * 2
section
variable {P : Program} {F : Nat → Nat}
attribute [local simp] bnd wpC wpR RI.wp gOk RK.run thenC inBlockC updo upd ev args0 postC rvals RV.val tup_one isShift
theorem SlC.flat {ok : Nat → Prop} {w : World} {v : Value} {n sz j : Nat} {css : List (List Value)} {cs : List Value} (h : SlC ok w v n css.flatten) (hn : n = css.length) (hsz : ∀ c ∈ css, c.length = sz) (hj : css[j]? = some cs) :
    ∃ a c, v = .slice (some a) n c ∧ j < n ∧ cellsAt w (a.add (j * sz)) 0 sz = some cs := by
  have hjl : j < css.length := by
    rcases Nat.lt_or_ge j css.length with h | h
    · exact h
    · rw [List.getElem?_eq_none h] at hj; simp at hj
  obtain ⟨base, cap, rfl, h2, h3, h4⟩ := h
  cases base with
  | none => have := h3 rfl; omega
  | some a =>
    obtain ⟨-, -, hc⟩ := h4 a rfl (by omega)
    refine ⟨a, cap, rfl, by omega, ?_⟩
    have := flat_cells hc hsz hj
    rw [Addr.add_of hc.1]
    exact cellsAt_of' this (hsz _ (List.mem_of_getElem? hj))
theorem SlC.pair {ok : Nat → Prop} {w : World} {v : Value} {n j : Nat} {css : List (List Value)} {a b : Value} (h : SlC ok w v n css.flatten) (hn : n = css.length) (hsz : ∀ c ∈ css, c.length = 2) (hj : css[j]? = some [a, b]) :
    ∃ p c, v = .slice (some p) n c ∧ j < n ∧ w.cell? ((p.add (j * 2)).add 0) = some a ∧ w.cell? ((p.add (j * 2)).add 1) = some b := by
  have hjl : j < css.length := by
    rcases Nat.lt_or_ge j css.length with h | h
    · exact h
    · rw [List.getElem?_eq_none h] at hj; simp at hj
  obtain ⟨base, cap, rfl, h2, h3, h4⟩ := h
  cases base with
  | none => have := h3 rfl; omega
  | some p =>
    obtain ⟨-, -, hc⟩ := h4 p rfl (by omega)
    have hcl := flat_cells hc hsz hj
    refine ⟨p, cap, rfl, by omega, ?_, ?_⟩
    · rw [Addr.add_of hc.1]; exact hcl.nth (i := 0) rfl
    · rw [Addr.add_of hc.1]; exact hcl.nth (i := 1) rfl
theorem RepTL.nth {ok : Nat → Prop} {w : World} {l : List TR} {css : List (List Value)} (h : RepTL ok w l css) {j : Nat} {t : TR} (ht : l[j]? = some t) : ∃ cs, css[j]? = some cs ∧ RepT ok w t cs := by
  induction l generalizing css j with
  | nil => simp at ht
  | cons a l ih =>
    cases h with
    | cons h1 h2 =>
      cases j with
      | zero => simp only [List.getElem?_cons_zero, Option.some.injEq] at ht; subst ht; exact ⟨_, rfl, h1⟩
      | succ j => simp only [List.getElem?_cons_succ] at ht ⊢; exact ih h2 ht
end
end Go.Msk
