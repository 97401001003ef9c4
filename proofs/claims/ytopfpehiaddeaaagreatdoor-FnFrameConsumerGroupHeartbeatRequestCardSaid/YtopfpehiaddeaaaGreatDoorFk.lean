/- A small language of resolved operations, and what the generic and the generated functions do in it (part 11). -/
import Derived.Test.YtopfpehiaddeaaaGreatDoorFj

namespace Go.Msk
open Go.RowKit
set_option maxRecDepth 100000
def u32v (k : Nat) : Value := .int .u32 k
theorem putObj_size (w : World) (r : Nat) (o : Obj) : (putObj w r o).heap.size = w.heap.size := by simp [putObj]
theorem putObj_other {w : World} {r k : Nat} {o : Obj} (h : k ≠ r) : (putObj w r o).heap[k]? = w.heap[k]? := by
  simp only [putObj]; exact Array.getElem?_setIfInBounds_ne (fun e => h e.symm)
theorem nodup_of_map {α β : Type} {f : α → β} {l : List α} (h : (l.map f).Nodup) : l.Nodup :=
  List.Pairwise.of_map f (fun _ _ hab e => hab (congrArg f e)) h
structure SeenL (es : Array MapEntry) (seen : Array Nat) (E : List MapEntry) : Prop where
  sub : ∀ e ∈ E, e ∈ es.toList
  nd : (E.map (·.born)).Nodup
  all : seen.toList = E.map (·.born)
theorem SeenL.push {es : Array MapEntry} {seen : Array Nat} {E : List MapEntry} {e : MapEntry} (h : SeenL es seen E) (he : e ∈ (leftOf es seen).toList) : SeenL es (seen.push e.born) (E ++ [e]) := by
  obtain ⟨h1, h2⟩ := mem_left he
  refine ⟨fun x hx => ?_, ?_, by simp [h.all]⟩
  · rcases List.mem_append.1 hx with hx | hx
    · exact h.sub x hx
    · simp only [List.mem_singleton] at hx; subst hx; exact h1
  · rw [List.map_append, List.nodup_append]
    refine ⟨h.nd, by simp, fun a ha b hb => ?_⟩
    simp only [List.map_cons, List.map_nil, List.mem_singleton] at hb
    subst hb
    intro e'
    subst e'
    rw [← h.all] at ha
    have : seen.contains e.born = true := by simpa using ha
    rw [this] at h2; simp at h2
theorem SeenL.perm {es : Array MapEntry} {seen : Array Nat} {E : List MapEntry} (h : SeenL es seen E) (hb : (es.toList.map (·.born)).Nodup) (h0 : (leftOf es seen).size = 0) : E.Perm es.toList := by
  have hE : E.Nodup := nodup_of_map h.nd
  have hes : es.toList.Nodup := nodup_of_map hb
  refine (List.perm_ext_iff_of_nodup hE hes).2 fun x => ⟨fun hx => h.sub x hx, fun hx => ?_⟩
  have hc := all_seen es seen h0 x hx
  have : x.born ∈ seen.toList := by simpa using hc
  rw [h.all] at this
  obtain ⟨y, hy, hyx⟩ := List.mem_map.1 this
  have := born_inj hb (h.sub y hy) hx hyx
  exact this ▸ hy
theorem SeenL.lt {es : Array MapEntry} {seen : Array Nat} {E : List MapEntry} {e : MapEntry} (h : SeenL es seen E) (_hb : (es.toList.map (·.born)).Nodup) (he : e ∈ (leftOf es seen).toList) : E.length < es.size := by
  have h2 := h.push he
  have hE : (E ++ [e]).Nodup := nodup_of_map h2.nd
  have := hE.length_le_of_subset (l₂ := es.toList) h2.sub
  simp only [List.length_append, List.length_cons, List.length_nil, Array.length_toList] at this
  omega
section
variable {P : Program} {F : Nat → Nat}
structure KeyS (w0 : World) (w : World) (σ : Sl) (it Bs B r n : Nat) (es : Array MapEntry) (clock : Nat) (E : List MapEntry) : Prop where
  s24 : σ 24 = .pointer (some ⟨it, 0, none⟩)
  s4 : σ 4 = .pointer (some ⟨Bs, 0, none⟩)
  map : w.heap[r]? = some (.map es clock)
  iter : ∃ seen, w.heap[it]? = some (.mapIter (some r) clock seen clock) ∧ SeenL es seen E
  cell : Blk w Bs [.slice (some ⟨B, 0, none⟩) E.length n]
  row : ∃ rest, Blk w B (E.map (·.key) ++ rest) ∧ E.length + rest.length = n
  fr : Mod [] w0 w
  ne1 : it ≠ Bs
  ne2 : it ≠ B
  ne3 : Bs ≠ B
  nr : r ≠ it ∧ r ≠ Bs ∧ r ≠ B
  hn : n = es.size
  old1 : w0.heap.size ≤ it
  old2 : w0.heap.size ≤ Bs
  old3 : w0.heap.size ≤ B
theorem each_loop1 {w0 w : World} {σ : Sl} {it Bs B r n : Nat} {es : Array MapEntry} {clock : Nat} {Q : Exit → Sl → World → Prop} (h : KeyS w0 w σ it Bs B r n es clock []) (hk : keysAre .u32 es) (hb : (es.toList.map (·.born)).Nodup) (hold : ∀ e ∈ es.toList, e.born < clock)
    (hQ : ∀ σ' w' E, (∀ j, j < 25 → j ≠ 5 → σ' j = σ j) → KeyS w0 w' σ' it Bs B r n es clock E → E.Perm es.toList → Q .normal σ' w') :
    wpC P (.block 0 (.loop (.seq (.blk [⟨some 25, .mnext (.tmp 24), none⟩, ⟨some 26, .ext (.tmp 25) 0, none⟩])
        (.seq (.cond (.tmp 26) .skip (.exit 0))
        (.block 1 (.seq (.blk [⟨some 27, .mentry (.tmp 24), none⟩, ⟨some 28, .ext (.tmp 27) 0, none⟩, ⟨some 5, .mv (.tmp 28), none⟩])
          (.blk [⟨some 29, .ld (.tmp 4), none⟩, ⟨some 30, .mv (.tmp 5), none⟩, ⟨some 31, .bslice 1 [.int .u32 0] [(0, 1, .tmp 30)], none⟩, ⟨some 32, .append (.tmp 29) (.tmp 31) 1 4, none⟩, ⟨none, .st (.tmp 4) 1 (.tmp 32), none⟩]))))))) Q σ w := by
  rw [wpC_block, wpC_loop]
  refine ⟨fun σ' w' => ∃ E, (∀ j, j < 25 → j ≠ 5 → σ' j = σ j) ∧ KeyS w0 w' σ' it Bs B r n es clock E, fun _ w' => (leftOf es (w'.iterSeen it)).size, ⟨[], fun _ _ _ => rfl, h⟩, ?_⟩
  rintro σ1 w1 ⟨E, ag, hS⟩
  obtain ⟨seen, hit, hE⟩ := hS.iter
  have hseen : w1.iterSeen it = seen := by unfold World.iterSeen; rw [hit]
  rw [wpC_seq, wpC_blk]
  refine wpR_run ?_
  simp only [RK.run, ev, hS.s24, hit, hS.map]
  refine ⟨hold, Nat.le_refl _, fun h0 => ?_, fun e he w2 hw2 => ?_⟩
  · -- no entry is left
    refine wpR_step (v := .bool false) (by simp only [RK.val?, ev, updo, upd, if_true]; rfl) ?_
    refine wpR_done ?_
    rw [wpC_seq, wpC_cond_f rfl]
    refine wpC_exit_out3 ?_
    refine hQ _ w1 E (fun j hj h5 => ?_) ?_ (hE.perm hb h0)
    · simp only [updo, upd, show j ≠ 26 by omega, show j ≠ 25 by omega, if_false]; exact ag j hj h5
    · exact { hS with s24 := by simp [updo, upd, hS.s24], s4 := by simp [updo, upd, hS.s4] }
  · -- an entry
    have hsz2 : w2.heap = w1.heap := by rcases hw2 with rfl | rfl <;> rfl
    have hm2 : Mod [] w1 w2 := by
      rcases hw2 with rfl | rfl
      · exact Mod.refl _ _
      · exact Mod.drew _ _
    have hitl : it < w2.heap.size := by rw [hsz2]; exact (Array.getElem?_eq_some_iff.1 hit).1
    refine wpR_step (v := .bool true) (by simp only [RK.val?, ev, updo, upd, if_true]; rfl) ?_
    refine wpR_done ?_
    rw [wpC_seq, wpC_cond_t rfl, wpC_skip]
    simp only [thenC]
    rw [wpC_block, wpC_seq, wpC_blk]
    have hpm : Mod [it] w2 (putObj w2 it (.mapIter (some r) clock (seen.push e.born) clock)) := Mod.putObj (by simp)
    have hget : (putObj w2 it (.mapIter (some r) clock (seen.push e.born) clock)).heap[it]? = some (.mapIter (some r) clock (seen.push e.born) clock) := putObj_get hitl
    have hmp : (putObj w2 it (.mapIter (some r) clock (seen.push e.born) clock)).heap[r]? = some (.map es clock) := by
      rw [putObj_other hS.nr.1, hsz2]; exact hS.map
    obtain ⟨rest, hrow, hlen⟩ := hS.row
    have hcell := (hS.cell.mod hm2 (by simp)).mod hpm (by simpa using hS.ne1.symm)
    have hrow := (hrow.mod hm2 (by simp)).mod hpm (by simpa using hS.ne2.symm)
    have hpsz : (putObj w2 it (.mapIter (some r) clock (seen.push e.born) clock)).heap.size = w2.heap.size := putObj_size _ _ _
    have hm3 : Mod [it] w1 (putObj w2 it (.mapIter (some r) clock (seen.push e.born) clock)) := hm2.nil.trans hpm
    generalize hw3 : putObj w2 it (.mapIter (some r) clock (seen.push e.born) clock) = w3 at hpm hget hmp hcell hrow hpsz hm3 ⊢
    obtain ⟨k, hkk⟩ := hk e (mem_left he).1
    have hlt := hE.lt hb he
    have hnn := hS.hn
    refine wpR_run ?_
    simp only [RK.run, ev, updo, upd, show (24 : Nat) ≠ 26 by decide, show (24 : Nat) ≠ 25 by decide, if_false, hS.s24, hget, hmp]
    refine ⟨trivial, e, (mem_left he).1, hb, by simp, ?_⟩
    refine wpR_step (v := e.key) (by simp only [RK.val?, ev, upd, if_true]; rfl) ?_
    refine wpR_step (v := e.key) (by simp only [RK.val?, ev, updo, upd, if_true]) ?_
    refine wpR_done ?_
    rw [wpC_blk]
    refine wpR_step (v := .slice (some ⟨B, 0, none⟩) E.length n) (by simp only [RK.val?, ev, updo, upd]; simp [hS.s4, hcell.cell]) ?_
    refine wpR_step (v := e.key) (by simp only [RK.val?, ev, updo, upd]; simp) ?_
    refine wpR_run ?_
    have hkc : e.key.cells = #[e.key] := by rw [hkk]; rfl
    have hko : e.key.oneCell' = true := by rw [hkk]; rfl
    simp only [RK.run, List.map_cons, List.map_nil, ev, updo, upd, if_true, zrep, List.replicate_succ, List.replicate_zero, List.flatten_cons, List.flatten_nil, List.append_nil, fillL, hkc]
    have hspl : splice [Value.int .u32 0] 0 [e.key] = [e.key] := splice_all rfl
    simp only [List.size_toArray, List.length_cons, List.length_nil, Nat.zero_add, Nat.le_refl, and_self, if_true, hspl]
    intro Tn
    have bA := Blk.new w3 [e.key] Tn
    have mA : Mod [] w3 (w3.alloc (.cells [e.key].toArray Tn)) := Mod.alloc _ _ _
    have zA : (w3.alloc (.cells [e.key].toArray Tn)).heap.size = w3.heap.size + 1 := by simp
    have hcell4 := hcell.mod mA (by simp)
    have hrow4 := hrow.mod mA (by simp)
    have hget4 : (w3.alloc (.cells [e.key].toArray Tn)).heap[it]? = some (.mapIter (some r) clock (seen.push e.born) clock) := by rw [mA.block it (by omega) (by simp)]; exact hget
    have hrl : r < w3.heap.size := (Array.getElem?_eq_some_iff.1 hmp).1
    have hmp4 : (w3.alloc (.cells [e.key].toArray Tn)).heap[r]? = some (.map es clock) := by rw [mA.block r hrl (by simp)]; exact hmp
    generalize w3.alloc (.cells [e.key].toArray Tn) = w4 at bA mA zA hcell4 hrow4 hget4 hmp4 ⊢
    refine wpR_run ?_
    have hsrc : srcCells w4 1 (.slice (some ⟨w3.heap.size, 0, none⟩) 1 1) = some (1, [e.key]) := by
      simp only [srcCells, Nat.mul_one]
      rw [cellsAt_of' bA.cells (n := 1) rfl]; rfl
    simp only [RK.run, ev, updo, upd, show (29 : Nat) ≠ 31 by decide, show (29 : Nat) ≠ 30 by decide, if_false, if_true, hsrc, appendRun]
    rw [if_pos (by omega)]
    simp only [Addr.add_mk, Nat.zero_add, Nat.mul_one]
    obtain ⟨x, rest', rfl⟩ : ∃ x r', rest = x :: r' := by cases rest with | nil => simp at hlen; omega | cons x r' => exact ⟨x, r', rfl⟩
    simp only [List.length_cons] at hlen
    refine ⟨stOk_one hrow4 (by simp) hko, ?_⟩
    have hput : Mod [B] w4 (putCells w4 ⟨B, E.length, none⟩ 0 [e.key]) := Mod.put (by simp)
    have hp := hrow4.put (o := E.length) (vs := [e.key]) (by simp)
    have hsp2 : splice (E.map (·.key) ++ x :: rest') E.length [e.key] = (E ++ [e]).map (·.key) ++ rest' := by
      have h1 : (E.map (·.key) ++ x :: rest').take E.length = E.map (·.key) := List.take_left' (by simp)
      have h2 : (E.map (·.key) ++ x :: rest').drop (E.length + [e.key].length) = rest' := by
        rw [show E.map (·.key) ++ x :: rest' = (E.map (·.key) ++ [x]) ++ rest' by simp]
        exact List.drop_left' (by simp)
      unfold splice
      rw [h1, h2]; simp
    rw [hsp2] at hp
    have hcell5 := hcell4.mod hput (by simpa using hS.ne3)
    have hget5 : (putCells w4 ⟨B, E.length, none⟩ 0 [e.key]).heap[it]? = some (.mapIter (some r) clock (seen.push e.born) clock) := by
      rw [hput.block it (by omega) (by simpa using hS.ne2)]; exact hget4
    have hmp5 : (putCells w4 ⟨B, E.length, none⟩ 0 [e.key]).heap[r]? = some (.map es clock) := by
      rw [hput.block r (by omega) (by simpa using hS.nr.2.2)]; exact hmp4
    have zB : (putCells w4 ⟨B, E.length, none⟩ 0 [e.key]).heap.size = w4.heap.size := size_putCells ..
    generalize putCells w4 ⟨B, E.length, none⟩ 0 [e.key] = w5 at hput hp hcell5 hget5 hmp5 zB ⊢
    refine wpR_run ?_
    have ec : (Value.slice (some ⟨B, 0, none⟩) (E.length + 1) n).cells = #[.slice (some ⟨B, 0, none⟩) (E.length + 1) n] := rfl
    have hput6 : Mod [Bs] w5 (putCells w5 ⟨Bs, 0, none⟩ 0 [.slice (some ⟨B, 0, none⟩) (E.length + 1) n]) := Mod.put (by simp)
    have hp6 := hcell5.put (o := 0) (vs := [.slice (some ⟨B, 0, none⟩) (E.length + 1) n]) (by simp)
    rw [splice_all (by rfl)] at hp6
    simp only [RK.run, ev, updo, upd, if_true, show (4 : Nat) ≠ 32 by decide, show (4 : Nat) ≠ 31 by decide, show (4 : Nat) ≠ 30 by decide, show (4 : Nat) ≠ 29 by decide, show (4 : Nat) ≠ 5 by decide, show (4 : Nat) ≠ 28 by decide, show (4 : Nat) ≠ 27 by decide, show (4 : Nat) ≠ 26 by decide, show (4 : Nat) ≠ 25 by decide, if_false, hS.s4, ec]
    refine ⟨rfl, stOk_one hcell5 (by simp) rfl, ?_⟩
    have hget6 : (putCells w5 ⟨Bs, 0, none⟩ 0 [.slice (some ⟨B, 0, none⟩) (E.length + 1) n]).heap[it]? = some (.mapIter (some r) clock (seen.push e.born) clock) := by
      rw [hput6.block it (by omega) (by simpa using hS.ne1)]; exact hget5
    have hmp6 : (putCells w5 ⟨Bs, 0, none⟩ 0 [.slice (some ⟨B, 0, none⟩) (E.length + 1) n]).heap[r]? = some (.map es clock) := by
      rw [hput6.block r (by omega) (by simpa using hS.nr.2.1)]; exact hmp5
    simp only [wpR, inBlockC, thenC]
    refine ⟨⟨E ++ [e], fun j hj h5 => ?_, ?_⟩, ?_⟩
    · simp only [upd, show j ≠ 32 by omega, show j ≠ 31 by omega, show j ≠ 30 by omega, show j ≠ 29 by omega, h5, show j ≠ 28 by omega, show j ≠ 27 by omega, show j ≠ 26 by omega, show j ≠ 25 by omega, if_false]; exact ag j hj h5
    · refine { hS with s24 := by simp [upd, hS.s24], s4 := by simp [upd, hS.s4], map := hmp6, iter := ⟨_, hget6, hE.push he⟩, cell := by simpa using hp6, row := ⟨rest', hp.mod hput6 (by simpa using hS.ne3.symm), by simp; omega⟩, fr := ?_ }
      have o1 := hS.old1; have o2 := hS.old2; have o3 := hS.old3
      refine Mod.drop (b := it) (S := []) ?_ o1
      refine Mod.drop (b := Bs) (S := [it]) ?_ o2
      refine Mod.drop (b := B) (S := [Bs, it]) ?_ o3
      exact (((hS.fr.mono (by simp)).trans (hm3.mono (by simp))).trans (mA.mono (by simp))).trans ((hput.mono (by simp)).trans (hput6.mono (by simp)))
    · have h6 : (putCells w5 ⟨Bs, 0, none⟩ 0 [.slice (some ⟨B, 0, none⟩) (E.length + 1) n]).iterSeen it = seen.push e.born := by unfold World.iterSeen; rw [hget6]
      rw [hseen, h6]
      exact left_shrinks es seen e he
end
end Go.Msk

namespace Go.Msk
open Go.RowKit
set_option maxRecDepth 100000
def getT (m : List (Nat × List UInt8)) (k : Nat) : List UInt8 := match m.find? (fun p => k == p.1) with | some p => p.2 | none => []
theorem insT_perm (k : Nat) (l : List UInt8) : ∀ m : List (Nat × List UInt8), (insT k l m).Perm ((k, l) :: m)
  | [] => .refl _
  | (k', l') :: m => by
    simp only [insT]
    split
    · exact .refl _
    · exact ((insT_perm k l m).cons _).trans (.swap _ _ _)
theorem sortT_perm : ∀ m : List (Nat × List UInt8), (sortT m).Perm m
  | [] => .refl _
  | (k, l) :: m => (insT_perm k l (sortT m)).trans ((sortT_perm m).cons _)
theorem insT_sorted (k : Nat) (l : List UInt8) : ∀ m : List (Nat × List UInt8), m.Pairwise (fun a b => a.1 ≤ b.1) → (insT k l m).Pairwise (fun a b => a.1 ≤ b.1)
  | [], _ => by simp [insT]
  | (k', l') :: m, h => by
    simp only [insT]
    rw [List.pairwise_cons] at h
    split
    · rename_i hk
      refine List.pairwise_cons.2 ⟨fun b hb => ?_, List.pairwise_cons.2 h⟩
      rcases List.mem_cons.1 hb with rfl | hb
      · exact Nat.le_of_lt hk
      · have := h.1 b hb; simp only at this ⊢; omega
    · rename_i hk
      refine List.pairwise_cons.2 ⟨fun b hb => ?_, insT_sorted k l m h.2⟩
      have := (insT_perm k l m).mem_iff.1 hb
      rcases List.mem_cons.1 this with rfl | hb
      · simp only; omega
      · exact h.1 b hb
theorem sortT_sorted : ∀ m : List (Nat × List UInt8), (sortT m).Pairwise (fun a b => a.1 ≤ b.1)
  | [] => .nil
  | (k, l) :: m => insT_sorted k l _ (sortT_sorted m)
theorem getT_mem : ∀ {m : List (Nat × List UInt8)} (p : Nat × List UInt8), (m.map (·.1)).Nodup → p ∈ m → getT m p.1 = p.2
  | [], p, _, h => by simp at h
  | q :: m, p, hn, h => by
    unfold getT
    rw [List.find?_cons]
    rw [List.map_cons, List.nodup_cons] at hn
    rcases List.mem_cons.1 h with rfl | h
    · simp
    · have hne : ¬ p.1 = q.1 := fun e => hn.1 (by rw [← e]; exact List.mem_map.2 ⟨p, h, rfl⟩)
      have : (p.1 == q.1) = false := by simpa using hne
      rw [this]
      exact getT_mem p hn.2 h
theorem sortT_eq {m : List (Nat × List UInt8)} {ks : List Nat} (hn : (m.map (·.1)).Nodup) (hp : ks.Perm (m.map (·.1))) (hs : ks.Pairwise (· ≤ ·)) : ks.map (fun k => (k, getT m k)) = sortT m := by
  have h1 : (m.map (·.1)).map (fun k => (k, getT m k)) = m := by
    rw [List.map_map]
    conv => rhs; rw [← List.map_id m]
    apply List.map_congr_left
    intro p hp
    simp only [Function.comp, id, getT_mem p hn hp]
  have h2 : (ks.map (fun k => (k, getT m k))).Perm m := by
    have := hp.map (fun k => (k, getT m k))
    rwa [h1] at this
  refine List.Perm.eq_of_pairwise (le := fun a b => a.1 ≤ b.1) (fun a b ha hb hab hba => ?_) ?_ (sortT_sorted m) (h2.trans (sortT_perm m).symm)
  · have ha' := h2.mem_iff.1 ha
    have hb' := (sortT_perm m).mem_iff.1 hb
    have e : a.1 = b.1 := Nat.le_antisymm hab hba
    have x1 := getT_mem a hn ha'
    have x2 := getT_mem b hn hb'
    rw [e] at x1
    exact Prod.ext e (x1.symm.trans x2)
  · exact List.Pairwise.map _ (fun a b h => h) hs
theorem EntL.get {ok : Nat → Prop} {w : World} {es : List MapEntry} {m : List (Nat × List UInt8)} (h : EntL ok w es m) {k : Nat} (hk : k ∈ m.map (·.1)) : ∃ e, es.find? (keyIs k) = some e ∧ SlC ok w e.val (getT m k).length (u8s (getT m k)) := by
  induction h with
  | nil => simp at hk
  | @cons e k' l es m h1 h2 h3 h4 ih =>
    have hki : keyIs k e = decide (k = k') := by
      unfold keyIs; rw [h1]
      by_cases hkk : k = k'
      · simp [hkk]
      · have : ¬ (k : Int) = k' := by omega
        simp [hkk, this]
    rw [List.find?_cons, hki]
    by_cases hkk : k = k'
    · refine ⟨e, by simp [hkk], ?_⟩
      have : getT ((k', l) :: m) k = l := by unfold getT; simp [hkk]
      rw [this]; exact h3
    · simp only [List.map_cons, List.mem_cons, hkk, false_or] at hk
      obtain ⟨x, hx1, hx2⟩ := ih hk
      refine ⟨x, by simp [hkk, hx1], ?_⟩
      have : getT ((k', l) :: m) k = getT m k := by unfold getT; rw [List.find?_cons, show (k == k') = false by simpa using hkk]
      rw [this]; exact hx2
theorem EntL.len {ok : Nat → Prop} {w : World} {es : List MapEntry} {m : List (Nat × List UInt8)} (h : EntL ok w es m) : es.length = m.length := by
  induction h with
  | nil => rfl
  | cons _ _ _ _ ih => simp [ih]
theorem EntL.klist {ok : Nat → Prop} {w : World} {es : List MapEntry} {m : List (Nat × List UInt8)} (h : EntL ok w es m) : es.map (·.key) = (m.map (·.1)).map u32v := by
  induction h with
  | nil => rfl
  | cons h1 _ _ _ ih => simp [ih, h1, u32v]
theorem EntL.lt32 {ok : Nat → Prop} {w : World} {es : List MapEntry} {m : List (Nat × List UInt8)} (h : EntL ok w es m) : ∀ k ∈ m.map (·.1), k < 4294967296 := by
  induction h with
  | nil => simp
  | cons _ h2 _ _ ih =>
    intro k hk
    rw [List.map_cons] at hk
    rcases List.mem_cons.1 hk with rfl | hk
    · exact h2
    · exact ih k hk
theorem map_perm_inj : ∀ {a b : List Nat}, (a.map u32v).Perm (b.map u32v) → a.Perm b := by
  intro a b h
  have hd : ∀ l : List Nat, (l.map u32v).map (fun v => match v with | .int _ n => n.toNat | _ => 0) = l := by
    intro l
    rw [List.map_map]
    conv => rhs; rw [← List.map_id l]
    apply List.map_congr_left
    intro k _; simp [u32v]
  have := h.map (fun v => match v with | .int _ n => n.toNat | _ => 0)
  rwa [hd, hd] at this
def SortC (P : Program) (f g : FuncId) (T : TypeId) : Prop :=
  ∀ (w : World) (B Bs : Nat) (ks : List Nat), Blk w B (ks.map u32v) → Blk w Bs [.slice (some ⟨B, 0, none⟩) ks.length ks.length] → Bs ≠ B → ks.length ≤ 2147483647 → (∀ k ∈ ks, k < 4294967296) →
    Calls P f #[.iface T (.slice (some ⟨B, 0, none⟩) ks.length ks.length), .func (.func g) #[] #[.pointer (some ⟨Bs, 0, none⟩)]] w fun e w' =>
      e = .returned (.tuple #[]) ∧ ∃ ks' : List Nat, ks'.Perm ks ∧ ks'.Pairwise (· ≤ ·) ∧ Blk w' B (ks'.map u32v) ∧ Mod [B] w w'
end Go.Msk

namespace Go.Msk
open Go.RowKit
set_option maxRecDepth 100000
section
variable {P : Program} {F : Nat → Nat}
def EachCB (P : Program) (w0 : World) (S : List Nat) (okv : Nat → Prop) (g : FuncId) (captured : List Value) (I : World → List (Nat × List UInt8) → World → Prop) (all : List (Nat × List UInt8)) : Prop :=
  ∀ (wN : World) (done : List (Nat × List UInt8)) (k : Nat) (l : List UInt8) (w1 : World) (v : Value), (∃ r, all = done ++ (k, l) :: r) → Mod [] w0 wN → I wN done w1 → done.length < 2147483647 → Mod S wN w1 → k < 4294967296 → l.length ≤ 2147483647 → SlC okv w1 v l.length (u8s l) →
    Calls P g ([u32v k, v] ++ captured).toArray w1 fun e w2 => e = .returned (.tuple #[]) ∧ I wN (done ++ [(k, l)]) w2 ∧ Mod S wN w2
theorem getT_len {m : List (Nat × List UInt8)} (h : ∀ p ∈ m, p.2.length ≤ 2147483647) (k : Nat) : (getT m k).length ≤ 2147483647 := by
  unfold getT
  cases hf : m.find? (fun p => k == p.1) with
  | none => simp
  | some p => exact h p (List.mem_of_find?_eq_some hf)
theorem each_loop2 {w0 wN w : World} {S : List Nat} {okv : Nat → Prop} {g : FuncId} {captured : List Value} {I : World → List (Nat × List UInt8) → World → Prop} {m : List (Nat × List UInt8)} {ks : List Nat} (hcb : EachCB P w0 S okv g captured I (ks.map fun k => (k, getT m k))) (hbody : hasBody P g = true)
    {σ : Sl} {B o R r : Nat} {Q : Exit → Sl → World → Prop} (h0 : σ 0 = .pointer (some ⟨B, o, none⟩)) (h1 : σ 1 = .func (.func g) #[] captured.toArray) (h37 : σ 37 = .slice (some ⟨R, 0, none⟩) ks.length ks.length)
    (h38 : σ 38 = .int .i64 ks.length) (h39 : σ 39 = .int .i64 0) (hmN : Mod [] w0 wN) (hw : w = wN) (hrow : Blk wN R (ks.map u32v)) (hcell : wN.cell? ⟨B, o, none⟩ = some (.map (some r))) (hM : MapRep okv wN r m) (hB : B ∉ S) (hr : r ∉ S) (hR : R ∉ S) (hS : ∀ b ∈ S, ¬ okv b)
    (hmv : ∀ p ∈ m, p.2.length ≤ 2147483647) (hks : ∀ k ∈ ks, k ∈ m.map (·.1)) (hlen : ks.length ≤ 2147483647) (hI : I wN [] wN)
    (hQ : ∀ σ' w', I wN (ks.map fun k => (k, getT m k)) w' → Mod S wN w' → Q .normal σ' w') :
    wpC P (.block 2 (.loop (.seq (.blk [⟨some 40, .bin .lss (.tmp 39) (.tmp 38), none⟩])
        (.seq (.cond (.tmp 40) .skip (.exit 2))
        (.seq (.block 3 (.seq (.blk [⟨some 41, .iad (.tmp 37) (.tmp 39) 1, none⟩, ⟨some 42, .ld (.tmp 41), none⟩, ⟨some 7, .mv (.tmp 42), none⟩])
          (.blk [⟨some 43, .mv (.tmp 1), none⟩, ⟨some 44, .mv (.tmp 7), none⟩, ⟨some 45, .mv (.tmp 0), none⟩, ⟨some 46, .nilc (.tmp 45), none⟩, ⟨some 47, .fad (.tmp 46) 0, none⟩, ⟨some 48, .ld (.tmp 47), none⟩, ⟨some 49, .mv (.tmp 7), none⟩,
            ⟨some 50, .mlook (.tmp 48) (.tmp 49) (.slice none 0 0), none⟩, ⟨some 51, .callv (.tmp 43) [.tmp 44, .tmp 50], none⟩])))
        (.blk [⟨some 52, .bin .add (.tmp 39) (.const (.int .i64 1)), none⟩, ⟨some 39, .mv (.tmp 52), none⟩])))))) Q σ w := by
  subst hw
  rw [wpC_block, wpC_loop]
  refine ⟨fun σ' w' => ∃ i, i ≤ ks.length ∧ σ' 0 = .pointer (some ⟨B, o, none⟩) ∧ σ' 1 = .func (.func g) #[] captured.toArray ∧ σ' 37 = .slice (some ⟨R, 0, none⟩) ks.length ks.length ∧ σ' 38 = .int .i64 ks.length ∧ σ' 39 = .int .i64 (i : Nat) ∧
      I w ((ks.take i).map fun k => (k, getT m k)) w' ∧ Mod S w w', fun σ' _ => match σ' 39 with | .int _ i => ks.length - i.toNat | _ => 0, ⟨0, Nat.zero_le _, h0, h1, h37, h38, h39, by simpa using hI, Mod.refl _ _⟩, ?_⟩
  rintro σ1 w1 ⟨i, hi, s0, s1, s37, s38, s39, hI1, hm1⟩
  rw [wpC_seq, wpC_blk]
  refine wpR_step (v := .bool (decide (i < ks.length))) (by
    simp only [RK.val?, ev, s39, s38, isShift, decide_true, Bool.or_true, if_true, intBin]
    congr 2; exact decide_eq_decide.2 (by omega)) ?_
  refine wpR_done ?_
  by_cases hlt : i < ks.length
  · rw [wpC_seq, wpC_cond_t (by simp only [ev, updo, upd, if_true, hlt, decide_true]), wpC_skip]
    simp only [thenC]
    rw [wpC_seq, wpC_block, wpC_seq, wpC_blk]
    have hki : ks[i]? = some ks[i] := List.getElem?_eq_getElem hlt
    have hkm := hks ks[i] (List.getElem_mem hlt)
    have htk : ks.take (i + 1) = ks.take i ++ [ks[i]] := (List.take_append_getElem hlt).symm
    generalize ks[i] = k at hki hkm htk
    have c41 : w1.cell? ⟨R, i, none⟩ = some (u32v k) := by
      have := (hrow.mod hm1 hR).cell i
      rw [this, List.getElem?_map, hki]; rfl
    refine wpR_step (v := .pointer (some ⟨R, i, none⟩)) (by
      simp only [RK.val?, ev, updo, upd, show (37 : Nat) ≠ 40 by decide, show (39 : Nat) ≠ 40 by decide, if_false, s37, s39]
      rw [if_pos (by omega)]
      simp [Addr.add_mk]) ?_
    refine wpR_step (v := u32v k) (by simp only [RK.val?, ev, updo, upd, if_true, c41]) ?_
    refine wpR_step (v := u32v k) (by simp only [RK.val?, ev, updo, upd, if_true]) ?_
    refine wpR_done ?_
    rw [wpC_blk]
    have hcell1 : w1.cell? ⟨B, o, none⟩ = some (.map (some r)) := cell_mod hcell hm1 hB
    have hM1 := hM.mod (ok' := okv) hm1 hr hS fun _ _ h => h
    obtain ⟨es, clock, he1, he2, he3, he4⟩ := hM1.ex
    obtain ⟨e, hf, hv⟩ := he2.get hkm
    have hk32 := he2.lt32 k hkm
    have hmg : mapGet es k (.slice none 0 0) = e.val := by unfold mapGet; rw [hf]
    refine wpR_step (v := .func (.func g) #[] captured.toArray) (by simp only [RK.val?, ev, updo, upd]; simp [s1]) ?_
    refine wpR_step (v := u32v k) (by simp only [RK.val?, ev, updo, upd]; simp) ?_
    refine wpR_step (v := .pointer (some ⟨B, o, none⟩)) (by simp only [RK.val?, ev, updo, upd]; simp [s0]) ?_
    refine wpR_step (v := .pointer (some ⟨B, o, none⟩)) (by simp only [RK.val?, ev, updo, upd, if_true]) ?_
    refine wpR_step (v := .pointer (some ⟨B, o, none⟩)) (by simp only [RK.val?, ev, updo, upd, if_true, Addr.add_mk, Nat.add_zero]) ?_
    refine wpR_step (v := .map (some r)) (by simp only [RK.val?, ev, updo, upd, if_true, hcell1]) ?_
    refine wpR_step (v := u32v k) (by simp only [RK.val?, ev, updo, upd]; simp) ?_
    refine wpR_run ?_
    simp only [RK.run, ev, updo, upd, show (48 : Nat) ≠ 49 by decide, if_false, if_true, u32v, he1]
    refine ⟨he2.keys, ?_⟩
    rw [hmg]
    refine wpR_run ?_
    have hc := hcb w ((ks.take i).map fun k => (k, getT m k)) k (getT m k) w1 e.val ⟨(ks.drop (i + 1)).map fun k => (k, getT m k), by
      have : ks = ks.take i ++ k :: ks.drop (i + 1) := by
        have h1 := (List.take_append_drop (i + 1) ks).symm
        rw [htk, List.append_assoc] at h1
        exact h1
      conv => lhs; rw [this]
      simp⟩ hmN hI1 (by simp only [List.length_map, List.length_take]; omega) hm1 hk32 (getT_len hmv k) hv
    simp only [RK.run, ev, updo, upd, show (43 : Nat) ≠ 50 by decide, show (43 : Nat) ≠ 49 by decide, show (43 : Nat) ≠ 48 by decide, show (43 : Nat) ≠ 47 by decide, show (43 : Nat) ≠ 46 by decide, show (43 : Nat) ≠ 45 by decide, show (43 : Nat) ≠ 44 by decide,
      show (44 : Nat) ≠ 50 by decide, show (44 : Nat) ≠ 49 by decide, show (44 : Nat) ≠ 48 by decide, show (44 : Nat) ≠ 47 by decide, show (44 : Nat) ≠ 46 by decide, show (44 : Nat) ≠ 45 by decide, if_false, if_true, List.map_cons, List.map_nil, List.nil_append]
    refine ⟨hbody, hc.mono ?_⟩
    rintro en w2 ⟨rfl, hI2, hm2⟩
    refine ⟨_, rfl, ?_⟩
    simp only [wpR, inBlockC, thenC]
    rw [wpC_blk]
    refine wpR_step (v := .int .i64 ((i + 1 : Nat) : Int)) (by
      simp only [RK.val?, ev, upd, show (39 : Nat) ≠ 51 by decide, show (39 : Nat) ≠ 50 by decide, show (39 : Nat) ≠ 49 by decide, show (39 : Nat) ≠ 48 by decide, show (39 : Nat) ≠ 47 by decide, show (39 : Nat) ≠ 46 by decide, show (39 : Nat) ≠ 45 by decide, show (39 : Nat) ≠ 44 by decide, show (39 : Nat) ≠ 43 by decide, show (39 : Nat) ≠ 7 by decide, show (39 : Nat) ≠ 42 by decide, show (39 : Nat) ≠ 41 by decide, show (39 : Nat) ≠ 40 by decide, if_false, s39, isShift, decide_true, Bool.or_true, if_true, intBin]
      have e1 : (i : Int) + 1 = ((i + 1 : Nat) : Int) := by omega
      rw [e1, i64_small (by omega) (by omega)]) ?_
    refine wpR_step (v := .int .i64 ((i + 1 : Nat) : Int)) (by simp only [RK.val?, ev, updo, upd, if_true]) ?_
    simp only [wpR]
    refine ⟨⟨i + 1, by omega, by simp [updo, upd, s0], by simp [updo, upd, s1], by simp [updo, upd, s37], by simp [updo, upd, s38], by simp only [updo, upd, if_true], ?_, hm2⟩, ?_⟩
    · rw [htk, List.map_append]; exact hI2
    · simp only [updo, upd, if_true, s39]; omega
  · rw [wpC_seq, wpC_cond_f (by simp only [ev, updo, upd, if_true, hlt, decide_false])]
    refine wpC_exit_out ?_
    refine hQ _ w1 ?_ hm1
    have : i = ks.length := by omega
    subst this
    simpa using hI1
theorem tEach_call {w : World} (hm : P.follows .mixedOrders = true) (h : liftF P (F tEach) = some (ir_tEach F)) (hsort : SortC P (F sortSlice) (F tEach1) (F tyU32s))
    {S : List Nat} {okv : Nat → Prop} {g : FuncId} {captured : List Value} {I : World → List (Nat × List UInt8) → World → Prop} {m : List (Nat × List UInt8)} (hcb : EachCB P w S okv g captured I (sortT m)) (hbody : hasBody P g = true)
    {B o : Nat} {v : Value} (hc : w.cell? ⟨B, o, none⟩ = some v) (hM : TagM okv w v m) (hlen : m.length ≤ 2147483647) (hmv : ∀ p ∈ m, p.2.length ≤ 2147483647) (hB : B ∉ S) (hr : ∀ r, v = .map (some r) → r ∉ S) (hSl : ∀ b ∈ S, b < w.heap.size) (hS : ∀ b ∈ S, ¬ okv b)
    (hI : ∀ wN, Mod [] w wN → I wN [] wN) :
    Calls P (F tEach) [.pointer (some ⟨B, o, none⟩), .func (.func g) #[] captured.toArray].toArray w fun e w' => e = .returned (.tuple #[]) ∧ ∃ wN, Mod [] w wN ∧ I wN (sortT m) w' ∧ Mod S wN w' := by
  unfold ir_tEach at h
  refine call_of h hm (by simp) ?_
  have a0 : args0 [.pointer (some ⟨B, o, none⟩), .func (.func g) #[] captured.toArray] 0 = .pointer (some ⟨B, o, none⟩) := rfl
  have a1 : args0 [.pointer (some ⟨B, o, none⟩), .func (.func g) #[] captured.toArray] 1 = .func (.func g) #[] captured.toArray := rfl
  generalize args0 [.pointer (some ⟨B, o, none⟩), .func (.func g) #[] captured.toArray] = σ0 at a0 a1 ⊢
  rw [wpC_seq, wpC_seq, wpC_blk]
  refine wpR_step (v := .pointer (some ⟨B, o, none⟩)) (congrArg some a0) ?_
  refine wpR_step (v := .pointer (some ⟨B, o, none⟩)) (by simp only [RK.val?, ev, updo, upd, if_true]) ?_
  refine wpR_step (v := .pointer (some ⟨B, o, none⟩)) (by simp only [RK.val?, ev, updo, upd, if_true, Addr.add_mk, Nat.add_zero]) ?_
  refine wpR_step (v := v) (by simp only [RK.val?, ev, updo, upd, if_true, hc]) ?_
  have hml : ∀ (σ : Sl) (x : Nat) (K : Value → World → Prop), σ x = v → K (.int .i64 m.length) w → (RK.mlen (.tmp x)).run P σ w K := by
    intro σ x K hx hK
    rcases hM with ⟨rfl, rfl⟩ | ⟨r, rfl, hM⟩
    · simp only [RK.run, ev, hx]; exact hK
    · obtain ⟨es, clock, he1, he2, -, -⟩ := hM.ex
      have hl := he2.len
      simp only [RK.run, ev, hx, he1]
      have : es.size = m.length := by simpa using hl
      rw [this]; exact hK
  refine wpR_run ?_
  refine hml _ 11 _ (by simp only [updo, upd, if_true]) ?_
  refine wpR_step (v := .bool (decide (m.length = 0))) (by
    simp only [RK.val?, ev, updo, upd, if_true, isShift, decide_true, Bool.or_true, intBin]
    congr 2
    by_cases hz : m.length = 0 <;> simp [hz]) ?_
  refine wpR_done ?_
  by_cases hz : m.length = 0
  · rw [wpC_cond_t (by simp only [ev, updo, upd, if_true, hz, decide_true])]
    have : m = [] := List.length_eq_zero_iff.1 hz
    subst this
    simp only [wpC, thenC, postC, rvals, List.mapM_nil, Option.pure_def, tup]
    exact ⟨trivial, w, Mod.refl _ _, hI w (Mod.refl _ _), Mod.refl _ _⟩
  rw [wpC_cond_f (by simp only [ev, updo, upd, if_true, hz, decide_false]), wpC_skip]
  simp only [thenC]
  obtain ⟨r, rfl, hMr⟩ : ∃ r, v = .map (some r) ∧ MapRep okv w r m := by
    rcases hM with ⟨-, rfl⟩ | h
    · simp at hz
    · exact h
  clear hM
  have hM := hMr
  clear hMr
  obtain ⟨es, clock, he1, he2, he3, he4⟩ := hM.ex
  have hesl : es.size = m.length := by have := he2.len; simpa using this
  have hBl : B < w.heap.size := World.block_lt_of_cell? w ⟨B, o, none⟩ hc
  have hrl := hM.lt
  rw [wpC_seq, wpC_blk]
  refine wpR_step (v := .pointer (some ⟨B, o, none⟩)) (by simp only [RK.val?, ev, updo, upd]; simp [a0]) ?_
  refine wpR_step (v := .pointer (some ⟨B, o, none⟩)) (by simp only [RK.val?, ev, updo, upd, if_true]) ?_
  refine wpR_step (v := .pointer (some ⟨B, o, none⟩)) (by simp only [RK.val?, ev, updo, upd, if_true, Addr.add_mk, Nat.add_zero]) ?_
  refine wpR_step (v := .map (some r)) (by simp only [RK.val?, ev, updo, upd, if_true, hc]) ?_
  refine wpR_run ?_
  refine hml _ 17 _ (by simp only [updo, upd, if_true]) ?_
  refine wpR_run ?_
  simp only [RK.run, ev, updo, upd, if_true]
  refine ⟨by omega, by omega, by omega, by omega, ?_⟩
  intro Tn
  simp only [Int.toNat_natCast, Int.toNat_zero]
  have bR := Blk.new w (zrep m.length [.int .u32 0]) Tn
  have m1 : Mod [] w (w.alloc (.cells (zrep m.length [.int .u32 0]).toArray Tn)) := Mod.alloc _ _ _
  have z1 : (w.alloc (.cells (zrep m.length [.int .u32 0]).toArray Tn)).heap.size = w.heap.size + 1 := by simp
  generalize w.alloc (.cells (zrep m.length [.int .u32 0]).toArray Tn) = w1 at bR m1 z1 ⊢
  refine wpR_run ?_
  intro Tn2
  have bS := Blk.new w1 [.slice none 0 0] Tn2
  obtain ⟨k1, k2, k3⟩ := new_put w1 [.slice none 0 0] [.slice (some ⟨w.heap.size, 0, none⟩) 0 m.length] Tn2 rfl (by simp [Value.oneCell'])
  have z2 : (w1.alloc (.cells [Value.slice none 0 0].toArray Tn2)).heap.size = w1.heap.size + 1 := by simp
  generalize w1.alloc (.cells [Value.slice none 0 0].toArray Tn2) = w2 at bS k1 k2 k3 z2 ⊢
  refine wpR_run ?_
  have ec : (Value.slice (some ⟨w.heap.size, 0, none⟩) 0 m.length).cells.toList = [.slice (some ⟨w.heap.size, 0, none⟩) 0 m.length] := rfl
  simp only [RK.run, ev, updo, upd, if_true, show (19 : Nat) ≠ 4 by decide, if_false, ec]
  refine ⟨rfl, k1, ?_⟩
  have z3 : (putCells w2 ⟨w1.heap.size, 0, none⟩ 0 [.slice (some ⟨w.heap.size, 0, none⟩) 0 m.length]).heap.size = w2.heap.size := size_putCells ..
  generalize putCells w2 ⟨w1.heap.size, 0, none⟩ 0 [.slice (some ⟨w.heap.size, 0, none⟩) 0 m.length] = w3 at k2 k3 z3 ⊢
  have m03 : Mod [] w w3 := m1.trans k3
  have bR3 := bR.mod k3 (by simp)
  refine wpR_done ?_
  rw [wpC_seq, wpC_seq, wpC_blk]
  have hc3 : w3.cell? ⟨B, o, none⟩ = some (.map (some r)) := cell_mod hc m03 (by simp)
  have he13 : w3.heap[r]? = some (.map es clock) := by rw [m03.block r hrl (by simp)]; exact he1
  refine wpR_step (v := .pointer (some ⟨B, o, none⟩)) (by simp only [RK.val?, ev, upd]; simp [a0]) ?_
  refine wpR_step (v := .pointer (some ⟨B, o, none⟩)) (by simp only [RK.val?, ev, updo, upd, if_true]) ?_
  refine wpR_step (v := .pointer (some ⟨B, o, none⟩)) (by simp only [RK.val?, ev, updo, upd, if_true, Addr.add_mk, Nat.add_zero]) ?_
  refine wpR_step (v := .map (some r)) (by simp only [RK.val?, ev, updo, upd, if_true, hc3]) ?_
  refine wpR_run ?_
  simp only [RK.run, ev, updo, upd, if_true, he13]
  refine wpR_done ?_
  have m4 : Mod [] w3 (w3.alloc (.mapIter (some r) clock #[] clock)) := Mod.alloc _ _ _
  have hit : (w3.alloc (.mapIter (some r) clock #[] clock)).heap[w3.heap.size]? = some (.mapIter (some r) clock #[] clock) := heap_alloc_new _ _
  have he14 : (w3.alloc (.mapIter (some r) clock #[] clock)).heap[r]? = some (.map es clock) := by rw [m4.block r (by have := m03.size; omega) (by simp)]; exact he13
  have bR4 := bR3.mod m4 (by simp)
  have bS4 := k2.mod m4 (by simp)
  generalize w3.alloc (.mapIter (some r) clock #[] clock) = w4 at m4 hit he14 bR4 bS4 ⊢
  have hzl : (zrep m.length [Value.int .u32 0]).length = m.length := by simp [zrep]
  refine each_loop1 (w0 := w) (it := w3.heap.size) (Bs := w1.heap.size) (B := w.heap.size) (r := r) (n := m.length) (es := es) (clock := clock)
    ⟨by simp [upd], by simp [upd], he14, ⟨#[], hit, ⟨by simp, by simp, by simp⟩⟩, by simpa using bS4, ⟨_, by simpa using bR4, by simpa using hzl⟩, m03.trans m4, by omega, by omega, by omega, ⟨by have := m03.size; omega, by omega, by omega⟩, hesl.symm, m03.size, by omega, Nat.le_refl _⟩
    he2.keys he3 he4 fun σ5 w5 E a5 hK hperm => ?_
  have q0 : σ5 0 = .pointer (some ⟨B, o, none⟩) := by rw [a5 0 (by omega) (by omega)]; simp [upd, a0]
  have q1 : σ5 1 = .func (.func g) #[] captured.toArray := by rw [a5 1 (by omega) (by omega)]; simp [upd, a1]
  simp only [thenC]
  have hEl : E.length = m.length := by rw [hperm.length_eq]; simpa using hesl
  obtain ⟨rest, hrow, hrl2⟩ := hK.row
  have hr0 : rest = [] := List.length_eq_zero_iff.1 (by omega)
  subst hr0
  -- the keys as numbers
  have hEk : (E.map (·.key)).Perm ((m.map (·.1)).map u32v) := by rw [← he2.klist]; exact hperm.map _
  obtain ⟨ks, hks⟩ : ∃ ks : List Nat, E.map (·.key) = ks.map u32v := by
    refine ⟨(E.map (·.key)).map (fun v => match v with | .int _ n => n.toNat | _ => 0), ?_⟩
    rw [List.map_map]
    conv => lhs; rw [← List.map_id (E.map (·.key))]
    apply List.map_congr_left
    intro x hx
    have := hEk.mem_iff.1 hx
    obtain ⟨k, -, rfl⟩ := List.mem_map.1 this
    simp [u32v]
  rw [hks] at hEk
  have hkp : ks.Perm (m.map (·.1)) := map_perm_inj hEk
  have hkl : ks.length = m.length := by have := hkp.length_eq; simpa using this
  have hrow' : Blk w5 w.heap.size (ks.map u32v) := by rw [← hks]; simpa using hrow
  have hcell5 : Blk w5 w1.heap.size [.slice (some ⟨w.heap.size, 0, none⟩) ks.length ks.length] := by rw [hkl]; have := hK.cell; rwa [hEl] at this
  rw [wpC_seq, wpC_blk]
  refine wpR_step (v := .slice (some ⟨w.heap.size, 0, none⟩) ks.length ks.length) (by simp only [RK.val?, ev, hK.s4]; exact hcell5.cell 0) ?_
  refine wpR_step (v := .iface (F tyU32s) (.slice (some ⟨w.heap.size, 0, none⟩) ks.length ks.length)) (by simp only [RK.val?, ev, updo, upd, if_true]) ?_
  refine wpR_step (v := .func (.func (F tEach1)) #[] #[.pointer (some ⟨w1.heap.size, 0, none⟩)]) (by simp only [RK.val?, List.map_cons, List.map_nil, ev, updo, upd]; simp [hK.s4]) ?_
  refine wpR_call (vs := [.iface (F tyU32s) (.slice (some ⟨w.heap.size, 0, none⟩) ks.length ks.length), .func (.func (F tEach1)) #[] #[.pointer (some ⟨w1.heap.size, 0, none⟩)]]) (by simp only [List.map_cons, List.map_nil, ev, updo, upd]; simp)
    (hsort w5 w.heap.size w1.heap.size ks hrow' hcell5 (by omega) (by omega) (fun k hk => he2.lt32 k (hkp.mem_iff.1 hk))) ?_
  rintro e w6 ⟨rfl, ks', hp', hs', hrow6, m6⟩
  refine ⟨_, rfl, ?_⟩
  have hl' : ks'.length = ks.length := hp'.length_eq
  have m06 : Mod [] w w6 := Mod.drop (b := w.heap.size) (S := []) (hK.fr.nil.trans m6) (Nat.le_refl _)
  have hcell6 := hcell5.mod m6 (by simp; omega)
  refine wpR_done ?_
  rw [wpC_seq, wpC_blk]
  refine wpR_step (v := .slice (some ⟨w.heap.size, 0, none⟩) ks.length ks.length) (by
    simp only [RK.val?, ev, updo, upd, show (4 : Nat) ≠ 36 by decide, show (4 : Nat) ≠ 35 by decide, show (4 : Nat) ≠ 34 by decide, show (4 : Nat) ≠ 33 by decide, if_false, hK.s4]
    exact hcell6.cell 0) ?_
  refine wpR_step (v := .int .i64 ks.length) (by simp only [RK.val?, ev, updo, upd, if_true]) ?_
  refine wpR_step (v := .int .i64 0) rfl ?_
  refine wpR_done ?_
  have nS : ∀ {x}, w.heap.size ≤ x → x ∉ S := fun hx hs => by have := hSl _ hs; omega
  have hM2 : MapRep (fun b => okv b ∧ b < w.heap.size) w r m := hM.mod (Mod.refl [] _) (by simp) (by simp) fun b hb hx => ⟨hx, hb⟩
  refine each_loop2 (w0 := w) (wN := w6) (okv := okv) (I := I) (by rw [sortT_eq hM.keys (hp'.trans hkp) hs']; exact hcb) hbody (r := r) (m := m) (ks := ks') (R := w.heap.size) (by simp only [updo, upd]; simp [q0]) (by simp only [updo, upd]; simp [q1]) (by simp only [updo, upd]; simp [hl']) (by simp only [updo, upd]; simp [hl']) (by simp only [updo, upd]; simp) m06 rfl hrow6
    (cell_mod hc m06 (by simp)) (hM.mod m06 (by simp) (by simp) fun _ _ h => h) hB (hr r rfl) (nS (Nat.le_refl _)) hS hmv (fun k hk => hkp.mem_iff.1 (hp'.mem_iff.1 hk)) (by omega) (hI w6 m06) fun σ7 w7 hI7 hm7 => ?_
  simp only [postC, rvals, List.mapM_nil, Option.pure_def, tup]
  refine ⟨trivial, w6, m06, ?_, hm7⟩
  rw [← sortT_eq hM.keys (hp'.trans hkp) hs']; exact hI7
end
end Go.Msk

namespace Go.Msk
open Go.RowKit
set_option maxRecDepth 100000
def tagsR (u : List (Nat × List UInt8)) : List UInt8 := u.flatMap fun p => uvE p.1 ++ (uvE p.2.length ++ p.2)
theorem DRaw.keep' {w w' : World} {n0 : Nat} {v : Value} {l : List UInt8} (h : DRaw w n0 v l) (hm : Mod [] w w') : DRaw w' n0 v l := h.mod hm (by simp)
section
variable {P : Program} {F : Nat → Nat}
attribute [local simp] gOk updo upd ev RK.val? isShift intBin Addr.add_mk args0 Value.cells undef
structure DV (w0 w : World) (Db : Nat) (l : List UInt8) : Prop where
  ex : ∃ dv, Blk w Db [dv] ∧ DRaw w w0.heap.size dv l ∧ ownB dv ≠ some Db
  mod : Mod [] w0 w
theorem goVar {a : Operand} {x : Operand} {b : Nat} {r : List RI} {σ : Sl} {w : World} {v u : Value} {Q : Sl → World → Prop} (ha : ev σ a = .pointer (some ⟨b, 0, none⟩)) (hx : ev σ x = v) (hb : Blk w b [u]) (h1 : v.cells = #[v] ∧ v.oneCell' = true)
    (h : ∀ w', Blk w' b [v] → Mod [b] w w' → wpR P r σ w' Q) : wpR P (⟨none, .st a 1 x, none⟩ :: r) σ w Q := by
  refine goSt (v := v) ha hx hb (by rw [h1.1]; rfl) rfl (by rw [h1.1]; simpa using h1.2) fun w' hb' hm' => ?_
  rw [h1.1] at hb'
  exact h w' (by simpa using hb') hm'
theorem appEach_cb (hm : P.follows .mixedOrders = true) (h : liftF P (F tAppendEach1) = some (ir_tAppendEach1 F)) (h1 : liftF P (F kAppendUvarint) = some (ir_kAppendUvarint F)) (h2 : liftF P (F kUvarintLen) = some (ir_kUvarintLen F)) (h3 : liftF P (F bLen32) = some (ir_bLen32 F))
    {w0 w : World} {Db k : Nat} {l b : List UInt8} {v : Value} (hD : DV w0 w Db l) (hDb : w0.heap.size ≤ Db) (hk : k < 4294967296) (hb : b.length ≤ 2147483647) (hv : SlC (fun b => b < w0.heap.size) w v b.length (u8s b)) (hlen : l.length + (uvE k ++ (uvE b.length ++ b)).length ≤ lim) :
    Calls P (F tAppendEach1) [.int .u32 (k : Nat), v, .pointer (some ⟨Db, 0, none⟩)].toArray w fun e w' => e = .returned (.tuple #[]) ∧ DV w0 w' Db (l ++ (uvE k ++ (uvE b.length ++ b))) ∧
      ∀ S : List Nat, Db ∈ S → (∀ dv, w.cell? ⟨Db, 0, none⟩ = some dv → ∀ x, ownB dv = some x → x ∈ S) → Mod S w w' ∧ ∀ dv dv', w.cell? ⟨Db, 0, none⟩ = some dv → w'.cell? ⟨Db, 0, none⟩ = some dv' → ∀ x, ownB dv' = some x → ownB dv = some x ∨ w.heap.size ≤ x := by
  obtain ⟨⟨dv, hblk, hraw, hne⟩, hm0⟩ := hD
  unfold ir_tAppendEach1 at h
  refine call_of h hm (by simp) ?_
  clear h
  simp only [List.length_append] at hlen
  obtain ⟨vb, vc, ev'⟩ := hv.shape
  have c0 := hblk.cell 0
  simp only [List.getElem?_cons_zero] at c0
  have hlt := hblk.lt
  -- one append, and the variable set
  have step : ∀ {σ : Sl} {w1 w2 : World} {dv1 : Value} {l1 l2 : List UInt8} {x : Nat} {dv2 : Value} {r : List RI} {Q : Sl → World → Prop}, σ 2 = .pointer (some ⟨Db, 0, none⟩) → σ x = dv2 → Blk w1 Db [dv1] → ownB dv1 ≠ some Db → Mod [] w0 w1 → DRaw w1 w0.heap.size dv1 l1 → AppD w0.heap.size w1 dv1 w2 dv2 l2 →
      (∀ w3, Blk w3 Db [dv2] → DRaw w3 w0.heap.size dv2 l2 → ownB dv2 ≠ some Db → Mod [] w0 w3 → Mod [Db] w2 w3 → wpR P r σ w3 Q) → wpR P (⟨none, .st (.tmp 2) 1 (.tmp x), none⟩ :: r) σ w2 Q := by
    intro σ w1 w2 dv1 l1 l2 x dv2 r Q s2 sx hb1 hne1 hm1 hd1 ha hQ
    have hb2 : Blk w2 Db [dv1] := hb1.mod ha.mod (by simpa using hne1)
    have hne2 : ownB dv2 ≠ some Db := by
      intro e
      rcases ha.own Db e with h | h
      · exact hne1 h
      · have := hb1.lt; omega
    refine goVar (b := Db) (v := dv2) (u := dv1) (by simp [s2]) (by simp [sx]) hb2 ha.raw.one fun w3 hb3 hm3 => ?_
    refine hQ w3 hb3 (ha.raw.mod hm3 fun b hb hc => by simp only [List.mem_singleton] at hc; subst hc; exact hne2 hb) hne2 ?_ hm3
    exact Mod.drop (b := Db) (S := []) ((ha.mod0 hd1 hm1).nil.trans hm3) hDb
  rw [wpC_seq, wpC_blk]
  refine go1 (v := dv) rfl (by simp [c0]) ?_
  refine go1 (v := .int .u32 (k : Nat)) rfl (by simp) ?_
  refine goCall rfl (vs := [dv, .int .u32 (k : Nat)]) (by simp) (kAppendUvarint_call hm h1 h2 h3 hk w0.heap.size w dv _ l hraw hm0.size (by omega) rfl) ?_
  rintro e w1 ⟨dv1, rfl, ha1⟩
  refine ⟨dv1, rfl, ?_⟩
  refine step (l1 := l) (by simp) (by simp) hblk hne hm0 hraw ha1 fun w2 b2 d2 n2 m2 k2 => wpR_done ?_
  have c2 := b2.cell 0
  simp only [List.getElem?_cons_zero] at c2
  rw [wpC_seq, wpC_blk]
  refine go1 (v := dv1) rfl (by simp [c2]) ?_
  refine go1 (v := v) rfl (by simp) ?_
  refine go1 (v := .int .i64 (b.length : Nat)) rfl (by simp [ev']) ?_
  refine go1 (v := .int .u32 (b.length : Nat)) rfl (by simp [u32_nat (n := b.length) (by omega)]) ?_
  refine goCall rfl (vs := [dv1, .int .u32 (b.length : Nat)]) (by simp) (kAppendUvarint_call hm h1 h2 h3 (by omega) w0.heap.size w2 dv1 _ _ d2 m2.size (by simp only [List.length_append]; omega) rfl) ?_
  rintro e w3 ⟨dv3, rfl, ha3⟩
  refine ⟨dv3, rfl, ?_⟩
  refine step (l1 := l ++ uvE k) (by simp) (by simp) b2 n2 m2 d2 ha3 fun w4 b4 d4 n4 m4 k4 => wpR_done ?_
  have c4 := b4.cell 0
  simp only [List.getElem?_cons_zero] at c4
  have hv4 : SlC anyB w4 v b.length (u8s b) := by
    have : SlC (fun b => b < w0.heap.size) w1 v b.length (u8s b) := hv.mod ha1.mod (fun x hx hc => by have := (hraw.own (b := x) (by simpa using hx)).1; omega) fun _ _ h => h
    have : SlC (fun b => b < w0.heap.size) w2 v b.length (u8s b) := this.mod k2 (by simp; omega) fun _ _ h => h
    have : SlC (fun b => b < w0.heap.size) w3 v b.length (u8s b) := this.mod ha3.mod (fun x hx hc => by have := (d2.own (b := x) (by simpa using hx)).1; omega) fun _ _ h => h
    exact this.mod k4 (by simp; omega) fun _ _ _ => trivial
  rw [wpC_blk]
  refine go1 (v := dv3) rfl (by simp [c4]) ?_
  refine go1 (v := v) rfl (by simp) ?_
  refine goC rfl ?_
  refine append_run (n0 := w0.heap.size) (v := dv3) (by simp) d4 m4.size (k := b) (by simpa using hv4.src) (by simp only [List.length_append]; omega) fun dv5 w5 ha5 => ?_
  refine step (l1 := l ++ uvE k ++ uvE b.length) (by simp) (by simp) b4 n4 m4 d4 ha5 fun w6 b6 d6 n6 m6 k6 => goEnd ?_
  simp only [postC, rvals, List.mapM_nil, Option.pure_def, tup]
  refine ⟨trivial, ⟨⟨dv5, b6, by simpa [List.append_assoc] using d6, n6⟩, m6⟩, fun S hS hown => ?_⟩
  have c6 := b6.cell 0
  simp only [List.getElem?_cons_zero] at c6
  -- what may have turned
  have tr : ∀ {wa wb : World} {da db : Value} {la : List UInt8}, Mod S w wa → AppD w0.heap.size wa da wb db la → (∀ x, ownB da = some x → x ∈ S ∨ w.heap.size ≤ x) → Mod S w wb := by
    intro wa wb da db la hma ha ho
    cases hda : ownB da with
    | none => have := ha.mod; rw [hda] at this; exact hma.trans this.nil
    | some x =>
      have hmd := ha.mod
      rw [hda] at hmd
      rcases ho x hda with h | h
      · exact hma.trans (hmd.mono (by simpa using h))
      · exact Mod.drop (b := x) ((hma.mono (by intro y hy; exact List.mem_cons_of_mem _ hy)).trans (hmd.mono (by simp))) h
  have o0 : ∀ x, ownB dv = some x → x ∈ S ∨ w.heap.size ≤ x := fun x hx => .inl (hown dv c0 x hx)
  have q1 := tr (Mod.refl S w) ha1 o0
  have q2 : Mod S w w2 := q1.trans (k2.mono (by simpa using hS))
  have o1 : ∀ x, ownB dv1 = some x → ownB dv = some x ∨ w.heap.size ≤ x := fun x hx => ha1.own x hx
  have q3 := tr q2 ha3 fun x hx => (o1 x hx).imp (fun h => hown dv c0 x h) id
  have q4 : Mod S w w4 := q3.trans (k4.mono (by simpa using hS))
  have o3 : ∀ x, ownB dv3 = some x → ownB dv = some x ∨ w.heap.size ≤ x := fun x hx => by
    rcases ha3.own x hx with h | h
    · exact o1 x h
    · exact .inr (Nat.le_trans q2.size h)
  have q5 := tr q4 ha5 fun x hx => (o3 x hx).imp (fun h => hown dv c0 x h) id
  have q6 : Mod S w w6 := q5.trans (k6.mono (by simpa using hS))
  refine ⟨q6, fun da db hda hdb x hx => ?_⟩
  rw [c0] at hda
  rw [c6] at hdb
  simp only [Option.some.injEq] at hda hdb
  subst hda; subst hdb
  rcases ha5.own x hx with h | h
  · exact o3 x h
  · exact .inr (Nat.le_trans q4.size h)
theorem tAppendEach_call (hm : P.follows .mixedOrders = true) (h : liftF P (F tAppendEach) = some (ir_tAppendEach F)) (hcb : liftF P (F tAppendEach1) = some (ir_tAppendEach1 F)) (hbody : hasBody P (F tAppendEach1) = true) (he : liftF P (F tEach) = some (ir_tEach F)) (hsort : SortC P (F sortSlice) (F tEach1) (F tyU32s))
    (h1 : liftF P (F kAppendUvarint) = some (ir_kAppendUvarint F)) (h2 : liftF P (F kUvarintLen) = some (ir_kUvarintLen F)) (h3 : liftF P (F bLen32) = some (ir_bLen32 F))
    {w0 w : World} {B o : Nat} {dv v : Value} {l : List UInt8} {m : List (Nat × List UInt8)} (hm0 : Mod [] w0 w) (hd : DRaw w w0.heap.size dv l) (hlen : l.length + (tagsR (sortT m)).length ≤ lim)
    (hc : w0.cell? ⟨B, o, none⟩ = some v) (hM : TagM anyB w0 v m) (hml : m.length ≤ 2147483647) (hmv : ∀ p ∈ m, p.2.length ≤ 2147483647) :
    Calls P (F tAppendEach) [.pointer (some ⟨B, o, none⟩), dv].toArray w fun e w' => ∃ dv', e = .returned dv' ∧ DRaw w' w0.heap.size dv' (l ++ tagsR (sortT m)) ∧ Mod [] w0 w' := by
  have hBl : B < w0.heap.size := World.block_lt_of_cell? w0 ⟨B, o, none⟩ hc
  unfold ir_tAppendEach at h
  refine call_of h hm (by simp) ?_
  clear h
  rw [wpC_seq, wpC_blk]
  have hone := hd.one
  refine goBox (v := dv) (by simp) fun w1 hb1 hm1 => ?_
  have hb1 : Blk w1 w.heap.size [dv] := by rw [hone.1] at hb1; simpa using hb1
  have hm01 := hm0.trans hm1
  refine go1 rfl rfl (wpR_done ?_)
  rw [wpC_seq, wpC_blk]
  refine go1 (v := .pointer (some ⟨B, o, none⟩)) rfl (by simp) ?_
  refine go1 (v := .func (.func (F tAppendEach1)) #[] #[.pointer (some ⟨w.heap.size, 0, none⟩)]) rfl (by simp) ?_
  have hne : ownB dv ≠ some w.heap.size := fun e => by have := (hd.own e).2; omega
  have hM1 : TagM (fun b => b < w0.heap.size) w1 v m := by
    rcases hM with h | ⟨r, e, hr⟩
    · exact .inl h
    · refine .inr ⟨r, e, ?_⟩
      have := hr.mod (ok' := fun b => b < w0.heap.size) (Mod.refl [] w0) (by simp) (by simp) fun b hb _ => hb
      exact this.mod hm01 (by simp) (by simp) fun _ _ h => h
  have hrl : ∀ r, v = .map (some r) → r < w0.heap.size := by
    intro r e
    rcases hM with ⟨h, -⟩ | ⟨r', e', hr⟩
    · rw [h] at e; cases e
    · rw [e'] at e; cases e; exact hr.lt
  have hcb' : EachCB P w1 (w.heap.size :: (ownB dv).toList) (fun b => b < w0.heap.size) (F tAppendEach1) [.pointer (some ⟨w.heap.size, 0, none⟩)]
      (fun wN done w2 => DV w0 w2 w.heap.size (l ++ tagsR done) ∧ ∀ d, w2.cell? ⟨w.heap.size, 0, none⟩ = some d → ∀ x, ownB d = some x → ownB dv = some x ∨ wN.heap.size ≤ x) (sortT m) := by
    rintro wN done k b w2 vv ⟨r, hall⟩ hmN ⟨hD, hown⟩ hdl hmS hk hb hvv
    have hl2 : (l ++ tagsR done).length + (uvE k ++ (uvE b.length ++ b)).length ≤ lim := by
      have : tagsR (sortT m) = tagsR done ++ ((uvE k ++ (uvE b.length ++ b)) ++ tagsR r) := by
        rw [hall]; simp only [tagsR, List.flatMap_append, List.flatMap_cons]
      rw [this] at hlen
      simp only [List.length_append] at hlen ⊢
      omega
    refine (appEach_cb hm hcb h1 h2 h3 hD hm0.size hk hb hvv hl2).mono ?_
    rintro e w3 ⟨rfl, hD3, hS3⟩
    obtain ⟨d2, hbd2, hrd2, hnd2⟩ := hD.ex
    have c2 := hbd2.cell 0
    simp only [List.getElem?_cons_zero] at c2
    have ho2 := hown d2 c2
    obtain ⟨q1, q2⟩ := hS3 (w.heap.size :: (ownB d2).toList) (by simp) (fun d hd x hx => by rw [c2] at hd; simp only [Option.some.injEq] at hd; subst hd; simp [hx])
    have e1 : l ++ tagsR (done ++ [(k, b)]) = l ++ tagsR done ++ (uvE k ++ (uvE b.length ++ b)) := by
      simp [tagsR, List.flatMap_append]
    refine ⟨rfl, ⟨by rw [e1]; exact hD3, fun d hd x hx => ?_⟩, ?_⟩
    · rcases q2 d2 d c2 hd x hx with h | h
      · exact ho2 x h
      · exact .inr (Nat.le_trans hmS.size h)
    · cases hx : ownB d2 with
      | none =>
        rw [hx] at q1
        exact hmS.trans (q1.mono (by simp))
      | some x =>
        rw [hx] at q1
        rcases ho2 x hx with h | h
        · exact hmS.trans (q1.mono (by simp [h]))
        · exact Mod.drop (b := x) ((hmS.mono (by intro y hy; exact List.mem_cons_of_mem _ hy)).trans (q1.mono (by simp))) h
  refine goCall rfl (vs := [.pointer (some ⟨B, o, none⟩), .func (.func (F tAppendEach1)) #[] [Value.pointer (some ⟨w.heap.size, 0, none⟩)].toArray]) (by simp)
    (tEach_call hm he hsort hcb' hbody (cell_mod hc hm01 (by simp)) hM1 hml hmv (by
      simp only [List.mem_cons, not_or]
      refine ⟨by have := hm0.size; omega, fun h => ?_⟩
      have := (hd.own (b := B) (by simpa using h)).1; omega) (fun r e => by
      have hr := hrl r e
      simp only [List.mem_cons, not_or]
      refine ⟨by have := hm0.size; omega, fun h => ?_⟩
      have := (hd.own (b := r) (by simpa using h)).1; omega) (fun b hb => by
      rcases List.mem_cons.1 hb with rfl | hb
      · exact hb1.lt
      · have := (hd.own (b := b) (by simpa using hb)).2; exact Nat.lt_of_lt_of_le this hm1.size) (fun b hb hx => by
      rcases List.mem_cons.1 hb with rfl | hb
      · have := hm0.size; omega
      · have := (hd.own (b := b) (by simpa using hb)).1; omega)
      (fun wN hmN => ⟨⟨⟨dv, hb1.mod hmN (by simp), by simpa [tagsR] using (hd.keep' hm1).keep' hmN, hne⟩, hm01.trans hmN⟩, fun d hdd x hx => by
        have := (hb1.mod hmN (by simp)).cell 0
        simp only [List.getElem?_cons_zero] at this
        rw [this] at hdd
        simp only [Option.some.injEq] at hdd
        subst hdd
        exact .inl hx⟩)) ?_
  rintro e w2 ⟨rfl, wN, hmN, ⟨hD, hown⟩, hmS⟩
  refine ⟨_, rfl, wpR_done ?_⟩
  obtain ⟨d2, hbd2, hrd2, hnd2⟩ := hD.ex
  have c2 := hbd2.cell 0
  simp only [List.getElem?_cons_zero] at c2
  rw [wpC_seq, wpC_blk]
  refine go1 (v := d2) rfl (by simp [c2]) ?_
  exact go1 (v := d2) rfl (by simp) (wpR_done (ret1 (v := d2) (by simp) ⟨d2, rfl, hrd2, hD.mod⟩))
end
end Go.Msk

namespace Go.Msk
open Go.RowKit
set_option maxRecDepth 100000
def encP (p : PK) (x : Bool) (g : GV) : List UInt8 :=
  match p, g with
  | .bool, .num (.bool b) => [if b then 1 else 0]
  | .i8, .num (.int _ n) => beI 1 n
  | .i16, .num (.int _ n) => beI 2 n
  | .u16, .num (.int _ n) => beI 2 n
  | .i32, .num (.int _ n) => beI 4 n
  | .i64, .num (.int _ n) => beI 8 n
  | .uuid, .arr l => l
  | .str, .num (.string s) => if x then uvE (s.data.toList.length + 1) ++ s.data.toList else beI 2 s.data.toList.length ++ s.data.toList
  | .nstr, .nstr o => encNStr x o
  | .byt, .byt o => if x then uvE ((o.getD []).length + 1) ++ o.getD [] else beI 4 (o.getD []).length ++ o.getD []
  | _, _ => []
def FitP (p : PK) (g : GV) : Prop :=
  match p with
  | .bool => ∃ b, g = .num (.bool b)
  | .i8 => ∃ n, g = .num (.int .i8 n)
  | .i16 => ∃ n, g = .num (.int .i16 n)
  | .u16 => ∃ n, g = .num (.int .u16 n) ∧ 0 ≤ n ∧ n < 65536
  | .i32 => ∃ n, g = .num (.int .i32 n)
  | .i64 => ∃ n, g = .num (.int .i64 n)
  | .uuid => ∃ l, g = .arr l ∧ l.length = 16
  | .str => ∃ l, g = .num (str l) ∧ l.length < 4294967295
  | .nstr => ∃ o, g = .nstr o ∧ ∀ s, o = some s → s.length < 4294967295
  | .byt => ∃ o, g = .byt o ∧ ∀ s, o = some s → s.length < 4294967295
  | _ => False
def encLen (nul x isnil : Bool) (n : Nat) : List UInt8 :=
  if x then (if nul && isnil then [0] else uvE (n + 1)) else if nul && isnil then beI 4 (-1) else beI 4 n
def ApF (P : Program) (f : FuncId) (p : PK) (x : Bool) : Prop :=
  ∀ (w0 w : World) (dv v : Value) (l : List UInt8) (g : GV), FitP p g → Rep [] w0 g [v] → Mod [] w0 w → DRaw w w0.heap.size dv l → l.length + (encP p x g).length ≤ lim →
    Calls P f [dv, v].toArray w fun e w' => ∃ dv', e = .returned dv' ∧ DRaw w' w0.heap.size dv' (l ++ encP p x g) ∧ Mod [] w0 w'
def ApL (P : Program) (f : FuncId) (nul x : Bool) : Prop :=
  ∀ (w0 w : World) (dv : Value) (l : List UInt8) (n : Nat) (isnil : Bool), n < 4294967295 → Mod [] w0 w → DRaw w w0.heap.size dv l → l.length + (encLen nul x isnil n).length ≤ lim →
    Calls P f ((dv :: .int .i64 (n : Nat) :: if nul then [Value.bool isnil] else []).toArray) w fun e w' => ∃ dv', e = .returned dv' ∧ DRaw w' w0.heap.size dv' (l ++ encLen nul x isnil n) ∧ Mod [] w0 w'
section
variable {P : Program} {F : Nat → Nat} {f : FuncId}
attribute [local simp] gOk updo upd ev RK.val? isShift intBin Addr.add_mk args0 Value.cells undef
theorem ApF.bool (h : ∀ b, AppK P f (fun _ v => v = .bool b) [if b then 1 else 0]) (x : Bool) : ApF P f .bool x := by
  rintro w0 w dv v l g ⟨b, rfl⟩ hr hm hd hl
  cases hr with | num h1 => exact h b w0 w dv _ l hm hd hl rfl
theorem ApF.int {p : PK} {k : IntKind} {m : Nat} {x : Bool} (hp : (p = .i8 ∧ k = .i8 ∧ m = 1) ∨ (p = .i16 ∧ k = .i16 ∧ m = 2) ∨ (p = .i32 ∧ k = .i32 ∧ m = 4) ∨ (p = .i64 ∧ k = .i64 ∧ m = 8)) (h : ∀ n, AppK P f (fun _ v => v = .int k n) (beI m n)) : ApF P f p x := by
  intro w0 w dv v l g hf hr hm hd hl
  rcases hp with ⟨rfl, rfl, rfl⟩ | ⟨rfl, rfl, rfl⟩ | ⟨rfl, rfl, rfl⟩ | ⟨rfl, rfl, rfl⟩ <;> obtain ⟨n, rfl⟩ := hf <;> cases hr with | num h1 => exact h n w0 w dv _ l hm hd hl rfl
theorem ApF.u16 {x : Bool} (h : ∀ n : Int, 0 ≤ n → n < 65536 → AppK P f (fun _ v => v = .int .u16 n) (beI 2 n)) : ApF P f .u16 x := by
  rintro w0 w dv v l g ⟨n, rfl, h1, h2⟩ hr hm hd hl
  cases hr with | num h3 => exact h n h1 h2 w0 w dv _ l hm hd hl rfl
theorem ApF.str {x : Bool} (h : ∀ s : List UInt8, s.length < 4294967295 → AppK P f (fun _ v => v = str s) (if x then uvE (s.length + 1) ++ s else beI 2 s.length ++ s)) : ApF P f .str x := by
  rintro w0 w dv v l g ⟨s, rfl, h1⟩ hr hm hd hl
  have e : encP .str x (.num (Msk.str s)) = if x then uvE (s.length + 1) ++ s else beI 2 s.length ++ s := rfl
  rw [e] at hl ⊢
  cases hr with | num h3 => exact h s h1 w0 w dv _ l hm hd hl rfl
theorem ApF.nstr {x : Bool} (h : ∀ o : Option (List UInt8), (∀ s, o = some s → s.length < 4294967295) → AppK P f (NStr o) (encNStr x o)) : ApF P f .nstr x := by
  rintro w0 w dv v l g ⟨o, rfl, h1⟩ hr hm hd hl
  refine h o h1 w0 w dv v l hm hd hl ?_
  cases hr with
  | nstr0 => exact rfl
  | nstr1 hb hcell => exact ⟨_, rfl, hcell⟩
theorem OctX.sl {O : List Nat} {w : World} {v : Value} {o : Option (List UInt8)} (h : OctX O w v o) : SlC anyB w v (o.getD []).length (u8s (o.getD [])) := by
  cases o with
  | none => have := h.1; simp only [IsOct] at this; subst this; exact SlC.nil
  | some l =>
    obtain ⟨a, n, c, rfl, hb⟩ := h.1
    obtain ⟨h1, h2, h3, h4⟩ := hb
    exact ⟨some a, c, by simp [h1], by simp [← h1]; omega, by simp, fun a' e _ => by cases e; exact ⟨trivial, (h.2 _ _ _ rfl).2, h4 _ rfl⟩⟩
theorem ApF.byt {x : Bool} (h : ∀ s : List UInt8, s.length < 4294967295 → AppK P f (fun w v => SlC anyB w v s.length (u8s s)) (if x then uvE (s.length + 1) ++ s else beI 4 s.length ++ s)) : ApF P f .byt x := by
  rintro w0 w dv v l g ⟨o, rfl, h1⟩ hr hm hd hl
  have e : encP .byt x (.byt o) = if x then uvE ((o.getD []).length + 1) ++ o.getD [] else beI 4 (o.getD []).length ++ o.getD [] := rfl
  rw [e] at hl ⊢
  cases hr with
  | byt ho =>
    refine h _ ?_ w0 w dv v l hm hd hl ho.sl
    cases o with
    | none => simp
    | some s => exact h1 s rfl
theorem tLen_call (hm : P.follows .mixedOrders = true) (h : liftF P f = some (.seq (.blk [⟨some 2, .mv (.const (.int .i64 0)), none⟩]) (.seq (.blk [⟨some 3, .mv (.tmp 0), none⟩, ⟨some 4, .nilc (.tmp 3), none⟩, ⟨some 5, .fad (.tmp 4) 0, none⟩, ⟨some 6, .ld (.tmp 5), none⟩, ⟨some 7, .mlen (.tmp 6), none⟩, ⟨some 2, .mv (.tmp 7), none⟩]) .ret), [.tmp 2], 8))
    {ok : Nat → Prop} {w : World} {B o : Nat} {v : Value} {m : List (Nat × List UInt8)} (hc : w.cell? ⟨B, o, none⟩ = some v) (hM : TagM ok w v m) :
    Calls P f [.pointer (some ⟨B, o, none⟩)].toArray w fun e w' => e = .returned (.int .i64 (m.length : Nat)) ∧ w' = w := by
  refine call_of h hm (by simp) ?_
  clear h
  rw [wpC_seq, wpC_blk]
  refine go1 rfl rfl (wpR_done ?_)
  rw [wpC_seq, wpC_blk]
  refine go1 (v := .pointer (some ⟨B, o, none⟩)) rfl (by simp) ?_
  refine go1 (v := .pointer (some ⟨B, o, none⟩)) rfl (by simp) ?_
  refine go1 (v := .pointer (some ⟨B, o, none⟩)) rfl (by simp) ?_
  refine go1 (v := v) rfl (by simp [hc]) ?_
  have hml : ∀ (σ : Sl) (x : Nat) (K : Value → World → Prop), σ x = v → K (.int .i64 (m.length : Nat)) w → (RK.mlen (.tmp x)).run P σ w K := by
    intro σ x K hx hK
    rcases hM with ⟨rfl, rfl⟩ | ⟨r, rfl, hr⟩
    · simp only [RK.run, ev, hx]; exact hK
    · obtain ⟨es, clock, h1, h2, -⟩ := hr.ex
      have hl : ∀ {es : List MapEntry} {m : List (Nat × List UInt8)}, EntL ok w es m → es.length = m.length := by
        intro es m h
        induction h with
        | nil => rfl
        | cons _ _ _ _ ih => simp [ih]
      have e1 : es.size = m.length := by simpa using hl h2
      simp only [RK.run, ev, hx, h1, e1]; exact hK
  refine goC rfl (hml _ _ _ (by simp) ?_)
  refine go1 (v := .int .i64 (m.length : Nat)) rfl (by simp) (wpR_done ?_)
  exact ret1 (v := .int .i64 (m.length : Nat)) (by simp) ⟨rfl, rfl⟩
end
end Go.Msk

namespace Go.Msk
open Go.RowKit
set_option maxRecDepth 100000
mutual
/-- How many cells a value has. -/
def GV.wid : GV → Nat
  | .arr l => l.length
  | .rcd l => GV.wids l
  | _ => 1
def GV.wids : List GV → Nat
  | [] => 0
  | g :: l => g.wid + GV.wids l
end
theorem Rep.wid {O : List Nat} {w : World} {g : GV} {cs : List Value} (h : Rep O w g cs) : cs.length = g.wid := by
  refine Rep.rec (motive_1 := fun g cs _ => cs.length = g.wid) (motive_2 := fun l css _ => css.flatten.length = GV.wids l) ?_ ?_ ?_ ?_ ?_ ?_ ?_ ?_ ?_ ?_ ?_ ?_ h
  all_goals intros; simp_all [GV.wid, GV.wids, u8s]
theorem Df.wid (d : Df) : d.gv.wid = d.size := by cases d <;> simp [Df.gv, Df.size, GV.wid]
end Go.Msk

namespace Go.Msk
open Go.RowKit
set_option maxRecDepth 100000
structure AC where
  f : FuncId
  g : Option FuncId
  deriving Inhabited
def AC.sel (a : AC) (x : Bool) : FuncId := match a.g with | none => a.f | some g => if x then a.f else g
def AC.fx (a : AC) : Bool := a.g.isSome
def acB (t y : Nat) (f : FuncId) : IC := .blk [⟨some t, .mv (.tmp 1), none⟩, ⟨some (t + 1), .mv (.tmp y), none⟩, ⟨some (t + 2), .call f [.tmp t, .tmp (t + 1)], none⟩, ⟨some 1, .mv (.tmp (t + 2)), none⟩]
def AC.gen (t y : Nat) (a : AC) : List IC :=
  match a.g with
  | none => [acB t y a.f]
  | some g => [.blk [⟨some t, .mv (.tmp 6), none⟩], .cond (.tmp t) (acB (t + 1) y a.f) (acB (t + 4) y g)]
def AC.nt (a : AC) : Nat := match a.g with | none => 3 | some _ => 7
def lcB (nul : Bool) (t y : Nat) (f : FuncId) : IC :=
  if nul then .blk [⟨some t, .mv (.tmp 1), none⟩, ⟨some (t + 1), .mv (.tmp y), none⟩, ⟨some (t + 2), .len (.tmp (t + 1)), none⟩, ⟨some (t + 3), .mv (.tmp y), none⟩, ⟨some (t + 4), .isnil .sl false (.tmp (t + 3)), none⟩, ⟨some (t + 5), .call f [.tmp t, .tmp (t + 2), .tmp (t + 4)], none⟩, ⟨some 1, .mv (.tmp (t + 5)), none⟩]
  else .blk [⟨some t, .mv (.tmp 1), none⟩, ⟨some (t + 1), .mv (.tmp y), none⟩, ⟨some (t + 2), .len (.tmp (t + 1)), none⟩, ⟨some (t + 3), .call f [.tmp t, .tmp (t + 2)], none⟩, ⟨some 1, .mv (.tmp (t + 3)), none⟩]
def lcN (nul : Bool) : Nat := if nul then 6 else 4
def AC.lgen (nul : Bool) (t y : Nat) (a : AC) : IC :=
  match a.g with
  | none => lcB nul t y a.f
  | some g => .seq (.blk [⟨some t, .mv (.tmp 6), none⟩]) (.cond (.tmp t) (lcB nul (t + 1) y a.f) (lcB nul (t + 1 + lcN nul) y g))
def AC.lnt (nul : Bool) (a : AC) : Nat := match a.g with | none => lcN nul | some _ => 1 + 2 * lcN nul
def lstA (v t nb nx : Nat) (body : List IC) : List IC :=
  [.blk [⟨some t, .mv (.tmp v), none⟩, ⟨some (t + 1), .len (.tmp t), none⟩, ⟨some (t + 2), .mv (.const (.int .i64 0)), none⟩],
   .block nb (.loop (.seq (.blk [⟨some (t + 3), .bin .lss (.tmp (t + 2)) (.tmp (t + 1)), none⟩]) (.seq (.cond (.tmp (t + 3)) .skip (.exit nb)) (.seq (.block (nb + 1) (seqs (.blk [⟨some (t + 4), .mv (.tmp (t + 2)), none⟩, ⟨some (v + 1), .mv (.tmp (t + 4)), none⟩] :: body)))
     (.blk [⟨some nx, .bin .add (.tmp (t + 2)) (.const (.int .i64 1)), none⟩, ⟨some (t + 2), .mv (.tmp nx), none⟩])))))]
inductive Ap where
  | nil
  | prm (vc : VC) (cp : Bool) (p : PK) (a : AC) (rest : Ap)
  | uid (vc : VC) (f : FuncId) (rest : Ap)
  | vst (vc : VC) (V : Int) (a1 a2 : AC) (rest : Ap)
  | lsp (vc : VC) (nul : Bool) (ln : AC) (p : PK) (a : AC) (rest : Ap)
  | lss (vc : VC) (nul : Bool) (ln : AC) (sz : Nat) (body rest : Ap)
  | sub (vc : VC) (sz : Nat) (body rest : Ap)
  | tags (ln uv ap : FuncId)
  deriving Inhabited
def Ap.nv : Ap → Nat
  | .nil => 0
  | .prm _ cp _ _ rest => (if cp then 2 else 1) + rest.nv
  | .uid _ _ rest => 1 + rest.nv
  | .vst _ _ _ _ rest => 3 + rest.nv
  | .lsp _ _ _ _ _ rest => 3 + rest.nv
  | .lss _ _ _ _ body rest => 3 + body.nv + rest.nv
  | .sub _ _ body rest => 1 + body.nv + rest.nv
  | .tags _ _ _ => 0
def Ap.nb : Ap → Nat
  | .nil => 0
  | .prm _ _ _ _ rest => rest.nb
  | .uid _ _ rest => rest.nb
  | .vst _ _ _ _ rest => rest.nb
  | .lsp _ _ _ _ _ rest => 2 + rest.nb
  | .lss _ _ _ _ body rest => 2 + body.nb + rest.nb
  | .sub _ _ body rest => body.nb + rest.nb
  | .tags _ _ _ => 0
def Ap.nt : Ap → Nat
  | .nil => 0
  | .prm vc cp _ a rest => vc.nt + (4 + (if cp then 1 else 0) + a.nt) + rest.nt
  | .uid vc _ rest => vc.nt + 7 + rest.nt
  | .vst vc _ a1 a2 rest => vc.nt + (12 + a1.nt + a2.nt) + rest.nt
  | .lsp vc nul ln _ a rest => vc.nt + (4 + ln.lnt nul + (9 + a.nt + 1)) + rest.nt
  | .lss vc nul ln _ body rest => vc.nt + (4 + ln.lnt nul + (8 + body.nt + 1)) + rest.nt
  | .sub vc _ body rest => vc.nt + (3 + body.nt) + rest.nt
  | .tags _ _ _ => 14
def E0 : RE := ⟨0, 5, 6, 2, 4, true, 0, 0⟩
def z16 : List Value := List.replicate 16 (.int .u8 0)
def vstA (sp off nv : Nat) (V : Int) (a1 a2 : AC) (t : Nat) : IC :=
  seqs [ldF sp nv t off, .blk [⟨some (t + 4), .mv (.tmp 5), none⟩, ⟨some (t + 5), .bin .lss (.tmp (t + 4)) (.const (.int .i16 V)), none⟩],
    .cond (.tmp (t + 5))
      (seqs (.blk [⟨some (nv + 1), .mv (.const (.string .empty)), none⟩] ::
        .seq (.blk [⟨some (t + 6), .mv (.tmp nv), none⟩, ⟨some (t + 7), .isnil .pt true (.tmp (t + 6)), none⟩])
          (.cond (.tmp (t + 7)) (.blk [⟨some (t + 8), .mv (.tmp nv), none⟩, ⟨some (t + 9), .nilc (.tmp (t + 8)), none⟩, ⟨some (t + 10), .ld (.tmp (t + 9)), none⟩, ⟨some (nv + 1), .mv (.tmp (t + 10)), none⟩]) .skip) ::
        .blk [⟨some (t + 11), .mv (.tmp (nv + 1)), none⟩, ⟨some (nv + 2), .mv (.tmp (t + 11)), none⟩] :: a1.gen (t + 12) (nv + 2)))
      (seqs (a2.gen (t + 12 + a1.nt) nv))]
def Ap.gen : Ap → (sp off nv nt nb : Nat) → List IC
  | .nil, _, _, _, _, _ => []
  | .prm vc cp _ a rest, sp, off, nv, nt, nb =>
    vc.wrap E0 nt (fun t => seqs (ldF sp nv t off :: (if cp then cpF nv (nv + 1) (t + 4) :: a.gen (t + 5) (nv + 1) else a.gen (t + 4) nv))) ::
      rest.gen sp (off + 1) (nv + (if cp then 2 else 1)) (nt + (vc.nt + (4 + (if cp then 1 else 0) + a.nt))) nb
  | .uid vc f rest, sp, off, nv, nt, nb =>
    vc.wrap E0 nt (fun t => .seq (.blk [⟨some t, .mv (.tmp sp), none⟩, ⟨some (t + 1), .nilc (.tmp t), none⟩, ⟨some (t + 2), .fad (.tmp (t + 1)) off, none⟩, ⟨some (t + 3), .ldn (.tmp (t + 2)) 16, none⟩, ⟨some nv, .alloc z16, none⟩, ⟨none, .st (.tmp nv) 16 (.tmp (t + 3)), none⟩])
      (.blk [⟨some (t + 4), .mv (.tmp 1), none⟩, ⟨some (t + 5), .ldn (.tmp nv) 16, none⟩, ⟨some (t + 6), .call f [.tmp (t + 4), .tmp (t + 5)], none⟩, ⟨some 1, .mv (.tmp (t + 6)), none⟩])) ::
      rest.gen sp (off + 16) (nv + 1) (nt + (vc.nt + 7)) nb
  | .vst vc V a1 a2 rest, sp, off, nv, nt, nb =>
    vc.wrap E0 nt (fun t => vstA sp off nv V a1 a2 t) :: rest.gen sp (off + 1) (nv + 3) (nt + (vc.nt + (12 + a1.nt + a2.nt))) nb
  | .lsp vc nul ln _ a rest, sp, off, nv, nt, nb =>
    vc.wrap E0 nt (fun t => seqs (ldF sp nv t off :: ln.lgen nul (t + 4) nv :: lstA nv (t + 4 + ln.lnt nul) nb (t + 4 + ln.lnt nul + 9 + a.nt)
      (.blk [⟨some (t + 4 + ln.lnt nul + 5), .mv (.tmp nv), none⟩, ⟨some (t + 4 + ln.lnt nul + 6), .mv (.tmp (nv + 1)), none⟩, ⟨some (t + 4 + ln.lnt nul + 7), .iad (.tmp (t + 4 + ln.lnt nul + 5)) (.tmp (t + 4 + ln.lnt nul + 6)) 1, none⟩, ⟨some (t + 4 + ln.lnt nul + 8), .ld (.tmp (t + 4 + ln.lnt nul + 7)), none⟩, ⟨some (nv + 2), .mv (.tmp (t + 4 + ln.lnt nul + 8)), none⟩] ::
        a.gen (t + 4 + ln.lnt nul + 9) (nv + 2)))) ::
      rest.gen sp (off + 1) (nv + 3) (nt + (vc.nt + (4 + ln.lnt nul + (9 + a.nt + 1)))) (nb + 2)
  | .lss vc nul ln sz body rest, sp, off, nv, nt, nb =>
    vc.wrap E0 nt (fun t => seqs (ldF sp nv t off :: ln.lgen nul (t + 4) nv :: lstA nv (t + 4 + ln.lnt nul) nb (t + 4 + ln.lnt nul + 8 + body.nt)
      (.blk [⟨some (t + 4 + ln.lnt nul + 5), .mv (.tmp nv), none⟩, ⟨some (t + 4 + ln.lnt nul + 6), .mv (.tmp (nv + 1)), none⟩, ⟨some (t + 4 + ln.lnt nul + 7), .iad (.tmp (t + 4 + ln.lnt nul + 5)) (.tmp (t + 4 + ln.lnt nul + 6)) sz, none⟩, ⟨some (nv + 2), .mv (.tmp (t + 4 + ln.lnt nul + 7)), none⟩] ::
        body.gen (nv + 2) 0 (nv + 3) (t + 4 + ln.lnt nul + 8) (nb + 2)))) ::
      rest.gen sp (off + 1) (nv + (3 + body.nv)) (nt + (vc.nt + (4 + ln.lnt nul + (8 + body.nt + 1)))) (nb + (2 + body.nb))
  | .sub vc sz body rest, sp, off, nv, nt, nb =>
    vc.wrap E0 nt (fun t => seqs (.blk [⟨some t, .mv (.tmp sp), none⟩, ⟨some (t + 1), .nilc (.tmp t), none⟩, ⟨some (t + 2), .fad (.tmp (t + 1)) off, none⟩, ⟨some nv, .mv (.tmp (t + 2)), none⟩] :: body.gen nv 0 (nv + 1) (t + 3) nb)) ::
      rest.gen sp (off + sz) (nv + (1 + body.nv)) (nt + (vc.nt + (3 + body.nt))) (nb + body.nb)
  | .tags ln uv ap, sp, off, _, t, _ =>
    [.seq (.blk [⟨some t, .mv (.tmp 6), none⟩]) (.cond (.tmp t)
      (.seq (.blk [⟨some (t + 1), .mv (.tmp 1), none⟩, ⟨some (t + 2), .mv (.tmp sp), none⟩, ⟨some (t + 3), .nilc (.tmp (t + 2)), none⟩, ⟨some (t + 4), .fad (.tmp (t + 3)) off, none⟩, ⟨some (t + 5), .call ln [.tmp (t + 4)], none⟩, ⟨some (t + 6), .conv .u32 (.tmp (t + 5)), none⟩,
          ⟨some (t + 7), .bin .add (.const (.int .u32 0)) (.tmp (t + 6)), none⟩, ⟨some (t + 8), .call uv [.tmp (t + 1), .tmp (t + 7)], none⟩, ⟨some 1, .mv (.tmp (t + 8)), none⟩])
        (.blk [⟨some (t + 9), .mv (.tmp sp), none⟩, ⟨some (t + 10), .nilc (.tmp (t + 9)), none⟩, ⟨some (t + 11), .fad (.tmp (t + 10)) off, none⟩, ⟨some (t + 12), .mv (.tmp 1), none⟩, ⟨some (t + 13), .call ap [.tmp (t + 11), .tmp (t + 12)], none⟩, ⟨some 1, .mv (.tmp (t + 13)), none⟩])) .skip)]
structure ATop where
  flex : Option Int
  ap : Ap
  deriving Inhabited
def ATop.n0 (T : ATop) : Nat := if T.flex.isSome then 7 else 6
def ATop.t0 (T : ATop) : Nat := T.n0 + T.ap.nv
def ATop.tf (T : ATop) : Nat := T.t0 + 5 + (if T.flex.isSome then 3 else 0)
def ATop.gen (T : ATop) : IC × List RV × Nat :=
  (seqs ([.blk [⟨some 4, .mv (.const (.slice none 0 0)), none⟩], ldF 0 5 T.t0 0, .blk [⟨some (T.t0 + 4), .mv (.tmp 5), none⟩]] ++
    ((match T.flex with
      | none => []
      | some n => [.blk [⟨some (T.t0 + 5), .mv (.tmp 5), none⟩, ⟨some (T.t0 + 6), .bin .geq (.tmp (T.t0 + 5)) (.const (.int .i16 n)), none⟩, ⟨some 6, .mv (.tmp (T.t0 + 6)), none⟩], .blk [⟨some (T.t0 + 7), .mv (.tmp 6), none⟩]]) ++
    (T.ap.gen 0 1 T.n0 T.tf 0 ++ [.blk [⟨some (T.tf + T.ap.nt), .mv (.tmp 1), none⟩, ⟨some 4, .mv (.tmp (T.tf + T.ap.nt)), none⟩], .ret]))), [.tmp 4], T.tf + T.ap.nt + 1)
def encV (V ver : Int) (x : Bool) (g : GV) : List UInt8 :=
  if ver < V then (match g with
    | .nstr o => encP .str x (.num (Msk.str (o.getD [])))
    | _ => []) else encP .nstr x g
def Ap.enc (ver : Int) (x : Bool) : Ap → List GV → List UInt8
  | .nil, _ => []
  | .prm vc _ p _ rest, g :: gs => (if vc.holds ver then encP p x g else []) ++ rest.enc ver x gs
  | .uid vc _ rest, g :: gs => (if vc.holds ver then encP .uuid x g else []) ++ rest.enc ver x gs
  | .vst vc V _ _ rest, g :: gs => (if vc.holds ver then encV V ver x g else []) ++ rest.enc ver x gs
  | .lsp vc nul _ p _ rest, g :: gs => (if vc.holds ver then (match g with | .lst isnil _ es => encLen nul x isnil es.length ++ es.flatMap (encP p x) | _ => []) else []) ++ rest.enc ver x gs
  | .lss vc nul _ _ body rest, g :: gs => (if vc.holds ver then (match g with | .lst isnil _ es => encLen nul x isnil es.length ++ es.flatMap (fun g => match g with | .rcd l => body.enc ver x l | _ => []) | _ => []) else []) ++ rest.enc ver x gs
  | .sub vc _ body rest, g :: gs => (if vc.holds ver then (match g with | .rcd l => body.enc ver x l | _ => []) else []) ++ rest.enc ver x gs
  | .tags _ _ _, g :: _ => if x then (match g with | .tag m => uvE m.length ++ tagsR (sortT m) | _ => []) else []
  | _, [] => []
def FitL (sz : Nat) (e : GV → Prop) (g : GV) : Prop := ∃ isnil s es, g = .lst isnil s es ∧ (isnil = false → s = sz) ∧ es.length < 4294967295 ∧ ∀ y ∈ es, e y
def Ap.Fit (ver : Int) : Ap → List GV → Prop
  | .nil, gs => gs = []
  | .prm vc _ p _ rest, gs => ∃ g r, gs = g :: r ∧ g.wid = 1 ∧ (vc.holds ver = true → FitP p g ∧ p ≠ .uuid) ∧ rest.Fit ver r
  | .uid vc _ rest, gs => ∃ g r, gs = g :: r ∧ g.wid = 16 ∧ (vc.holds ver = true → FitP .uuid g) ∧ rest.Fit ver r
  | .vst vc _ _ _ rest, gs => ∃ g r, gs = g :: r ∧ g.wid = 1 ∧ (vc.holds ver = true → FitP .nstr g) ∧ rest.Fit ver r
  | .lsp vc _ _ p _ rest, gs => ∃ g r, gs = g :: r ∧ g.wid = 1 ∧ (vc.holds ver = true → FitL 1 (FitP p) g ∧ p ≠ .uuid) ∧ rest.Fit ver r
  | .lss vc _ _ sz body rest, gs => ∃ g r, gs = g :: r ∧ g.wid = 1 ∧ (vc.holds ver = true → FitL sz (fun y => ∃ l, y = .rcd l ∧ body.Fit ver l) g) ∧ rest.Fit ver r
  | .sub vc sz body rest, gs => ∃ g r, gs = g :: r ∧ g.wid = sz ∧ (vc.holds ver = true → ∃ l, g = .rcd l ∧ body.Fit ver l) ∧ rest.Fit ver r
  | .tags _ _ _, gs => ∃ g, gs = [g] ∧ ∃ m, g = .tag m ∧ m.length ≤ 2147483647 ∧ ∀ p ∈ m, p.2.length ≤ 2147483647
end Go.Msk

namespace Go.Msk
open Go.RowKit
set_option maxRecDepth 100000
section
variable {P : Program} {F : Nat → Nat}
attribute [local simp] bnd wpC wpR RI.wp gOk RK.run thenC inBlockC updo upd ev args0 postC rvals RV.val tup_one isShift
theorem append_two {σ : Sl} {w : World} {x y : Operand} {lv : Value} {css : List (List Value)} {es : List Value} {n0 sb : Nat} {K : Value → World → Prop} (hx : ev σ x = lv) (hraw : LRaw2 w n0 lv css) (hn0 : n0 ≤ w.heap.size)
    (hy : ev σ y = .slice (some ⟨sb, 0, none⟩) 1 1) (hsb : Blk w sb es) (h5 : es.length = 2) (hone : ∀ v ∈ es, v.oneCell' = true) (hl : css.length ≤ 2147483647)
    (hK : ∀ lv' w', LRaw2 w' n0 lv' (css ++ [es]) → (((own lv' = own lv ∧ Mod (own lv).toList w w') ∧ ∃ BA c, lv = .slice (some ⟨BA, 0, none⟩) css.length c ∧ css.length + 1 ≤ c) ∨ (own lv' = some w.heap.size ∧ Mod [] w w')) → K lv' w') : (RK.append x y 2 32).run P σ w K := by
  have hsrc : srcCells w 2 (.slice (some ⟨sb, 0, none⟩) 1 1) = some (1, es) := by
    simp only [srcCells, cellsAt_of' hsb.cells (n := 1 * 2) (by omega), Option.map_some]
  simp only [RK.run, hx, hy]
  have h5' : ∀ cs ∈ css ++ [es], cs.length = 2 := fun cs hc => by
    rcases List.mem_append.1 hc with hc | hc
    · exact hraw.two cs hc
    · simp only [List.mem_singleton] at hc; subst hc; exact h5
  have hfl : css.flatten.length = css.length * 2 := flatten_length hraw.two
  rcases hraw.sl with ⟨rfl, rfl⟩ | ⟨BA, cap, rest, rfl, h2, h3, h4, hr⟩
  · simp only [hsrc, appendRun]
    rw [if_neg (by omega)]
    refine ⟨by omega, by omega, ?_⟩
    intro T cap rest hc hr
    refine hK _ _ ⟨h5', .inr ⟨w.heap.size, cap, rest, rfl, by simpa using hc, hn0, ?_, by simpa using hr⟩⟩ (.inr ⟨rfl, (Mod.drew _ _).trans (Mod.alloc _ _ _)⟩)
    have := Blk.new w.drew (es ++ rest) T
    simpa using this
  · simp only [hsrc, appendRun]
    by_cases hc : css.length + 1 ≤ cap
    · rw [if_pos hc]
      simp only [Addr.add_mk, Nat.zero_add]
      refine ⟨stOk_many h4 (by simp only [List.length_append]; omega) hone, hK _ _ ⟨h5', .inr ⟨BA, cap, rest.drop 2, by simp, by simpa using hc, h3, ?_, by simp; omega⟩⟩ (.inl ⟨⟨rfl, by simpa [own] using Mod.put (by simp)⟩, BA, cap, rfl, hc⟩)⟩
      have hput := h4.put (o := css.length * 2) (vs := es) (by simp only [List.length_append]; omega)
      have : splice (css.flatten ++ rest) (css.length * 2) es = (css ++ [es]).flatten ++ rest.drop 2 := by
        rw [splice_end hfl, h5, flat_snoc, List.append_assoc]
      rwa [this] at hput
    · rw [if_neg hc]
      refine ⟨by omega, by omega, ?_⟩
      have hco : cellsAt w ⟨BA, 0, none⟩ 0 (css.length * 2) = some css.flatten := by
        have := h4.cells.take css.flatten.length
        rw [List.take_left] at this
        exact cellsAt_of' this hfl
      simp only [hco]
      intro T cap' rest' hc' hr'
      refine hK _ _ ⟨h5', .inr ⟨w.heap.size, cap', rest', by simp, by simpa using hc', hn0, ?_, by simpa using hr'⟩⟩ (.inr ⟨rfl, (Mod.drew _ _).trans (Mod.alloc _ _ _)⟩)
      have := Blk.new w.drew (css.flatten ++ (es ++ rest')) T
      simpa using this
theorem RepU.append {ok : Nat → Prop} {w : World} {l l' : List (Nat × List UInt8)} {css css' : List (List Value)} (h : RepU ok w l css) (h' : RepU ok w l' css') : RepU ok w (l ++ l') (css ++ css') := by
  induction h with
  | nil => exact h'
  | cons h1 _ ih => exact .cons h1 ih
theorem RepU.two {ok : Nat → Prop} {w : World} {l : List (Nat × List UInt8)} {css : List (List Value)} (h : RepU ok w l css) : ∀ c ∈ css, c.length = 2 := by
  induction h with
  | nil => simp
  | cons h1 _ ih =>
    intro c hc
    rcases List.mem_cons.1 hc with rfl | hc
    · rfl
    · exact ih c hc
theorem RepU.length {ok : Nat → Prop} {w : World} {l : List (Nat × List UInt8)} {css : List (List Value)} (h : RepU ok w l css) : l.length = css.length := by
  induction h with
  | nil => rfl
  | cons h1 _ ih => simp [ih]
theorem RepU.nth {ok : Nat → Prop} {w : World} {l : List (Nat × List UInt8)} {css : List (List Value)} (h : RepU ok w l css) {j : Nat} {t : Nat × List UInt8} (ht : l[j]? = some t) : ∃ v, css[j]? = some [.int .u32 t.1, v] ∧ SlC ok w v t.2.length (u8s t.2) := by
  induction h generalizing j with
  | nil => simp at ht
  | cons h1 _ ih =>
    cases j with
    | zero => simp only [List.getElem?_cons_zero, Option.some.injEq] at ht; subst ht; exact ⟨_, rfl, h1⟩
    | succ j => simp only [List.getElem?_cons_succ] at ht ⊢; exact ih ht
end
end Go.Msk

namespace Go.Msk
open Go.RowKit
set_option maxRecDepth 100000
def ziP : PK → List Value
  | .bool => [.bool false]
  | .i8 => [.int .i8 0]
  | .i16 => [.int .i16 0]
  | .u16 => [.int .u16 0]
  | .i32 => [.int .i32 0]
  | .i64 => [.int .i64 0]
  | .str => [.string .empty]
  | .uuid => u8s (List.replicate 16 0)
  | _ => [.int .i64 0]
inductive Fl where
  | nil
  | prm (p : PK) (rest : Fl)
  | lsp (p : PK) (bytes : Nat) (rest : Fl)
  | lss (f : FuncId) (bytes : Nat) (body rest : Fl)
  | tags (set : FuncId)
  deriving Inhabited
def Fl.zs : Fl → List (List Value)
  | .nil => []
  | .prm p rest => ziP p :: rest.zs
  | .lsp _ _ rest => [.slice none 0 0] :: rest.zs
  | .lss _ _ _ rest => [.slice none 0 0] :: rest.zs
  | .tags _ => [[.map none]]
def Fl.loops : Fl → Nat
  | .nil => 0
  | .prm _ rest => rest.loops
  | .lsp _ _ rest => 1 + rest.loops
  | .lss _ _ _ rest => 1 + rest.loops
  | .tags _ => 1
end Go.Msk
