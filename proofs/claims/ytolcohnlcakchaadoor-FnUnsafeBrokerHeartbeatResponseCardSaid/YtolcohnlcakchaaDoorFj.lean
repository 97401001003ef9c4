/- A small language of resolved operations, and what the generic and the generated functions do in it (part 10). -/
import Derived.Test.YtolcohnlcakchaaDoorFi

namespace Go.Msk
open Go.RowKit
set_option maxRecDepth 100000
section
variable {P : Program} {F : Nat → Nat}
def EachCB (P : Program) (w0 : World) (S : List Nat) (okv : Nat → Prop) (g : FuncId) (captured : List Value) (I : World → List (Nat × List UInt8) → World → Prop) (all : List (Nat × List UInt8)) : Prop :=
  ∀ (wN : World) (done : List (Nat × List UInt8)) (k : Nat) (l : List UInt8) (w1 : World) (v : Value), (∃ r, all = done ++ (k, l) :: r) → Mod [] w0 wN → I wN done w1 → done.length < 2147483647 → Mod S wN w1 → k < 4294967296 → l.length ≤ 2147483647 → SlC okv w1 v l.length (u8s l) →
    Calls P g ([u32v k, v] ++ captured).toArray w1 fun e w2 => e = .returned (.tuple #[]) ∧ I wN (done ++ [(k, l)]) w2 ∧ Mod S wN w2
theorem getT_len {m : List (Nat × List UInt8)} (h : ∀ p ∈ m, p.2.length ≤ 2147483647) (k : Nat) : (getT m k).length ≤ 2147483647 := by
  unfold getT
  cases hf : m.find? (fun p => k == p.1) with
  | none => simp
  | some p => exact h p (List.mem_of_find?_eq_some hf)
theorem each_loop2 {w0 wN w : World} {S : List Nat} {okv : Nat → Prop} {g : FuncId} {captured : List Value} {I : World → List (Nat × List UInt8) → World → Prop} {m : List (Nat × List UInt8)} {ks : List Nat} (hcb : EachCB P w0 S okv g captured I (ks.map fun k => (k, getT m k))) (hbody : hasBody P g = true)
    {σ : Sl} {B o R r : Nat} {Q : Exit → Sl → World → Prop} (h0 : σ 0 = .pointer (some ⟨B, o, none⟩)) (h1 : σ 1 = .func (.func g) #[] captured.toArray) (h37 : σ 37 = .slice (some ⟨R, 0, none⟩) ks.length ks.length)
    (h38 : σ 38 = .int .i64 ks.length) (h39 : σ 39 = .int .i64 0) (hmN : Mod [] w0 wN) (hw : w = wN) (hrow : Blk wN R (ks.map u32v)) (hcell : wN.cell? ⟨B, o, none⟩ = some (.map (some r))) (hM : MapRep okv wN r m) (hB : B ∉ S) (hr : r ∉ S) (hR : R ∉ S) (hS : ∀ b ∈ S, ¬ okv b)
    (hmv : ∀ p ∈ m, p.2.length ≤ 2147483647) (hks : ∀ k ∈ ks, k ∈ m.map (·.1)) (hlen : ks.length ≤ 2147483647) (hI : I wN [] wN)
    (hQ : ∀ σ' w', I wN (ks.map fun k => (k, getT m k)) w' → Mod S wN w' → Q .normal σ' w') :
    wpC P (.block 2 (.loop (.seq (.blk [⟨some 40, .bin .lss (.tmp 39) (.tmp 38), none⟩])
        (.seq (.cond (.tmp 40) .skip (.exit 2))
        (.seq (.block 3 (.seq (.blk [⟨some 41, .iad (.tmp 37) (.tmp 39) 1, none⟩, ⟨some 42, .ld (.tmp 41), none⟩, ⟨some 7, .mv (.tmp 42), none⟩])
          (.blk [⟨some 43, .mv (.tmp 1), none⟩, ⟨some 44, .mv (.tmp 7), none⟩, ⟨some 45, .mv (.tmp 0), none⟩, ⟨some 46, .nilc (.tmp 45), none⟩, ⟨some 47, .fad (.tmp 46) 0, none⟩, ⟨some 48, .ld (.tmp 47), none⟩, ⟨some 49, .mv (.tmp 7), none⟩,
            ⟨some 50, .mlook (.tmp 48) (.tmp 49) (.slice none 0 0), none⟩, ⟨some 51, .callv (.tmp 43) [.tmp 44, .tmp 50], none⟩])))
        (.blk [⟨some 52, .bin .add (.tmp 39) (.const (.int .i64 1)), none⟩, ⟨some 39, .mv (.tmp 52), none⟩])))))) Q σ w := by
  subst hw
  rw [wpC_block, wpC_loop]
  refine ⟨fun σ' w' => ∃ i, i ≤ ks.length ∧ σ' 0 = .pointer (some ⟨B, o, none⟩) ∧ σ' 1 = .func (.func g) #[] captured.toArray ∧ σ' 37 = .slice (some ⟨R, 0, none⟩) ks.length ks.length ∧ σ' 38 = .int .i64 ks.length ∧ σ' 39 = .int .i64 (i : Nat) ∧
      I w ((ks.take i).map fun k => (k, getT m k)) w' ∧ Mod S w w', fun σ' _ => match σ' 39 with | .int _ i => ks.length - i.toNat | _ => 0, ⟨0, Nat.zero_le _, h0, h1, h37, h38, h39, by simpa using hI, Mod.refl _ _⟩, ?_⟩
  rintro σ1 w1 ⟨i, hi, s0, s1, s37, s38, s39, hI1, hm1⟩
  rw [wpC_seq, wpC_blk]
  refine wpR_step (v := .bool (decide (i < ks.length))) (by
    simp only [RK.val?, ev, s39, s38, isShift, decide_true, Bool.or_true, if_true, intBin]
    congr 2; exact decide_eq_decide.2 (by omega)) ?_
  refine wpR_done ?_
  by_cases hlt : i < ks.length
  · rw [wpC_seq, wpC_cond_t (by simp only [ev, updo, upd, if_true, hlt, decide_true]), wpC_skip]
    simp only [thenC]
    rw [wpC_seq, wpC_block, wpC_seq, wpC_blk]
    have hki : ks[i]? = some ks[i] := List.getElem?_eq_getElem hlt
    have hkm := hks ks[i] (List.getElem_mem hlt)
    have htk : ks.take (i + 1) = ks.take i ++ [ks[i]] := (List.take_append_getElem hlt).symm
    generalize ks[i] = k at hki hkm htk
    have c41 : w1.cell? ⟨R, i, none⟩ = some (u32v k) := by
      have := (hrow.mod hm1 hR).cell i
      rw [this, List.getElem?_map, hki]; rfl
    refine wpR_step (v := .pointer (some ⟨R, i, none⟩)) (by
      simp only [RK.val?, ev, updo, upd, show (37 : Nat) ≠ 40 by decide, show (39 : Nat) ≠ 40 by decide, if_false, s37, s39]
      rw [if_pos (by omega)]
      simp [Addr.add_mk]) ?_
    refine wpR_step (v := u32v k) (by simp only [RK.val?, ev, updo, upd, if_true, c41]) ?_
    refine wpR_step (v := u32v k) (by simp only [RK.val?, ev, updo, upd, if_true]) ?_
    refine wpR_done ?_
    rw [wpC_blk]
    have hcell1 : w1.cell? ⟨B, o, none⟩ = some (.map (some r)) := cell_mod hcell hm1 hB
    have hM1 := hM.mod (ok' := okv) hm1 hr hS fun _ _ h => h
    obtain ⟨es, clock, he1, he2, he3, he4⟩ := hM1.ex
    obtain ⟨e, hf, hv⟩ := he2.get hkm
    have hk32 := he2.lt32 k hkm
    have hmg : mapGet es k (.slice none 0 0) = e.val := by unfold mapGet; rw [hf]
    refine wpR_step (v := .func (.func g) #[] captured.toArray) (by simp only [RK.val?, ev, updo, upd]; simp [s1]) ?_
    refine wpR_step (v := u32v k) (by simp only [RK.val?, ev, updo, upd]; simp) ?_
    refine wpR_step (v := .pointer (some ⟨B, o, none⟩)) (by simp only [RK.val?, ev, updo, upd]; simp [s0]) ?_
    refine wpR_step (v := .pointer (some ⟨B, o, none⟩)) (by simp only [RK.val?, ev, updo, upd, if_true]) ?_
    refine wpR_step (v := .pointer (some ⟨B, o, none⟩)) (by simp only [RK.val?, ev, updo, upd, if_true, Addr.add_mk, Nat.add_zero]) ?_
    refine wpR_step (v := .map (some r)) (by simp only [RK.val?, ev, updo, upd, if_true, hcell1]) ?_
    refine wpR_step (v := u32v k) (by simp only [RK.val?, ev, updo, upd]; simp) ?_
    refine wpR_run ?_
    simp only [RK.run, ev, updo, upd, show (48 : Nat) ≠ 49 by decide, if_false, if_true, u32v, he1]
    refine ⟨he2.keys, ?_⟩
    rw [hmg]
    refine wpR_run ?_
    have hc := hcb w ((ks.take i).map fun k => (k, getT m k)) k (getT m k) w1 e.val ⟨(ks.drop (i + 1)).map fun k => (k, getT m k), by
      have : ks = ks.take i ++ k :: ks.drop (i + 1) := by
        have h1 := (List.take_append_drop (i + 1) ks).symm
        rw [htk, List.append_assoc] at h1
        exact h1
      conv => lhs; rw [this]
      simp⟩ hmN hI1 (by simp only [List.length_map, List.length_take]; omega) hm1 hk32 (getT_len hmv k) hv
    simp only [RK.run, ev, updo, upd, show (43 : Nat) ≠ 50 by decide, show (43 : Nat) ≠ 49 by decide, show (43 : Nat) ≠ 48 by decide, show (43 : Nat) ≠ 47 by decide, show (43 : Nat) ≠ 46 by decide, show (43 : Nat) ≠ 45 by decide, show (43 : Nat) ≠ 44 by decide,
      show (44 : Nat) ≠ 50 by decide, show (44 : Nat) ≠ 49 by decide, show (44 : Nat) ≠ 48 by decide, show (44 : Nat) ≠ 47 by decide, show (44 : Nat) ≠ 46 by decide, show (44 : Nat) ≠ 45 by decide, if_false, if_true, List.map_cons, List.map_nil, List.nil_append]
    refine ⟨hbody, hc.mono ?_⟩
    rintro en w2 ⟨rfl, hI2, hm2⟩
    refine ⟨_, rfl, ?_⟩
    simp only [wpR, inBlockC, thenC]
    rw [wpC_blk]
    refine wpR_step (v := .int .i64 ((i + 1 : Nat) : Int)) (by
      simp only [RK.val?, ev, upd, show (39 : Nat) ≠ 51 by decide, show (39 : Nat) ≠ 50 by decide, show (39 : Nat) ≠ 49 by decide, show (39 : Nat) ≠ 48 by decide, show (39 : Nat) ≠ 47 by decide, show (39 : Nat) ≠ 46 by decide, show (39 : Nat) ≠ 45 by decide, show (39 : Nat) ≠ 44 by decide, show (39 : Nat) ≠ 43 by decide, show (39 : Nat) ≠ 7 by decide, show (39 : Nat) ≠ 42 by decide, show (39 : Nat) ≠ 41 by decide, show (39 : Nat) ≠ 40 by decide, if_false, s39, isShift, decide_true, Bool.or_true, if_true, intBin]
      have e1 : (i : Int) + 1 = ((i + 1 : Nat) : Int) := by omega
      rw [e1, i64_small (by omega) (by omega)]) ?_
    refine wpR_step (v := .int .i64 ((i + 1 : Nat) : Int)) (by simp only [RK.val?, ev, updo, upd, if_true]) ?_
    simp only [wpR]
    refine ⟨⟨i + 1, by omega, by simp [updo, upd, s0], by simp [updo, upd, s1], by simp [updo, upd, s37], by simp [updo, upd, s38], by simp only [updo, upd, if_true], ?_, hm2⟩, ?_⟩
    · rw [htk, List.map_append]; exact hI2
    · simp only [updo, upd, if_true, s39]; omega
  · rw [wpC_seq, wpC_cond_f (by simp only [ev, updo, upd, if_true, hlt, decide_false])]
    refine wpC_exit_out ?_
    refine hQ _ w1 ?_ hm1
    have : i = ks.length := by omega
    subst this
    simpa using hI1
theorem tEach_call {w : World} (hm : P.follows .mixedOrders = true) (h : liftF P (F tEach) = some (ir_tEach F)) (hsort : SortC P (F sortSlice) (F tEach1) (F tyU32s))
    {S : List Nat} {okv : Nat → Prop} {g : FuncId} {captured : List Value} {I : World → List (Nat × List UInt8) → World → Prop} {m : List (Nat × List UInt8)} (hcb : EachCB P w S okv g captured I (sortT m)) (hbody : hasBody P g = true)
    {B o : Nat} {v : Value} (hc : w.cell? ⟨B, o, none⟩ = some v) (hM : TagM okv w v m) (hlen : m.length ≤ 2147483647) (hmv : ∀ p ∈ m, p.2.length ≤ 2147483647) (hB : B ∉ S) (hr : ∀ r, v = .map (some r) → r ∉ S) (hSl : ∀ b ∈ S, b < w.heap.size) (hS : ∀ b ∈ S, ¬ okv b)
    (hI : ∀ wN, Mod [] w wN → I wN [] wN) :
    Calls P (F tEach) [.pointer (some ⟨B, o, none⟩), .func (.func g) #[] captured.toArray].toArray w fun e w' => e = .returned (.tuple #[]) ∧ ∃ wN, Mod [] w wN ∧ I wN (sortT m) w' ∧ Mod S wN w' := by
  unfold ir_tEach at h
  refine call_of h hm (by simp) ?_
  have a0 : args0 [.pointer (some ⟨B, o, none⟩), .func (.func g) #[] captured.toArray] 0 = .pointer (some ⟨B, o, none⟩) := rfl
  have a1 : args0 [.pointer (some ⟨B, o, none⟩), .func (.func g) #[] captured.toArray] 1 = .func (.func g) #[] captured.toArray := rfl
  generalize args0 [.pointer (some ⟨B, o, none⟩), .func (.func g) #[] captured.toArray] = σ0 at a0 a1 ⊢
  rw [wpC_seq, wpC_seq, wpC_blk]
  refine wpR_step (v := .pointer (some ⟨B, o, none⟩)) (congrArg some a0) ?_
  refine wpR_step (v := .pointer (some ⟨B, o, none⟩)) (by simp only [RK.val?, ev, updo, upd, if_true]) ?_
  refine wpR_step (v := .pointer (some ⟨B, o, none⟩)) (by simp only [RK.val?, ev, updo, upd, if_true, Addr.add_mk, Nat.add_zero]) ?_
  refine wpR_step (v := v) (by simp only [RK.val?, ev, updo, upd, if_true, hc]) ?_
  have hml : ∀ (σ : Sl) (x : Nat) (K : Value → World → Prop), σ x = v → K (.int .i64 m.length) w → (RK.mlen (.tmp x)).run P σ w K := by
    intro σ x K hx hK
    rcases hM with ⟨rfl, rfl⟩ | ⟨r, rfl, hM⟩
    · simp only [RK.run, ev, hx]; exact hK
    · obtain ⟨es, clock, he1, he2, -, -⟩ := hM.ex
      have hl := he2.len
      simp only [RK.run, ev, hx, he1]
      have : es.size = m.length := by simpa using hl
      rw [this]; exact hK
  refine wpR_run ?_
  refine hml _ 11 _ (by simp only [updo, upd, if_true]) ?_
  refine wpR_step (v := .bool (decide (m.length = 0))) (by
    simp only [RK.val?, ev, updo, upd, if_true, isShift, decide_true, Bool.or_true, intBin]
    congr 2
    by_cases hz : m.length = 0 <;> simp [hz]) ?_
  refine wpR_done ?_
  by_cases hz : m.length = 0
  · rw [wpC_cond_t (by simp only [ev, updo, upd, if_true, hz, decide_true])]
    have : m = [] := List.length_eq_zero_iff.1 hz
    subst this
    simp only [wpC, thenC, postC, rvals, List.mapM_nil, Option.pure_def, tup]
    exact ⟨trivial, w, Mod.refl _ _, hI w (Mod.refl _ _), Mod.refl _ _⟩
  rw [wpC_cond_f (by simp only [ev, updo, upd, if_true, hz, decide_false]), wpC_skip]
  simp only [thenC]
  obtain ⟨r, rfl, hMr⟩ : ∃ r, v = .map (some r) ∧ MapRep okv w r m := by
    rcases hM with ⟨-, rfl⟩ | h
    · simp at hz
    · exact h
  clear hM
  have hM := hMr
  clear hMr
  obtain ⟨es, clock, he1, he2, he3, he4⟩ := hM.ex
  have hesl : es.size = m.length := by have := he2.len; simpa using this
  have hBl : B < w.heap.size := World.block_lt_of_cell? w ⟨B, o, none⟩ hc
  have hrl := hM.lt
  rw [wpC_seq, wpC_blk]
  refine wpR_step (v := .pointer (some ⟨B, o, none⟩)) (by simp only [RK.val?, ev, updo, upd]; simp [a0]) ?_
  refine wpR_step (v := .pointer (some ⟨B, o, none⟩)) (by simp only [RK.val?, ev, updo, upd, if_true]) ?_
  refine wpR_step (v := .pointer (some ⟨B, o, none⟩)) (by simp only [RK.val?, ev, updo, upd, if_true, Addr.add_mk, Nat.add_zero]) ?_
  refine wpR_step (v := .map (some r)) (by simp only [RK.val?, ev, updo, upd, if_true, hc]) ?_
  refine wpR_run ?_
  refine hml _ 17 _ (by simp only [updo, upd, if_true]) ?_
  refine wpR_run ?_
  simp only [RK.run, ev, updo, upd, if_true]
  refine ⟨by omega, by omega, by omega, by omega, ?_⟩
  intro Tn
  simp only [Int.toNat_natCast, Int.toNat_zero]
  have bR := Blk.new w (zrep m.length [.int .u32 0]) Tn
  have m1 : Mod [] w (w.alloc (.cells (zrep m.length [.int .u32 0]).toArray Tn)) := Mod.alloc _ _ _
  have z1 : (w.alloc (.cells (zrep m.length [.int .u32 0]).toArray Tn)).heap.size = w.heap.size + 1 := by simp
  generalize w.alloc (.cells (zrep m.length [.int .u32 0]).toArray Tn) = w1 at bR m1 z1 ⊢
  refine wpR_run ?_
  intro Tn2
  have bS := Blk.new w1 [.slice none 0 0] Tn2
  obtain ⟨k1, k2, k3⟩ := new_put w1 [.slice none 0 0] [.slice (some ⟨w.heap.size, 0, none⟩) 0 m.length] Tn2 rfl (by simp [Value.oneCell'])
  have z2 : (w1.alloc (.cells [Value.slice none 0 0].toArray Tn2)).heap.size = w1.heap.size + 1 := by simp
  generalize w1.alloc (.cells [Value.slice none 0 0].toArray Tn2) = w2 at bS k1 k2 k3 z2 ⊢
  refine wpR_run ?_
  have ec : (Value.slice (some ⟨w.heap.size, 0, none⟩) 0 m.length).cells.toList = [.slice (some ⟨w.heap.size, 0, none⟩) 0 m.length] := rfl
  simp only [RK.run, ev, updo, upd, if_true, show (19 : Nat) ≠ 4 by decide, if_false, ec]
  refine ⟨rfl, k1, ?_⟩
  have z3 : (putCells w2 ⟨w1.heap.size, 0, none⟩ 0 [.slice (some ⟨w.heap.size, 0, none⟩) 0 m.length]).heap.size = w2.heap.size := size_putCells ..
  generalize putCells w2 ⟨w1.heap.size, 0, none⟩ 0 [.slice (some ⟨w.heap.size, 0, none⟩) 0 m.length] = w3 at k2 k3 z3 ⊢
  have m03 : Mod [] w w3 := m1.trans k3
  have bR3 := bR.mod k3 (by simp)
  refine wpR_done ?_
  rw [wpC_seq, wpC_seq, wpC_blk]
  have hc3 : w3.cell? ⟨B, o, none⟩ = some (.map (some r)) := cell_mod hc m03 (by simp)
  have he13 : w3.heap[r]? = some (.map es clock) := by rw [m03.block r hrl (by simp)]; exact he1
  refine wpR_step (v := .pointer (some ⟨B, o, none⟩)) (by simp only [RK.val?, ev, upd]; simp [a0]) ?_
  refine wpR_step (v := .pointer (some ⟨B, o, none⟩)) (by simp only [RK.val?, ev, updo, upd, if_true]) ?_
  refine wpR_step (v := .pointer (some ⟨B, o, none⟩)) (by simp only [RK.val?, ev, updo, upd, if_true, Addr.add_mk, Nat.add_zero]) ?_
  refine wpR_step (v := .map (some r)) (by simp only [RK.val?, ev, updo, upd, if_true, hc3]) ?_
  refine wpR_run ?_
  simp only [RK.run, ev, updo, upd, if_true, he13]
  refine wpR_done ?_
  have m4 : Mod [] w3 (w3.alloc (.mapIter (some r) clock #[] clock)) := Mod.alloc _ _ _
  have hit : (w3.alloc (.mapIter (some r) clock #[] clock)).heap[w3.heap.size]? = some (.mapIter (some r) clock #[] clock) := heap_alloc_new _ _
  have he14 : (w3.alloc (.mapIter (some r) clock #[] clock)).heap[r]? = some (.map es clock) := by rw [m4.block r (by have := m03.size; omega) (by simp)]; exact he13
  have bR4 := bR3.mod m4 (by simp)
  have bS4 := k2.mod m4 (by simp)
  generalize w3.alloc (.mapIter (some r) clock #[] clock) = w4 at m4 hit he14 bR4 bS4 ⊢
  have hzl : (zrep m.length [Value.int .u32 0]).length = m.length := by simp [zrep]
  refine each_loop1 (w0 := w) (it := w3.heap.size) (Bs := w1.heap.size) (B := w.heap.size) (r := r) (n := m.length) (es := es) (clock := clock)
    ⟨by simp [upd], by simp [upd], he14, ⟨#[], hit, ⟨by simp, by simp, by simp⟩⟩, by simpa using bS4, ⟨_, by simpa using bR4, by simpa using hzl⟩, m03.trans m4, by omega, by omega, by omega, ⟨by have := m03.size; omega, by omega, by omega⟩, hesl.symm, m03.size, by omega, Nat.le_refl _⟩
    he2.keys he3 he4 fun σ5 w5 E a5 hK hperm => ?_
  have q0 : σ5 0 = .pointer (some ⟨B, o, none⟩) := by rw [a5 0 (by omega) (by omega)]; simp [upd, a0]
  have q1 : σ5 1 = .func (.func g) #[] captured.toArray := by rw [a5 1 (by omega) (by omega)]; simp [upd, a1]
  simp only [thenC]
  have hEl : E.length = m.length := by rw [hperm.length_eq]; simpa using hesl
  obtain ⟨rest, hrow, hrl2⟩ := hK.row
  have hr0 : rest = [] := List.length_eq_zero_iff.1 (by omega)
  subst hr0
  -- the keys as numbers
  have hEk : (E.map (·.key)).Perm ((m.map (·.1)).map u32v) := by rw [← he2.klist]; exact hperm.map _
  obtain ⟨ks, hks⟩ : ∃ ks : List Nat, E.map (·.key) = ks.map u32v := by
    refine ⟨(E.map (·.key)).map (fun v => match v with | .int _ n => n.toNat | _ => 0), ?_⟩
    rw [List.map_map]
    conv => lhs; rw [← List.map_id (E.map (·.key))]
    apply List.map_congr_left
    intro x hx
    have := hEk.mem_iff.1 hx
    obtain ⟨k, -, rfl⟩ := List.mem_map.1 this
    simp [u32v]
  rw [hks] at hEk
  have hkp : ks.Perm (m.map (·.1)) := map_perm_inj hEk
  have hkl : ks.length = m.length := by have := hkp.length_eq; simpa using this
  have hrow' : Blk w5 w.heap.size (ks.map u32v) := by rw [← hks]; simpa using hrow
  have hcell5 : Blk w5 w1.heap.size [.slice (some ⟨w.heap.size, 0, none⟩) ks.length ks.length] := by rw [hkl]; have := hK.cell; rwa [hEl] at this
  rw [wpC_seq, wpC_blk]
  refine wpR_step (v := .slice (some ⟨w.heap.size, 0, none⟩) ks.length ks.length) (by simp only [RK.val?, ev, hK.s4]; exact hcell5.cell 0) ?_
  refine wpR_step (v := .iface (F tyU32s) (.slice (some ⟨w.heap.size, 0, none⟩) ks.length ks.length)) (by simp only [RK.val?, ev, updo, upd, if_true]) ?_
  refine wpR_step (v := .func (.func (F tEach1)) #[] #[.pointer (some ⟨w1.heap.size, 0, none⟩)]) (by simp only [RK.val?, List.map_cons, List.map_nil, ev, updo, upd]; simp [hK.s4]) ?_
  refine wpR_call (vs := [.iface (F tyU32s) (.slice (some ⟨w.heap.size, 0, none⟩) ks.length ks.length), .func (.func (F tEach1)) #[] #[.pointer (some ⟨w1.heap.size, 0, none⟩)]]) (by simp only [List.map_cons, List.map_nil, ev, updo, upd]; simp)
    (hsort w5 w.heap.size w1.heap.size ks hrow' hcell5 (by omega) (by omega) (fun k hk => he2.lt32 k (hkp.mem_iff.1 hk))) ?_
  rintro e w6 ⟨rfl, ks', hp', hs', hrow6, m6⟩
  refine ⟨_, rfl, ?_⟩
  have hl' : ks'.length = ks.length := hp'.length_eq
  have m06 : Mod [] w w6 := Mod.drop (b := w.heap.size) (S := []) (hK.fr.nil.trans m6) (Nat.le_refl _)
  have hcell6 := hcell5.mod m6 (by simp; omega)
  refine wpR_done ?_
  rw [wpC_seq, wpC_blk]
  refine wpR_step (v := .slice (some ⟨w.heap.size, 0, none⟩) ks.length ks.length) (by
    simp only [RK.val?, ev, updo, upd, show (4 : Nat) ≠ 36 by decide, show (4 : Nat) ≠ 35 by decide, show (4 : Nat) ≠ 34 by decide, show (4 : Nat) ≠ 33 by decide, if_false, hK.s4]
    exact hcell6.cell 0) ?_
  refine wpR_step (v := .int .i64 ks.length) (by simp only [RK.val?, ev, updo, upd, if_true]) ?_
  refine wpR_step (v := .int .i64 0) rfl ?_
  refine wpR_done ?_
  have nS : ∀ {x}, w.heap.size ≤ x → x ∉ S := fun hx hs => by have := hSl _ hs; omega
  have hM2 : MapRep (fun b => okv b ∧ b < w.heap.size) w r m := hM.mod (Mod.refl [] _) (by simp) (by simp) fun b hb hx => ⟨hx, hb⟩
  refine each_loop2 (w0 := w) (wN := w6) (okv := okv) (I := I) (by rw [sortT_eq hM.keys (hp'.trans hkp) hs']; exact hcb) hbody (r := r) (m := m) (ks := ks') (R := w.heap.size) (by simp only [updo, upd]; simp [q0]) (by simp only [updo, upd]; simp [q1]) (by simp only [updo, upd]; simp [hl']) (by simp only [updo, upd]; simp [hl']) (by simp only [updo, upd]; simp) m06 rfl hrow6
    (cell_mod hc m06 (by simp)) (hM.mod m06 (by simp) (by simp) fun _ _ h => h) hB (hr r rfl) (nS (Nat.le_refl _)) hS hmv (fun k hk => hkp.mem_iff.1 (hp'.mem_iff.1 hk)) (by omega) (hI w6 m06) fun σ7 w7 hI7 hm7 => ?_
  simp only [postC, rvals, List.mapM_nil, Option.pure_def, tup]
  refine ⟨trivial, w6, m06, ?_, hm7⟩
  rw [← sortT_eq hM.keys (hp'.trans hkp) hs']; exact hI7
end
end Go.Msk

namespace Go.Msk
open Go.RowKit
set_option maxRecDepth 100000
section
variable {P : Program} {F : Nat → Nat}
theorem wpR_offG {k : RK} {d : Option Nat} {a : Nat} {b : Bool} {r : List RI} {σ : Sl} {w : World} {Q : Sl → World → Prop} (hg : σ a = .bool (!b)) (h : wpR P r (updo σ d undef) w Q) : wpR P (⟨d, k, some (a, b)⟩ :: r) σ w Q := by
  have : gOk (some (a, b)) σ = false := by simp only [gOk, hg]; cases b <;> rfl
  simp only [wpR, RI.wp, this, Bool.false_eq_true, if_false]
  exact h
theorem SlC.pairAt {ok : Nat → Prop} {w : World} {v : Value} {n j : Nat} {css : List (List Value)} {a b : Value} (h : SlC ok w v n css.flatten) (hn : n = css.length) (hsz : ∀ c ∈ css, c.length = 2) (hj : css[j]? = some [a, b]) :
    ∃ p c, v = .slice (some p) n c ∧ j < n ∧ w.cell? ((p.add (j * 2)).add 0) = some a := by
  obtain ⟨base, cap, rfl, h2, h3, h4⟩ := h
  have hjl : j < css.length := by
    rcases Nat.lt_or_ge j css.length with h | h
    · exact h
    · rw [List.getElem?_eq_none h] at hj; simp at hj
  obtain ⟨p, rfl⟩ : ∃ p, base = some p := by
    cases base with
    | some p => exact ⟨p, rfl⟩
    | none => have := h3 rfl; omega
  obtain ⟨k1, k2, k3⟩ := h4 p rfl (by omega)
  refine ⟨p, cap, rfl, by omega, ?_⟩
  have hfl : css.flatten[j * 2]? = some a := by
    have key : ∀ (l : List (List Value)) (j : Nat), (∀ c ∈ l, c.length = 2) → l[j]? = some [a, b] → l.flatten[j * 2]? = some a := by
      intro l
      induction l with
      | nil => intro j _ h; simp at h
      | cons x l ih =>
        intro j hs hj
        cases j with
        | zero => simp at hj; subst hj; rfl
        | succ j =>
          have hx := hs x List.mem_cons_self
          rw [List.flatten_cons, List.getElem?_append_right (by omega), hx, show (j + 1) * 2 - 2 = j * 2 by omega]
          exact ih j (fun c hc => hs c (List.mem_cons_of_mem _ hc)) (by simpa using hj)
    exact key css j hsz hj
  have := k3.2 (j * 2) a hfl
  rw [Addr.add_of k3.1, Addr.add_mk]
  simpa using this
structure Pairs (w : World) (ok : Nat → Prop) (v : Value) (ks : List Nat) (css : List (List Value)) : Prop where
  sl : SlC ok w v css.length css.flatten
  len : ks.length = css.length
  two : ∀ c ∈ css, c.length = 2
  key : ∀ (j k : Nat), ks[j]? = some k → ∃ x, css[j]? = some [u32v k, x]
theorem Pairs.mod {ok : Nat → Prop} {w w' : World} {v : Value} {ks : List Nat} {css : List (List Value)} (h : Pairs w ok v ks css) (hm : Mod [] w w') : Pairs w' ok v ks css :=
  ⟨h.sl.mod hm (by simp) fun _ _ h => h, h.len, h.two, h.key⟩
theorem pairwise_get {l : List Nat} (h : l.Pairwise (· ≤ ·)) {i j a b : Nat} (hi : l[i]? = some a) (hj : l[j]? = some b) (hij : i < j) : a ≤ b := by
  rw [List.pairwise_iff_getElem] at h
  obtain ⟨hi', rfl⟩ := List.getElem?_eq_some_iff.1 hi
  obtain ⟨hj', rfl⟩ := List.getElem?_eq_some_iff.1 hj
  exact h i j hi' hj' hij
theorem sorted_test {w : World} {ok : Nat → Prop} {v : Value} {ks : List Nat} {css : List (List Value)} {i : Nat} {σ : Sl} {Q : Sl → World → Prop} (hp : Pairs w ok v ks css) (hs : ks.Pairwise (· ≤ ·)) (hi : i < ks.length) (hlen : ks.length ≤ 2147483647) (h0 : σ 0 = v) (h3 : σ 3 = .int .i64 i)
    (hQ : ∀ σ', (∀ j, j < 10 → σ' j = σ j) → σ' 25 = .bool false → Q σ' w) :
    wpR P [⟨some 10, .mv (.tmp 3), none⟩, ⟨some 11, .bin .gtr (.tmp 10) (.const (.int .i64 0)), none⟩, ⟨some 12, .mv (.tmp 11), none⟩, ⟨some 13, .mv (.tmp 0), some (12, true)⟩, ⟨some 14, .mv (.tmp 3), some (12, true)⟩, ⟨some 15, .iad (.tmp 13) (.tmp 14) 2, some (12, true)⟩,
      ⟨some 16, .fad (.tmp 15) 0, some (12, true)⟩, ⟨some 17, .ld (.tmp 16), some (12, true)⟩, ⟨some 18, .mv (.tmp 0), some (12, true)⟩, ⟨some 19, .mv (.tmp 3), some (12, true)⟩, ⟨some 20, .bin .sub (.tmp 19) (.const (.int .i64 1)), some (12, true)⟩,
      ⟨some 21, .iad (.tmp 18) (.tmp 20) 2, some (12, true)⟩, ⟨some 22, .fad (.tmp 21) 0, some (12, true)⟩, ⟨some 23, .ld (.tmp 22), some (12, true)⟩, ⟨some 24, .bin .lss (.tmp 17) (.tmp 23), some (12, true)⟩, ⟨some 25, .pick (.tmp 12) (.tmp 24) (.const (.bool false)), none⟩] σ w Q := by
  refine wpR_step (v := .int .i64 i) (congrArg some h3) ?_
  refine wpR_step (v := .bool (decide (0 < i))) (by
    simp only [RK.val?, ev, updo, upd, if_true, isShift, decide_true, Bool.or_true, intBin]
    congr 2; exact decide_eq_decide.2 (by omega)) ?_
  refine wpR_step (v := .bool (decide (0 < i))) (by simp only [RK.val?, ev, updo, upd, if_true]) ?_
  by_cases hi0 : 0 < i
  · obtain ⟨i', rfl⟩ : ∃ i', i = i' + 1 := ⟨i - 1, by omega⟩
    obtain ⟨a, ha⟩ : ∃ a, ks[i' + 1]? = some a := ⟨_, List.getElem?_eq_getElem hi⟩
    obtain ⟨b, hb⟩ : ∃ b, ks[i']? = some b := ⟨_, List.getElem?_eq_getElem (by omega)⟩
    have hle := pairwise_get hs hb ha (by omega)
    obtain ⟨xa, hxa⟩ := hp.key _ _ ha
    obtain ⟨xb, hxb⟩ := hp.key _ _ hb
    obtain ⟨p, c, rfl, hj1, c1⟩ := hp.sl.pairAt rfl hp.two hxa
    obtain ⟨p', c', hv', hj2, c2⟩ := hp.sl.pairAt rfl hp.two hxb
    simp only [Value.slice.injEq, Option.some.injEq] at hv'
    obtain ⟨rfl, -, rfl⟩ := hv'
    have g : ∀ (σ : Sl), σ 12 = .bool (decide (0 < i' + 1)) → σ 12 = .bool true := fun σ h => by rw [h]; simp
    have hl := hp.len
    refine wpR_stepG (v := .slice (some p) css.length c) (by simp [updo, upd]) (by simp only [RK.val?, ev, updo, upd]; simp [h0]) ?_
    refine wpR_stepG (v := .int .i64 ((i' + 1 : Nat) : Int)) (by simp [updo, upd]) (by simp only [RK.val?, ev, updo, upd]; simp [h3]) ?_
    refine wpR_stepG (v := .pointer (some (p.add ((i' + 1) * 2)))) (by simp [updo, upd]) (by
      simp only [RK.val?, ev, updo, upd, show (13 : Nat) ≠ 14 by decide, if_false, if_true]
      rw [if_pos (by omega)]; simp) ?_
    refine wpR_stepG (v := .pointer (some ((p.add ((i' + 1) * 2)).add 0))) (by simp [updo, upd]) (by simp only [RK.val?, ev, updo, upd, if_true]) ?_
    refine wpR_stepG (v := u32v a) (by simp [updo, upd]) (by simp only [RK.val?, ev, updo, upd, if_true, c1]) ?_
    refine wpR_stepG (v := .slice (some p) css.length c) (by simp [updo, upd]) (by simp only [RK.val?, ev, updo, upd]; simp [h0]) ?_
    refine wpR_stepG (v := .int .i64 ((i' + 1 : Nat) : Int)) (by simp [updo, upd]) (by simp only [RK.val?, ev, updo, upd]; simp [h3]) ?_
    refine wpR_stepG (v := .int .i64 (i' : Nat)) (by simp [updo, upd]) (by
      simp only [RK.val?, ev, updo, upd, if_true, isShift, decide_true, Bool.or_true, intBin]
      have e1 : ((i' + 1 : Nat) : Int) - 1 = (i' : Nat) := by omega
      rw [e1, i64_small (by omega) (by omega)]) ?_
    refine wpR_stepG (v := .pointer (some (p.add (i' * 2)))) (by simp [updo, upd]) (by
      simp only [RK.val?, ev, updo, upd, show (18 : Nat) ≠ 20 by decide, show (18 : Nat) ≠ 19 by decide, if_false, if_true]
      rw [if_pos (by omega)]; simp) ?_
    refine wpR_stepG (v := .pointer (some ((p.add (i' * 2)).add 0))) (by simp [updo, upd]) (by simp only [RK.val?, ev, updo, upd, if_true]) ?_
    refine wpR_stepG (v := u32v b) (by simp [updo, upd]) (by simp only [RK.val?, ev, updo, upd, if_true, c2]) ?_
    refine wpR_stepG (v := .bool false) (by simp [updo, upd]) (by
      simp only [RK.val?, ev, updo, upd, show (17 : Nat) ≠ 23 by decide, show (17 : Nat) ≠ 22 by decide, show (17 : Nat) ≠ 21 by decide, show (17 : Nat) ≠ 20 by decide, show (17 : Nat) ≠ 19 by decide, show (17 : Nat) ≠ 18 by decide, if_false, if_true, u32v, isShift, decide_true, Bool.or_true, intBin]
      congr 2; simp; omega) ?_
    refine wpR_step (v := .bool false) (by simp only [RK.val?, ev, updo, upd]; simp) ?_
    simp only [wpR]
    refine hQ _ (fun j hj => ?_) (by simp only [updo, upd, if_true])
    simp only [updo, upd, show j ≠ 25 by omega, show j ≠ 24 by omega, show j ≠ 23 by omega, show j ≠ 22 by omega, show j ≠ 21 by omega, show j ≠ 20 by omega, show j ≠ 19 by omega, show j ≠ 18 by omega, show j ≠ 17 by omega, show j ≠ 16 by omega, show j ≠ 15 by omega, show j ≠ 14 by omega, show j ≠ 13 by omega, show j ≠ 12 by omega, show j ≠ 11 by omega, show j ≠ 10 by omega, if_false]
  · have hd : decide (0 < i) = false := by simp; omega
    simp only [hd]
    refine wpR_offG (by simp [updo, upd]) ?_
    refine wpR_offG (by simp [updo, upd]) ?_
    refine wpR_offG (by simp [updo, upd]) ?_
    refine wpR_offG (by simp [updo, upd]) ?_
    refine wpR_offG (by simp [updo, upd]) ?_
    refine wpR_offG (by simp [updo, upd]) ?_
    refine wpR_offG (by simp [updo, upd]) ?_
    refine wpR_offG (by simp [updo, upd]) ?_
    refine wpR_offG (by simp [updo, upd]) ?_
    refine wpR_offG (by simp [updo, upd]) ?_
    refine wpR_offG (by simp [updo, upd]) ?_
    refine wpR_offG (by simp [updo, upd]) ?_
    refine wpR_step (v := .bool false) (by simp only [RK.val?, ev, updo, upd]; simp) ?_
    simp only [wpR]
    refine hQ _ (fun j hj => ?_) (by simp only [updo, upd, if_true])
    simp only [updo, upd, show j ≠ 25 by omega, show j ≠ 24 by omega, show j ≠ 23 by omega, show j ≠ 22 by omega, show j ≠ 21 by omega, show j ≠ 20 by omega, show j ≠ 19 by omega, show j ≠ 18 by omega, show j ≠ 17 by omega, show j ≠ 16 by omega, show j ≠ 15 by omega, show j ≠ 14 by omega, show j ≠ 13 by omega, show j ≠ 12 by omega, show j ≠ 11 by omega, show j ≠ 10 by omega, if_false]
theorem iSorted_call {w : World} (hm : P.follows .mixedOrders = true) (h : liftF P (F iSorted) = some (ir_iSorted F)) {ok : Nat → Prop} {v : Value} {ks : List Nat} {css : List (List Value)} (hp : Pairs w ok v ks css) (hs : ks.Pairwise (· ≤ ·)) (hlen : ks.length ≤ 2147483647) :
    Calls P (F iSorted) [v].toArray w fun e w' => e = .returned (.tuple #[]) ∧ Mod [] w w' := by
  unfold ir_iSorted at h
  refine call_of h hm (by simp) ?_
  have a0 : args0 [v] 0 = v := rfl
  generalize args0 [v] = σ0 at a0 ⊢
  obtain ⟨base, cap, hv, -⟩ := hp.sl
  have hl := hp.len
  rw [wpC_seq, wpC_blk]
  refine wpR_step (v := v) (congrArg some a0) ?_
  refine wpR_step (v := .int .i64 ks.length) (by simp only [RK.val?, ev, updo, upd, if_true, hv, hl]) ?_
  refine wpR_step (v := .int .i64 0) rfl ?_
  refine wpR_done ?_
  rw [wpC_block, wpC_loop]
  refine ⟨fun σ' w' => ∃ i : Nat, i ≤ ks.length ∧ σ' 0 = v ∧ σ' 5 = .int .i64 ks.length ∧ σ' 6 = .int .i64 i ∧ Mod [] w w', fun σ' _ => match σ' 6 with | .int _ i => ks.length - i.toNat | _ => 0,
    ⟨0, Nat.zero_le _, by simp [updo, upd, a0], by simp [updo, upd], by simp [updo, upd], Mod.refl _ _⟩, ?_⟩
  rintro σ1 w1 ⟨i, hi, s0, s5, s6, hm1⟩
  rw [wpC_seq, wpC_blk]
  refine wpR_step (v := .bool (decide (i < ks.length))) (by
    simp only [RK.val?, ev, s6, s5, isShift, decide_true, Bool.or_true, if_true, intBin]
    congr 2; exact decide_eq_decide.2 (by omega)) ?_
  refine wpR_done ?_
  by_cases hlt : i < ks.length
  · rw [wpC_seq, wpC_cond_t (by simp only [ev, updo, upd, if_true, hlt, decide_true]), wpC_skip]
    simp only [thenC]
    rw [wpC_seq, wpC_block, wpC_seq, wpC_blk]
    refine wpR_step (v := .int .i64 i) (by simp only [RK.val?, ev, updo, upd]; simp [s6]) ?_
    refine wpR_step (v := .int .i64 i) (by simp only [RK.val?, ev, updo, upd, if_true]) ?_
    refine wpR_done ?_
    rw [wpC_seq, wpC_blk]
    refine wpR_step (v := .int .i64 i) (by simp only [RK.val?, ev, updo, upd, if_true]) ?_
    refine wpR_step (v := .int .i64 i) (by simp only [RK.val?, ev, updo, upd, if_true]) ?_
    refine wpR_done ?_
    rw [wpC_block, wpC_loop]
    refine ⟨fun σ' w' => σ' 0 = v ∧ σ' 3 = .int .i64 i ∧ σ' 5 = .int .i64 ks.length ∧ σ' 6 = .int .i64 i ∧ Mod [] w w', fun _ _ => 0, ⟨by simp [updo, upd, s0], by simp [updo, upd], by simp [updo, upd, s5], by simp [updo, upd, s6], hm1⟩, ?_⟩
    rintro σ2 w2 ⟨t0, t3, t5, t6, hm2⟩
    rw [wpC_seq, wpC_seq]
    refine wpD_pure rfl ?_
    have hm2d : Mod [] w w2.drew := hm2.trans (Mod.drew _ _)
    simp only [List.map_cons, List.map_nil, List.append_nil]
    refine sorted_test (hp.mod hm2d) hs hlt hlen t0 t3 fun σ3 a3 f3 => ?_
    simp only [thenC]
    rw [wpC_cond_f (by simp only [ev, f3])]
    simp only [wpC, thenC, inBlockC, if_true]
    have u6 : σ3 6 = .int .i64 i := by rw [a3 6 (by omega)]; exact t6
    refine wpR_step (v := .int .i64 ((i + 1 : Nat) : Int)) (by
      simp only [RK.val?, ev, u6, isShift, decide_true, Bool.or_true, if_true, intBin]
      have e1 : (i : Int) + 1 = ((i + 1 : Nat) : Int) := by omega
      rw [e1, i64_small (by omega) (by omega)]) ?_
    refine wpR_step (v := .int .i64 ((i + 1 : Nat) : Int)) (by simp only [RK.val?, ev, updo, upd, if_true]) ?_
    simp only [wpR]
    refine ⟨⟨i + 1, by omega, by simp [updo, upd, a3, t0], by simp [updo, upd, a3, t5], by simp only [updo, upd, if_true], hm2d⟩, ?_⟩
    simp only [updo, upd, if_true, s6]; omega
  · rw [wpC_seq, wpC_cond_f (by simp only [ev, updo, upd, if_true, hlt, decide_false])]
    refine wpC_exit_out ?_
    simp only [postC, rvals, List.mapM_nil, Option.pure_def, tup]
    exact ⟨trivial, hm1⟩
end
end Go.Msk

namespace Go.Msk
open Go.RowKit
def ir_iOctetsTree (_F : Nat → Nat) : IC × List RV × Nat := (.seq (.blk [⟨some 2, .alloc [.int .i64 0, .slice none 0 0, .bool false, .slice none 0 0, .slice none 0 0], none⟩])
 (.seq (.blk [⟨some 3, .mv (.tmp 0), none⟩,
 ⟨some 4, .append (.const (.slice none 0 0)) (.tmp 3) 1 1, none⟩,
 ⟨some 5, .mv (.tmp 0), none⟩,
 ⟨some 6, .isnil .sl false (.tmp 5), none⟩,
 ⟨some 7, .build [.int .i64 0, .slice none 0 0, .bool false, .slice none 0 0, .slice none 0 0] [(1, 1, .tmp 4), (2, 1, .tmp 6)], none⟩,
 ⟨none, .st (.tmp 2) 5 (.tmp 7), none⟩])
 (.ret)),
 [.cells 2 5], 8)
def ir_iTextTree (_F : Nat → Nat) : IC × List RV × Nat := (.seq (.blk [⟨some 2, .alloc [.int .i64 0, .slice none 0 0, .bool false, .slice none 0 0, .slice none 0 0], none⟩])
 (.seq (.seq (.blk [⟨some 3, .mv (.tmp 0), none⟩,
 ⟨some 4, .isnil .pt false (.tmp 3), none⟩])
 (.cond (.tmp 4)
 (.seq (.blk [⟨some 5, .build [.int .i64 0, .slice none 0 0, .bool false, .slice none 0 0, .slice none 0 0] [(2, 1, .const (.bool true))], none⟩,
 ⟨none, .st (.tmp 2) 5 (.tmp 5), none⟩])
 (.ret))
 (.skip)))
 (.seq (.blk [⟨some 6, .mv (.tmp 0), none⟩,
 ⟨some 7, .nilc (.tmp 6), none⟩,
 ⟨some 8, .ld (.tmp 7), none⟩,
 ⟨some 9, .s2b (.tmp 8), none⟩,
 ⟨some 10, .build [.int .i64 0, .slice none 0 0, .bool false, .slice none 0 0, .slice none 0 0] [(1, 1, .tmp 9)], none⟩,
 ⟨none, .st (.tmp 2) 5 (.tmp 10), none⟩])
 (.ret))),
 [.cells 2 5], 11)
def ir_lGot (F : Nat → Nat) : IC × List RV × Nat := (.seq (.blk [⟨some 1, .box (.tmp 0), none⟩,
 ⟨some 2, .alloc [.int .i64 0, .slice none 0 0, .bool false, .slice none 0 0, .slice none 0 0], none⟩])
 (.seq (.blk [⟨some 8, .fad (.tmp 1) 0, none⟩,
 ⟨some 9, .ld (.tmp 8), none⟩,
 ⟨some 10, .fad (.tmp 1) 1, none⟩,
 ⟨some 11, .ld (.tmp 10), none⟩,
 ⟨some 12, .fad (.tmp 1) 2, none⟩,
 ⟨some 13, .ld (.tmp 12), none⟩,
 ⟨some 14, .build [.int .i64 0, .slice none 0 0, .bool false, .slice none 0 0, .slice none 0 0] [(0, 1, .tmp 9), (1, 1, .tmp 11), (2, 1, .tmp 13)], none⟩,
 ⟨some 3, .alloc [.int .i64 0, .slice none 0 0, .bool false, .slice none 0 0, .slice none 0 0], none⟩,
 ⟨none, .st (.tmp 3) 5 (.tmp 14), none⟩])
 (.seq (.seq (.blk [⟨some 15, .fad (.tmp 1) 3, none⟩,
 ⟨some 16, .ld (.tmp 15), none⟩,
 ⟨some 17, .len (.tmp 16), none⟩,
 ⟨some 18, .mv (.const (.int .i64 0)), none⟩])
 (.block 0 (.loop (.seq (.blk [⟨some 19, .bin .lss (.tmp 18) (.tmp 17), none⟩])
 (.seq (.cond (.tmp 19)
 (.skip)
 (.exit 0))
 (.seq (.block 1 (.seq (.blk [⟨some 20, .iad (.tmp 16) (.tmp 18) 5, none⟩,
 ⟨some 21, .ldn (.tmp 20) 5, none⟩,
 ⟨some 5, .alloc [.int .i64 0, .slice none 0 0, .bool false, .slice none 0 0, .slice none 0 0], none⟩,
 ⟨none, .st (.tmp 5) 5 (.tmp 21), none⟩])
 (.drw [⟨⟨some 22, .fad (.tmp 3) 3, none⟩, false, []⟩,
 ⟨⟨some 23, .ld (.tmp 22), none⟩, false, []⟩,
 ⟨⟨some 24, .ldn (.tmp 5) 5, none⟩, false, []⟩,
 ⟨⟨some 25, .call (F lGot) [.tmp 24], none⟩, true, []⟩,
 ⟨⟨some 26, .bslice 1 [.int .i64 0, .slice none 0 0, .bool false, .slice none 0 0, .slice none 0 0] [(0, 5, .tmp 25)], none⟩, true, [3]⟩]
 [⟨some 27, .append (.tmp 23) (.tmp 26) 5 88, none⟩,
 ⟨some 28, .fad (.tmp 3) 3, none⟩,
 ⟨none, .st (.tmp 28) 1 (.tmp 27), none⟩])))
 (.blk [⟨some 29, .bin .add (.tmp 18) (.const (.int .i64 1)), none⟩,
 ⟨some 18, .mv (.tmp 29), none⟩])))))))
 (.seq (.seq (.blk [⟨some 30, .fad (.tmp 1) 4, none⟩,
 ⟨some 31, .ld (.tmp 30), none⟩,
 ⟨some 32, .len (.tmp 31), none⟩,
 ⟨some 33, .mv (.const (.int .i64 0)), none⟩])
 (.block 2 (.loop (.seq (.blk [⟨some 34, .bin .lss (.tmp 33) (.tmp 32), none⟩])
 (.seq (.cond (.tmp 34)
 (.skip)
 (.exit 2))
 (.seq (.block 3 (.seq (.blk [⟨some 35, .iad (.tmp 31) (.tmp 33) 2, none⟩,
 ⟨some 36, .ldn (.tmp 35) 2, none⟩,
 ⟨some 7, .alloc [.int .u32 0, .slice none 0 0], none⟩,
 ⟨none, .st (.tmp 7) 2 (.tmp 36), none⟩])
 (.blk [⟨some 37, .fad (.tmp 3) 4, none⟩,
 ⟨some 38, .ld (.tmp 37), none⟩,
 ⟨some 39, .fad (.tmp 7) 0, none⟩,
 ⟨some 40, .ld (.tmp 39), none⟩,
 ⟨some 41, .fad (.tmp 7) 1, none⟩,
 ⟨some 42, .ld (.tmp 41), none⟩,
 ⟨some 43, .build [.int .u32 0, .slice none 0 0] [(0, 1, .tmp 40), (1, 1, .tmp 42)], none⟩,
 ⟨some 44, .bslice 1 [.int .u32 0, .slice none 0 0] [(0, 2, .tmp 43)], none⟩,
 ⟨some 45, .append (.tmp 38) (.tmp 44) 2 32, none⟩,
 ⟨some 46, .fad (.tmp 3) 4, none⟩,
 ⟨none, .st (.tmp 46) 1 (.tmp 45), none⟩])))
 (.blk [⟨some 47, .bin .add (.tmp 33) (.const (.int .i64 1)), none⟩,
 ⟨some 33, .mv (.tmp 47), none⟩])))))))
 (.seq (.blk [⟨some 48, .ldn (.tmp 3) 5, none⟩,
 ⟨none, .st (.tmp 2) 5 (.tmp 48), none⟩])
 (.ret))))),
 [.cells 2 5], 49)
def ir_sSameTree (F : Nat → Nat) : IC × List RV × Nat := (.seq (.blk [⟨some 2, .box (.tmp 0), none⟩,
 ⟨some 3, .box (.tmp 1), none⟩,
 ⟨some 4, .mv (.const (.bool false)), none⟩])
 (.seq (.seq (.blk [⟨some 7, .fad (.tmp 2) 0, none⟩,
 ⟨some 8, .ld (.tmp 7), none⟩,
 ⟨some 9, .fad (.tmp 3) 0, none⟩,
 ⟨some 10, .ld (.tmp 9), none⟩,
 ⟨some 11, .bin .neq (.tmp 8) (.tmp 10), none⟩,
 ⟨some 12, .mv (.tmp 11), none⟩,
 ⟨some 13, .fad (.tmp 2) 2, some (12, false)⟩,
 ⟨some 14, .ld (.tmp 13), some (12, false)⟩,
 ⟨some 15, .fad (.tmp 3) 2, some (12, false)⟩,
 ⟨some 16, .ld (.tmp 15), some (12, false)⟩,
 ⟨some 17, .beq true (.tmp 14) (.tmp 16), some (12, false)⟩,
 ⟨some 18, .pick (.tmp 12) (.const (.bool true)) (.tmp 17), none⟩,
 ⟨some 19, .mv (.tmp 18), none⟩,
 ⟨some 20, .fad (.tmp 2) 1, some (19, false)⟩,
 ⟨some 21, .ld (.tmp 20), some (19, false)⟩,
 ⟨some 22, .fad (.tmp 3) 1, some (19, false)⟩,
 ⟨some 23, .ld (.tmp 22), some (19, false)⟩,
 ⟨some 24, .call (F sSame) [.tmp 21, .tmp 23], some (19, false)⟩,
 ⟨some 25, .lnot (.tmp 24), some (19, false)⟩,
 ⟨some 26, .pick (.tmp 19) (.const (.bool true)) (.tmp 25), none⟩,
 ⟨some 27, .mv (.tmp 26), none⟩,
 ⟨some 28, .fad (.tmp 2) 3, some (27, false)⟩,
 ⟨some 29, .ld (.tmp 28), some (27, false)⟩,
 ⟨some 30, .len (.tmp 29), some (27, false)⟩,
 ⟨some 31, .fad (.tmp 3) 3, some (27, false)⟩,
 ⟨some 32, .ld (.tmp 31), some (27, false)⟩,
 ⟨some 33, .len (.tmp 32), some (27, false)⟩,
 ⟨some 34, .bin .neq (.tmp 30) (.tmp 33), some (27, false)⟩,
 ⟨some 35, .pick (.tmp 27) (.const (.bool true)) (.tmp 34), none⟩,
 ⟨some 36, .mv (.tmp 35), none⟩,
 ⟨some 37, .fad (.tmp 2) 4, some (36, false)⟩,
 ⟨some 38, .ld (.tmp 37), some (36, false)⟩,
 ⟨some 39, .len (.tmp 38), some (36, false)⟩,
 ⟨some 40, .fad (.tmp 3) 4, some (36, false)⟩,
 ⟨some 41, .ld (.tmp 40), some (36, false)⟩,
 ⟨some 42, .len (.tmp 41), some (36, false)⟩,
 ⟨some 43, .bin .neq (.tmp 39) (.tmp 42), some (36, false)⟩,
 ⟨some 44, .pick (.tmp 36) (.const (.bool true)) (.tmp 43), none⟩])
 (.cond (.tmp 44)
 (.seq (.blk [⟨some 4, .mv (.const (.bool false)), none⟩])
 (.ret))
 (.skip)))
 (.seq (.seq (.blk [⟨some 45, .fad (.tmp 2) 3, none⟩,
 ⟨some 46, .ld (.tmp 45), none⟩,
 ⟨some 47, .len (.tmp 46), none⟩,
 ⟨some 48, .mv (.const (.int .i64 0)), none⟩])
 (.block 0 (.loop (.seq (.blk [⟨some 49, .bin .lss (.tmp 48) (.tmp 47), none⟩])
 (.seq (.cond (.tmp 49)
 (.skip)
 (.exit 0))
 (.seq (.block 1 (.seq (.blk [⟨some 50, .mv (.tmp 48), none⟩,
 ⟨some 5, .mv (.tmp 50), none⟩])
 (.seq (.drw [⟨⟨some 51, .fad (.tmp 2) 3, none⟩, false, []⟩,
 ⟨⟨some 52, .ld (.tmp 51), none⟩, false, []⟩,
 ⟨⟨some 53, .mv (.tmp 5), none⟩, false, []⟩,
 ⟨⟨some 54, .iad (.tmp 52) (.tmp 53) 5, none⟩, false, []⟩,
 ⟨⟨some 55, .ldn (.tmp 54) 5, none⟩, false, []⟩,
 ⟨⟨some 56, .fad (.tmp 3) 3, none⟩, false, []⟩,
 ⟨⟨some 57, .ld (.tmp 56), none⟩, false, []⟩,
 ⟨⟨some 58, .mv (.tmp 5), none⟩, false, []⟩,
 ⟨⟨some 59, .iad (.tmp 57) (.tmp 58) 5, none⟩, false, []⟩,
 ⟨⟨some 60, .ldn (.tmp 59) 5, none⟩, false, []⟩,
 ⟨⟨some 61, .call (F sSameTree) [.tmp 55, .tmp 60], none⟩, true, []⟩,
 ⟨⟨some 62, .lnot (.tmp 61), none⟩, false, [10]⟩]
 [])
 (.cond (.tmp 62)
 (.seq (.blk [⟨some 4, .mv (.const (.bool false)), none⟩])
 (.ret))
 (.skip)))))
 (.blk [⟨some 63, .bin .add (.tmp 48) (.const (.int .i64 1)), none⟩,
 ⟨some 48, .mv (.tmp 63), none⟩])))))))
 (.seq (.seq (.blk [⟨some 64, .fad (.tmp 2) 4, none⟩,
 ⟨some 65, .ld (.tmp 64), none⟩,
 ⟨some 66, .len (.tmp 65), none⟩,
 ⟨some 67, .mv (.const (.int .i64 0)), none⟩])
 (.block 2 (.loop (.seq (.blk [⟨some 68, .bin .lss (.tmp 67) (.tmp 66), none⟩])
 (.seq (.cond (.tmp 68)
 (.skip)
 (.exit 2))
 (.seq (.block 3 (.seq (.blk [⟨some 69, .mv (.tmp 67), none⟩,
 ⟨some 6, .mv (.tmp 69), none⟩])
 (.seq (.drw [⟨⟨some 70, .fad (.tmp 2) 4, none⟩, false, []⟩,
 ⟨⟨some 71, .ld (.tmp 70), none⟩, false, []⟩,
 ⟨⟨some 72, .mv (.tmp 6), none⟩, false, []⟩,
 ⟨⟨some 73, .iad (.tmp 71) (.tmp 72) 2, none⟩, false, []⟩,
 ⟨⟨some 74, .fad (.tmp 73) 0, none⟩, false, []⟩,
 ⟨⟨some 75, .ld (.tmp 74), none⟩, false, []⟩,
 ⟨⟨some 76, .fad (.tmp 3) 4, none⟩, false, []⟩,
 ⟨⟨some 77, .ld (.tmp 76), none⟩, false, []⟩,
 ⟨⟨some 78, .mv (.tmp 6), none⟩, false, []⟩,
 ⟨⟨some 79, .iad (.tmp 77) (.tmp 78) 2, none⟩, false, []⟩,
 ⟨⟨some 80, .fad (.tmp 79) 0, none⟩, false, []⟩,
 ⟨⟨some 81, .ld (.tmp 80), none⟩, false, []⟩,
 ⟨⟨some 82, .bin .neq (.tmp 75) (.tmp 81), none⟩, false, []⟩,
 ⟨⟨some 83, .mv (.tmp 82), none⟩, false, []⟩,
 ⟨⟨some 84, .fad (.tmp 2) 4, some (83, false)⟩, false, []⟩,
 ⟨⟨some 85, .ld (.tmp 84), some (83, false)⟩, false, []⟩,
 ⟨⟨some 86, .mv (.tmp 6), some (83, false)⟩, false, []⟩,
 ⟨⟨some 87, .iad (.tmp 85) (.tmp 86) 2, some (83, false)⟩, false, []⟩,
 ⟨⟨some 88, .fad (.tmp 87) 1, some (83, false)⟩, false, []⟩,
 ⟨⟨some 89, .ld (.tmp 88), some (83, false)⟩, false, []⟩,
 ⟨⟨some 90, .fad (.tmp 3) 4, some (83, false)⟩, false, []⟩,
 ⟨⟨some 91, .ld (.tmp 90), some (83, false)⟩, false, []⟩,
 ⟨⟨some 92, .mv (.tmp 6), some (83, false)⟩, false, []⟩,
 ⟨⟨some 93, .iad (.tmp 91) (.tmp 92) 2, some (83, false)⟩, false, []⟩,
 ⟨⟨some 94, .fad (.tmp 93) 1, some (83, false)⟩, false, []⟩,
 ⟨⟨some 95, .ld (.tmp 94), some (83, false)⟩, false, []⟩,
 ⟨⟨some 96, .call (F sSame) [.tmp 89, .tmp 95], some (83, false)⟩, true, []⟩,
 ⟨⟨some 97, .lnot (.tmp 96), some (83, false)⟩, false, [26]⟩,
 ⟨⟨some 98, .pick (.tmp 83) (.const (.bool true)) (.tmp 97), none⟩, false, [26]⟩]
 [])
 (.cond (.tmp 98)
 (.seq (.blk [⟨some 4, .mv (.const (.bool false)), none⟩])
 (.ret))
 (.skip)))))
 (.blk [⟨some 99, .bin .add (.tmp 67) (.const (.int .i64 1)), none⟩,
 ⟨some 67, .mv (.tmp 99), none⟩])))))))
 (.seq (.blk [⟨some 4, .mv (.const (.bool true)), none⟩])
 (.ret))))),
 [.tmp 4], 100)
def ir_sSame (_F : Nat → Nat) : IC × List RV × Nat := (.seq (.blk [⟨some 4, .mv (.const (.bool false)), none⟩])
 (.seq (.seq (.blk [⟨some 6, .mv (.tmp 0), none⟩,
 ⟨some 7, .len (.tmp 6), none⟩,
 ⟨some 8, .mv (.tmp 1), none⟩,
 ⟨some 9, .len (.tmp 8), none⟩,
 ⟨some 10, .bin .neq (.tmp 7) (.tmp 9), none⟩])
 (.cond (.tmp 10)
 (.seq (.blk [⟨some 4, .mv (.const (.bool false)), none⟩])
 (.ret))
 (.skip)))
 (.seq (.seq (.blk [⟨some 11, .mv (.tmp 0), none⟩,
 ⟨some 12, .len (.tmp 11), none⟩,
 ⟨some 13, .mv (.const (.int .i64 0)), none⟩])
 (.block 0 (.loop (.seq (.blk [⟨some 14, .bin .lss (.tmp 13) (.tmp 12), none⟩])
 (.seq (.cond (.tmp 14)
 (.skip)
 (.exit 0))
 (.seq (.block 1 (.seq (.blk [⟨some 15, .mv (.tmp 13), none⟩,
 ⟨some 5, .mv (.tmp 15), none⟩])
 (.seq (.drw [⟨⟨some 16, .mv (.tmp 0), none⟩, false, []⟩,
 ⟨⟨some 17, .mv (.tmp 5), none⟩, false, []⟩,
 ⟨⟨some 18, .iad (.tmp 16) (.tmp 17) 1, none⟩, false, []⟩,
 ⟨⟨some 19, .ld (.tmp 18), none⟩, false, []⟩,
 ⟨⟨some 20, .mv (.tmp 1), none⟩, false, []⟩,
 ⟨⟨some 21, .mv (.tmp 5), none⟩, false, []⟩,
 ⟨⟨some 22, .iad (.tmp 20) (.tmp 21) 1, none⟩, false, []⟩,
 ⟨⟨some 23, .ld (.tmp 22), none⟩, false, []⟩,
 ⟨⟨some 24, .bin .neq (.tmp 19) (.tmp 23), none⟩, false, []⟩]
 [])
 (.cond (.tmp 24)
 (.seq (.blk [⟨some 4, .mv (.const (.bool false)), none⟩])
 (.ret))
 (.skip)))))
 (.blk [⟨some 25, .bin .add (.tmp 13) (.const (.int .i64 1)), none⟩,
 ⟨some 13, .mv (.tmp 25), none⟩])))))))
 (.seq (.blk [⟨some 4, .mv (.const (.bool true)), none⟩])
 (.ret)))),
 [.tmp 4], 26)
def ir_lVersion (_F : Nat → Nat) : IC × List RV × Nat := (.seq (.blk [⟨some 4, .mv (.const (.int .i64 0)), none⟩])
 (.seq (.blk [⟨some 5, .mv (.tmp 0), none⟩,
 ⟨some 6, .conv .i64 (.tmp 5), none⟩,
 ⟨some 7, .mv (.tmp 1), none⟩,
 ⟨some 8, .bin .add (.tmp 7) (.const (.int .i64 1)), none⟩,
 ⟨some 9, .bin .rem (.tmp 6) (.tmp 8), none⟩,
 ⟨some 4, .mv (.tmp 9), none⟩])
 (.ret)),
 [.tmp 4], 10)
end Go.Msk

namespace Go.Msk
open Go.RowKit
set_option maxRecDepth 100000
section
variable {P : Program} {F : Nat → Nat}
attribute [local simp] bnd wpC wpR RI.wp gOk RK.run thenC inBlockC updo upd ev args0 postC rvals RV.val tup_one isShift
theorem appendNil_run {σ : Sl} {w : World} {x : Operand} {v : Value} {l : List UInt8} {ok : Nat → Prop} {K : Value → World → Prop} (hx : ev σ x = v) (hv : SlC ok w v l.length (u8s l)) (hl : l.length ≤ 2147483647)
    (hK : ∀ v' w', SlC (fun b => w.heap.size ≤ b) w' v' l.length (u8s l) → Mod [] w w' → K v' w') : (RK.append (.const (.slice none 0 0)) x 1 1).run P σ w K := by
  obtain ⟨base, cap, rfl, hcap, hb0, hb⟩ := hv
  have hsrc : srcCells w 1 (.slice base l.length cap) = some (l.length, u8s l) := by
    cases base with
    | none => have := hb0 rfl; have : l = [] := List.length_eq_zero_iff.1 (by omega); subst this; simp [srcCells, u8s]
    | some a =>
      by_cases hc0 : 0 < cap
      · obtain ⟨h1, h2, h3⟩ := hb a rfl hc0
        simp only [srcCells, Nat.mul_one]
        rw [cellsAt_of' h3 (u8s_length l)]; rfl
      · have : l = [] := List.length_eq_zero_iff.1 (by omega)
        subst this; simp [srcCells, cellsAt, u8s]
  have e1 : ev σ (.const (.slice none 0 0)) = .slice none 0 0 := rfl
  simp only [RK.run, e1, hx, hsrc, appendRun]
  by_cases h0 : l.length = 0
  · have : l = [] := List.length_eq_zero_iff.1 h0
    subst this
    simp only [List.length_nil, Nat.add_zero, Nat.le_refl, if_true]
    exact hK _ _ SlC.nil (Mod.refl _ _)
  · rw [if_neg (by omega)]
    refine ⟨by omega, by omega, ?_⟩
    intro T cap' rest hc hr
    refine hK _ _ ⟨some ⟨w.heap.size, 0, none⟩, cap', by simp, by simpa using hc, fun h => by simp at h, fun a ha _ => ?_⟩ ((Mod.drew _ _).trans (Mod.alloc _ _ _))
    simp only [Option.some.injEq] at ha; subst ha
    have hblk := Blk.new w.drew (u8s l ++ rest) T
    refine ⟨Nat.le_refl _, hblk.lt, ?_⟩
    have := hblk.cells.take (u8s l).length
    simpa using this
theorem OctX.slc {O : List Nat} {w : World} {v : Value} {o : Option (List UInt8)} (h : OctX O w v o) : SlC (fun _ => True) w v (o.getD []).length (u8s (o.getD [])) ∧ ∃ b n c, v = .slice b n c ∧ b.isNone = o.isNone := by
  obtain ⟨h1, h2⟩ := h
  cases o with
  | none => simp only [IsOct] at h1; subst h1; exact ⟨SlC.nil, _, _, _, rfl, rfl⟩
  | some l =>
    obtain ⟨a, n, c, rfl, hb⟩ := h1
    refine ⟨⟨some a, c, by rw [hb.hlen]; rfl, by have := hb.hcap; have := hb.hlen; simp only [Option.getD_some]; omega, fun h => by simp at h, fun a' e _ => ?_⟩, _, _, _, rfl, rfl⟩
    simp only [Option.some.injEq] at e; subst e
    exact ⟨trivial, (h2 a n c rfl).2, hb.hcells a rfl⟩
theorem treeRet {σ : Sl} {w w0 : World} {t b2 : Nat} {cs : List Value} {tr : TR} (h2 : σ 2 = .pointer (some ⟨b2, 0, none⟩)) (hb : Blk w b2 tzero) (ht : σ t = .agg cs.toArray) (hrep : RepT (fun b => w0.heap.size ≤ b ∧ b ≠ b2) w tr cs)
    (hm : Mod [b2] w0 w) (hw0 : w0.heap.size ≤ b2) : wpR P [⟨none, .st (.tmp 2) 5 (.tmp t), none⟩] σ w (fun σ' w' => postC [.cells 2 5] (fun e w' => ∃ cs, e = .returned (.agg cs.toArray) ∧ RepT (fun b => w0.heap.size ≤ b) w' tr cs ∧ Mod [] w0 w') .ret σ' w') := by
  have h5 := hrep.five
  have hput : Mod [b2] w (putCells w ⟨b2, 0, none⟩ 0 cs) := Mod.put (by simp)
  have hp := hb.put (o := 0) (vs := cs) (by simp [h5, tzero])
  rw [splice_all (by rw [h5]; rfl)] at hp
  have ec : (Value.agg cs.toArray).cells = cs.toArray := rfl
  simp only [wpR, RI.wp, gOk, if_true, RK.run, ev, h2, ht, ec, updo]
  refine ⟨by simp [h5], stOk_many hb (by simp [h5, tzero]) (by simpa using hrep.oneCell), ?_⟩
  simp only [postC, rvals, List.mapM_cons, List.mapM_nil, RV.val, h2, cellsAt_of' hp.cells h5, Option.bind_eq_bind, Option.map_some, Option.bind_some, Option.pure_def, tup_one]
  exact ⟨cs, rfl, hrep.mod hput (fun b hb hx => by simp only [List.mem_singleton] at hb; exact hx.2 hb) (fun b _ hb => hb.1), Mod.drop (b := b2) (S := []) (hm.trans hput) hw0⟩
theorem octetsTree_ok (hm : P.follows .mixedOrders = true) (h : liftF P (F iOctetsTree) = some (ir_iOctetsTree F)) : (TK.oct (F iOctetsTree)).Ok P := by
  intro O w g v hg hr
  obtain ⟨o, rfl, hl⟩ := hg
  have ho : OctX O w v o := by cases hr with | byt h => exact h
  obtain ⟨hs, b, n, c, rfl, hbn⟩ := ho.slc
  refine call_of h hm (by simp) ?_
  rw [wpC_seq, wpC_blk]
  refine wpR_run ?_
  intro T
  have hb2 : Blk (w.alloc (.cells tzero.toArray T)) w.heap.size tzero := Blk.new w tzero T
  have hm1 : Mod [] w (w.alloc (.cells tzero.toArray T)) := Mod.alloc _ _ _
  have hs1 := hs.mod (ok' := fun _ => True) hm1 (by simp) fun _ _ h => h
  have hz : ([Value.int .i64 0, .slice none 0 0, .bool false, .slice none 0 0, .slice none 0 0] : List Value) = tzero := rfl
  rw [hz]
  have hsz : (w.alloc (.cells tzero.toArray T)).heap.size = w.heap.size + 1 := by simp
  generalize w.alloc (.cells tzero.toArray T) = w1 at hb2 hm1 hs1 hsz ⊢
  have a0 : args0 [.slice b n c] 0 = .slice b n c := rfl
  generalize args0 [.slice b n c] = σ0 at a0 ⊢
  show wpC P (.seq _ _) _ _ _
  rw [wpC_seq, wpC_blk]
  refine wpR_step (v := .slice b n c) (by simp [RK.val?, a0]) ?_
  refine wpR_run ?_
  refine appendNil_run (v := .slice b n c) (by simp) hs1 (by cases o with | none => simp | some l => exact hl l rfl) fun v' w2 hv' hm2 => ?_
  have ht : GV.told (.byt o) = .mk 0 (o.getD []) o.isNone [] [] := by cases o <;> rfl
  rw [ht]
  obtain ⟨b', c', rfl, -⟩ := id hv'
  refine wpR_step (v := .slice b n c) (by simp [RK.val?, a0]) ?_
  refine wpR_step (v := .bool o.isNone) (by simp [RK.val?, hbn]) ?_
  refine wpR_step (v := .agg [.int .i64 0, .slice b' (o.getD []).length c', .bool o.isNone, .slice none 0 0, .slice none 0 0].toArray) (by simp [RK.val?, fillL, tzero, splice, Value.cells]) ?_
  refine treeRet (by simp) (hb2.mod hm2 (by simp)) (by simp) (RepT.oct _ (hv'.mod (Mod.refl [] _) (by simp) fun x _ hx => ⟨by omega, by omega⟩)) ((hm1.trans hm2).nil) (Nat.le_refl _)
theorem textTree_ok (hm : P.follows .mixedOrders = true) (h : liftF P (F iTextTree) = some (ir_iTextTree F)) : (TK.txt (F iTextTree)).Ok P := by
  intro O w g v hg hr
  obtain ⟨o, rfl⟩ := hg
  refine call_of h hm (by simp) ?_
  rw [wpC_seq, wpC_blk]
  refine wpR_run ?_
  intro T
  have hb2 : Blk (w.alloc (.cells tzero.toArray T)) w.heap.size tzero := Blk.new w tzero T
  have hm1 : Mod [] w (w.alloc (.cells tzero.toArray T)) := Mod.alloc _ _ _
  have hr1 := hr.mod hm1 (by simp)
  have hz : ([Value.int .i64 0, .slice none 0 0, .bool false, .slice none 0 0, .slice none 0 0] : List Value) = tzero := rfl
  rw [hz]
  have hsz : (w.alloc (.cells tzero.toArray T)).heap.size = w.heap.size + 1 := by simp
  generalize w.alloc (.cells tzero.toArray T) = w1 at hb2 hm1 hr1 hsz ⊢
  have a0 : args0 [v] 0 = v := rfl
  generalize args0 [v] = σ0 at a0 ⊢
  show wpC P (.seq (.seq _ _) _) _ _ _
  rw [wpC_seq, wpC_seq, wpC_blk]
  refine wpR_step (v := v) (by simp [RK.val?, a0]) ?_
  cases o with
  | none =>
    have hv : v = .pointer none := by cases hr with | nstr0 => rfl
    subst hv
    refine wpR_step (v := .bool true) (by simp [RK.val?]) ?_
    simp only [wpR, thenC]
    rw [wpC_cond_t (by simp), wpC_seq, wpC_blk]
    refine wpR_step (v := .agg [.int .i64 0, .slice none 0 0, .bool true, .slice none 0 0, .slice none 0 0].toArray) (by simp [RK.val?, fillL, tzero, splice, Value.cells]) ?_
    exact treeRet (by simp) hb2 (by simp) (RepT.num 0 true) hm1.nil (Nat.le_refl _)
  | some l =>
    obtain ⟨b, rfl, hcell⟩ : ∃ b, v = .pointer (some ⟨b, 0, none⟩) ∧ w1.cell? ⟨b, 0, none⟩ = some (str l) := by
      cases hr1 with | nstr1 h1 h2 => exact ⟨_, rfl, h2⟩
    refine wpR_step (v := .bool false) (by simp [RK.val?]) ?_
    simp only [wpR, thenC]
    rw [wpC_cond_f (by simp), wpC_skip]
    simp only [thenC]
    rw [wpC_seq, wpC_blk]
    refine wpR_step (v := .pointer (some ⟨b, 0, none⟩)) (by simp [RK.val?, a0]) ?_
    refine wpR_step (v := .pointer (some ⟨b, 0, none⟩)) (by simp [RK.val?]) ?_
    refine wpR_step (v := str l) (by simp [RK.val?, hcell]) ?_
    refine wpR_run ?_
    simp only [RK.run, ev, updo, upd_same, str]
    intro T2 cap rest hcap hrest
    have hsz2 : (⟨l.toArray⟩ : ByteArray).size = l.length := by simp [ByteArray.size]
    rw [hsz2] at hcap hrest ⊢
    have hblk := Blk.new' w1.drew (u8s l ++ rest) T2 (cap, cap + 1) (by simp only [List.length_append, u8s_length]; omega)
    have hm2 : Mod [] w1 (w1.drew.alloc (.cells (u8s l ++ rest).toArray T2 (cap, cap + 1))) := (Mod.drew _ _).trans (Mod.alloc _ _ _)
    have hs : SlC (fun x => w.heap.size ≤ x ∧ x ≠ w.heap.size) (w1.drew.alloc (.cells (u8s l ++ rest).toArray T2 (cap, cap + 1))) (.slice (some ⟨w1.heap.size, 0, none⟩) l.length cap) l.length (u8s l) := by
      refine ⟨some ⟨w1.heap.size, 0, none⟩, cap, rfl, hcap, fun h => by simp at h, fun a ha _ => ?_⟩
      simp only [Option.some.injEq] at ha; subst ha
      refine ⟨⟨show w.heap.size ≤ w1.heap.size by omega, show w1.heap.size ≠ w.heap.size by omega⟩, hblk.lt, ?_⟩
      have := hblk.cells.take (u8s l).length
      simpa using this
    refine wpR_step (v := .agg [.int .i64 0, .slice (some ⟨w1.heap.size, 0, none⟩) l.length cap, .bool false, .slice none 0 0, .slice none 0 0].toArray) (by simp [RK.val?, fillL, tzero, splice, Value.cells]) ?_
    exact treeRet (by simp) (hb2.mod hm2 (by simp)) (by simp) (RepT.oct _ hs) ((hm1.trans hm2).nil) (Nat.le_refl _)
theorem version_call (hm : P.follows .mixedOrders = true) (h : liftF P (F lVersion) = some (ir_lVersion F)) {w : World} {n m : Int} (hn : 0 ≤ n ∧ n < 256) (hm0 : 0 ≤ m ∧ m < 32768) :
    Calls P (F lVersion) [.int .u8 n, .int .i64 m].toArray w fun e w' => e = .returned (.int .i64 (n % (m + 1))) ∧ w' = w := by
  refine call_of h hm (by simp) ?_
  have e1 : IntKind.i64.wrap n = n := by simp [IntKind.wrap, IntKind.bits, IntKind.signed]; omega
  have e2 : IntKind.i64.wrap (m + 1) = m + 1 := by simp [IntKind.wrap, IntKind.bits, IntKind.signed]; omega
  have e3 : IntKind.i64.wrap (n.tmod (m + 1)) = n % (m + 1) := by
    have h1 : n.tmod (m + 1) = n % (m + 1) := Int.tmod_eq_emod_of_nonneg hn.1
    have h2 : 0 ≤ n % (m + 1) := Int.emod_nonneg _ (by omega)
    have h3 : n % (m + 1) < m + 1 := Int.emod_lt_of_pos _ (by omega)
    rw [h1]
    simp only [IntKind.wrap, IntKind.bits, IntKind.signed]; simp; omega
  have e4 : n.tmod (m + 1) = n % (m + 1) := Int.tmod_eq_emod_of_nonneg hn.1
  have e0 : m + 1 ≠ 0 := by omega
  simp [e1, e2, intBin, e0, e4]
end
end Go.Msk

namespace Go.Msk
open Go.RowKit
set_option maxRecDepth 100000
theorem SlC.get {ok : Nat → Prop} {w : World} {v : Value} {l : List UInt8} (h : SlC ok w v l.length (u8s l)) {i : Nat} (hi : i < l.length) :
    ∃ a c b, v = .slice (some a) l.length c ∧ l[i]? = some b ∧ w.cell? (a.add (i * 1)) = some (.int .u8 b.toNat) := by
  obtain ⟨base, cap, rfl, h2, h3, h4⟩ := h
  cases base with
  | none => have := h3 rfl; omega
  | some a =>
    obtain ⟨-, -, hc⟩ := h4 a rfl (by omega)
    have hb : l[i]? = some l[i] := List.getElem?_eq_getElem hi
    exact ⟨a, cap, l[i], rfl, hb, by rw [Nat.mul_one]; exact hc.nth (by rw [u8s_get, hb]; rfl)⟩
theorem SlC.shape {ok : Nat → Prop} {w : World} {v : Value} {n : Nat} {cs : List Value} (h : SlC ok w v n cs) : ∃ b c, v = .slice b n c := by
  obtain ⟨base, cap, rfl, -⟩ := h; exact ⟨_, _, rfl⟩
theorem u8_ne (a b : UInt8) : ((a.toNat : Int) != b.toNat) = (a != b) := by
  by_cases h : a = b
  · subst h; simp
  · have h1 : (a != b) = true := by simpa using h
    have h2 : ((a.toNat : Int) != b.toNat) = true := by
      simp only [bne_iff_ne, ne_eq, Int.natCast_inj]
      exact fun e => h (UInt8.toNat_inj.1 e)
    rw [h1, h2]
section
variable {P : Program} {F : Nat → Nat}
attribute [local simp] bnd wpC wpR RI.wp gOk RK.run thenC inBlockC updo upd ev args0 postC rvals RV.val tup_one isShift
theorem same_call (hm : P.follows .mixedOrders = true) (h : liftF P (F sSame) = some (ir_sSame F)) {ok : Nat → Prop} {w : World} {v1 v2 : Value} {l1 l2 : List UInt8} (h1 : SlC ok w v1 l1.length (u8s l1)) (h2 : SlC ok w v2 l2.length (u8s l2))
    (hl : l1.length ≤ 4611686018427387904) : Calls P (F sSame) [v1, v2].toArray w fun e w' => e = .returned (.bool (decide (l1 = l2))) ∧ Mod [] w w' := by
  refine call_of h hm (by simp) ?_
  obtain ⟨b1, c1, e1⟩ := h1.shape
  obtain ⟨b2, c2, e2⟩ := h2.shape
  have a0 : args0 [v1, v2] 0 = v1 := rfl
  have a1 : args0 [v1, v2] 1 = v2 := rfl
  generalize args0 [v1, v2] = σ0 at a0 a1 ⊢
  rw [wpC_seq, wpC_blk]
  refine wpR_step (v := .bool false) (by simp [RK.val?]) ?_
  simp only [wpR, thenC]
  rw [wpC_seq, wpC_seq, wpC_blk]
  refine wpR_step (v := v1) (by simp [RK.val?, a0]) ?_
  refine wpR_step (v := .int .i64 l1.length) (by simp [RK.val?, e1]) ?_
  refine wpR_step (v := v2) (by simp [RK.val?, a1]) ?_
  refine wpR_step (v := .int .i64 l2.length) (by simp [RK.val?, e2]) ?_
  refine wpR_step (v := .bool ((l1.length : Int) != l2.length)) (by simp [RK.val?, intBin]) ?_
  simp only [wpR, thenC]
  by_cases hlen : l1.length = l2.length
  · have hb : ((l1.length : Int) != l2.length) = false := by simp [hlen]
    rw [wpC_cond_f (by simp [hb]), wpC_skip]
    simp only [thenC]
    rw [wpC_seq, wpC_seq, wpC_blk]
    refine wpR_step (v := v1) (by simp [RK.val?, a0]) ?_
    refine wpR_step (v := .int .i64 l1.length) (by simp [RK.val?, e1]) ?_
    refine wpR_step (v := .int .i64 0) (by simp [RK.val?]) ?_
    simp only [wpR, thenC]
    rw [wpC_block, wpC_loop]
    refine ⟨fun σ1 w1 => ∃ i, i ≤ l1.length ∧ σ1 13 = .int .i64 i ∧ σ1 12 = .int .i64 l1.length ∧ σ1 0 = v1 ∧ σ1 1 = v2 ∧ Mod [] w w1 ∧ ∀ k, k < i → l1[k]? = l2[k]?,
      fun σ1 _ => l1.length - (match σ1 13 with | .int _ j => j.toNat | _ => 0), ⟨0, Nat.zero_le _, by simp, by simp, by simp [a0], by simp [a1], Mod.refl _ _, by simp⟩, ?_⟩
    rintro σ1 w1 ⟨i, hi, h13, h12, hv1, hv2, hm1, hpre⟩
    rw [wpC_seq, wpC_blk]
    refine wpR_step (v := .bool (decide ((i : Int) < l1.length))) (by simp [RK.val?, h13, h12, intBin]) ?_
    simp only [wpR, thenC]
    rw [wpC_seq]
    by_cases hlt : i < l1.length
    · rw [wpC_cond_t (by simp [hlt]), wpC_skip]
      simp only [thenC]
      rw [wpC_seq, wpC_block, wpC_seq, wpC_blk]
      refine wpR_step (v := .int .i64 i) (by simp [RK.val?, h13]) ?_
      refine wpR_step (v := .int .i64 i) (by simp [RK.val?]) ?_
      simp only [wpR, thenC]
      have hm2 : Mod [] w w1.drew := hm1.trans (Mod.drew _ _)
      obtain ⟨p1, d1, x1, f1, f2, f3⟩ := (h1.mod (ok' := ok) hm2 (by simp) fun _ _ h => h).get hlt
      obtain ⟨p2, d2, x2, f4, f5, f6⟩ := (h2.mod (ok' := ok) hm2 (by simp) fun _ _ h => h).get (hlen ▸ hlt)
      rw [wpC_seq]
      show wpD P _ _ _ _ _
      refine wpD_pure rfl ?_
      simp only [List.map_cons, List.map_nil, List.append_nil]
      refine wpR_step (v := v1) (by simp [RK.val?, hv1]) ?_
      refine wpR_step (v := .int .i64 i) (by simp [RK.val?]) ?_
      refine wpR_step (v := .pointer (some (p1.add (i * 1)))) (by simp [RK.val?, f1, hlt]) ?_
      refine wpR_step (v := .int .u8 x1.toNat) (by simp [RK.val?]; simpa using f3) ?_
      refine wpR_step (v := v2) (by simp [RK.val?, hv2]) ?_
      refine wpR_step (v := .int .i64 i) (by simp [RK.val?]) ?_
      refine wpR_step (v := .pointer (some (p2.add (i * 1)))) (by simp [RK.val?, f4, ← hlen, hlt]) ?_
      refine wpR_step (v := .int .u8 x2.toNat) (by simp [RK.val?]; simpa using f6) ?_
      refine wpR_step (v := .bool (x1 != x2)) (by simp [RK.val?, intBin, u8_ne]) ?_
      simp only [wpR, thenC]
      by_cases hx : x1 = x2
      · subst hx
        rw [wpC_cond_f (by simp), wpC_skip]
        have hw : IntKind.i64.wrap ((i : Int) + 1) = ((i + 1 : Nat) : Int) := by
          simp only [IntKind.wrap, IntKind.bits, IntKind.signed]; simp; omega
        simp only [inBlockC, thenC]
        rw [wpC_blk]
        refine wpR_step (v := .int .i64 ((i + 1 : Nat) : Int)) (by simp [RK.val?, intBin, h13, hw]) ?_
        refine wpR_step (v := .int .i64 ((i + 1 : Nat) : Int)) (by simp [RK.val?]) ?_
        simp only [wpR, thenC]
        refine ⟨⟨i + 1, hlt, by simp, by simp [h12], by simp [hv1], by simp [hv2], hm2, fun k hk => ?_⟩, ?_⟩
        · rcases Nat.lt_or_ge k i with hk' | hk'
          · exact hpre k hk'
          · have : k = i := by omega
            subst this; rw [f2, f5]
        · simp [h13]; show l1.length - (i + 1) < l1.length - i; omega
      · rw [wpC_cond_t (by simp [hx]), wpC_seq, wpC_blk]
        refine wpR_step (v := .bool false) (by simp [RK.val?]) ?_
        have hne : l1 ≠ l2 := fun e => by subst e; rw [f2] at f5; simp at f5; exact hx f5
        simp [hne, hm2]
    · rw [wpC_cond_f (by simp; omega)]
      have hie : i = l1.length := by omega
      have heq : l1 = l2 := by
        apply List.ext_getElem? ; intro k
        rcases Nat.lt_or_ge k l1.length with hk | hk
        · exact hpre k (by omega)
        · rw [List.getElem?_eq_none hk, List.getElem?_eq_none (by omega)]
      simp [heq, hm1]
  · have hb : ((l1.length : Int) != l2.length) = true := by simp; omega
    rw [wpC_cond_t (by simp [hb]), wpC_seq, wpC_blk]
    refine wpR_step (v := .bool false) (by simp [RK.val?]) ?_
    have hne : l1 ≠ l2 := fun e => hlen (by rw [e])
    simp [hne, Mod.refl]
end
end Go.Msk

namespace Go.Msk
open Go.RowKit
set_option maxRecDepth 100000
def GotAt (P : Program) (f : FuncId) (t : TR) : Prop :=
  ∀ (N : Nat) (w : World) (cs : List Value), N ≤ w.heap.size → RepT (fun b => b < N) w t cs →
    Calls P f [.agg cs.toArray].toArray w fun e w' => ∃ cs', e = .returned (.agg cs'.toArray) ∧ RepT (fun b => b < N ∨ w.heap.size ≤ b) w' t cs' ∧ Mod [] w w'
structure LRaw2 (w : World) (n0 : Nat) (lv : Value) (css : List (List Value)) : Prop where
  two : ∀ cs ∈ css, cs.length = 2
  sl : (lv = .slice none 0 0 ∧ css = []) ∨ ∃ BA cap rest, lv = .slice (some ⟨BA, 0, none⟩) css.length cap ∧ css.length ≤ cap ∧ n0 ≤ BA ∧ Blk w BA (css.flatten ++ rest) ∧ rest.length = (cap - css.length) * 2
section
variable {P : Program} {F : Nat → Nat}
attribute [local simp] bnd wpC wpR RI.wp gOk RK.run thenC inBlockC updo upd ev args0 postC rvals RV.val tup_one isShift
structure GS (w3 w : World) (Ob : Nat) (n : Int) (sv lv uv : Value) (null : Bool) (N : Nat) (ts : List TR) (tcs : List (List Value)) : Prop where
  ob : Blk w Ob [.int .i64 n, sv, .bool null, lv, uv]
  raw : LRaw w w3.heap.size lv tcs
  rep : RepTL (fun b => b < N ∨ (w3.heap.size ≤ b ∧ own lv ≠ some b)) w ts tcs
  mod : Mod [Ob] w3 w
  lob : Ob < w3.heap.size
  nob : N ≤ Ob
theorem GS.same {w3 w w' : World} {Ob : Nat} {n : Int} {sv lv uv : Value} {null : Bool} {N : Nat} {ts : List TR} {tcs : List (List Value)} (h : GS w3 w Ob n sv lv uv null N ts tcs) (hm : Mod [] w w') : GS w3 w' Ob n sv lv uv null N ts tcs :=
  ⟨h.ob.mod hm (by simp), h.raw.mod hm (by simp), h.rep.mod hm (by simp) (fun _ _ h => h), h.mod.trans hm.nil, h.lob, h.nob⟩
theorem GS.step {w3 w wr : World} {Ob : Nat} {n : Int} {sv lv uv : Value} {null : Bool} {N : Nat} {ts : List TR} {tcs : List (List Value)} {t : TR} {es : List Value} {sb : Nat} {σ : Sl} {x y a : Operand} {d1 d2 : Nat} {Q : Sl → World → Prop} (h : GS w3 w Ob n sv lv uv null N ts tcs)
    (hx : ev σ x = lv) (hy : ev σ y = .slice (some ⟨sb, 0, none⟩) 1 1) (hsb : Blk w sb es) (ht : RepT (fun b => b < N ∨ wr.heap.size ≤ b) w t es) (hlen : tcs.length ≤ 2147483647)
    (hwr : ∀ b, own lv = some b → b < wr.heap.size) (hwr3 : w3.heap.size ≤ wr.heap.size) (ha : ∀ v, ev (upd σ d1 v) a = .pointer (some ⟨Ob, 0, none⟩)) (hd : d1 ≠ d2)
    (hQ : ∀ w' lv', GS w3 w' Ob n sv lv' uv null N (ts ++ [t]) (tcs ++ [es]) → Q (upd (upd σ d1 lv') d2 (.pointer (some ⟨Ob, 3, none⟩))) w') :
    wpR P [⟨some d1, .append x y 5 88, none⟩, ⟨some d2, .fad a 3, none⟩, ⟨none, .st (.tmp d2) 1 (.tmp d1), none⟩] σ w Q := by
  have hlob := h.lob
  have hnob := h.nob
  refine wpR_run ?_
  refine append_tree hx h.raw h.mod.size hy hsb ht.five ht.oneCell hlen fun lv' w1 hraw1 hown => ?_
  refine wpR_step (v := .pointer (some ⟨Ob, 3, none⟩)) (by
    show (RK.fad a 3).val? (upd σ d1 lv') w1 = _
    simp only [RK.val?, ha lv', Addr.add_mk, Nat.zero_add]) ?_
  obtain ⟨o1, o2⟩ := hraw1.one
  have hge : ∀ b, own lv = some b → w3.heap.size ≤ b := fun b hb => (h.raw.own hb).1
  have hge' : ∀ b, own lv' = some b → w3.heap.size ≤ b := fun b hb => (hraw1.own hb).1
  -- the world behind the append
  have key : Blk w1 Ob [.int .i64 n, sv, .bool null, lv, uv] ∧ Mod [Ob] w3 w1 ∧ RepTL (fun b => b < N ∨ (w3.heap.size ≤ b ∧ own lv' ≠ some b)) w1 (ts ++ [t]) (tcs ++ [es]) := by
    rcases hown with ⟨⟨ho, hm⟩, -⟩ | ⟨ho, hm⟩
    · have hS : ∀ b ∈ (own lv).toList, own lv = some b := fun b hb => by simpa using hb
      refine ⟨h.ob.mod hm (fun hc => by have := hge _ (hS _ hc); omega), ?_, (h.rep.mod hm (fun b hb hc => ?_) (fun b _ hb => by rw [ho]; exact hb)).append (.cons (ht.mod hm (fun b hb hc => ?_) fun b _ hb => ?_) .nil)⟩
      · refine ⟨hm.os.trans h.mod.os, hm.tape.trans h.mod.tape, hm.output.trans h.mod.output, Nat.le_trans h.mod.size hm.size, fun k hk hn => ?_⟩
        rw [hm.block k (Nat.lt_of_lt_of_le hk h.mod.size) (fun hc => by have := hge _ (hS _ hc); omega)]
        exact h.mod.block k hk hn
      · have := hge _ (hS _ hb)
        rcases hc with hc | hc
        · omega
        · exact hc.2 (hS b hb)
      · have := hge _ (hS _ hb); have := hwr _ (hS _ hb)
        rcases hc with hc | hc <;> omega
      · rcases hb with hb | hb
        · exact .inl hb
        · refine .inr ⟨by omega, fun e => ?_⟩
          rw [ho] at e
          have := hwr _ e; omega
    · refine ⟨h.ob.mod hm (by simp), h.mod.trans hm.nil, (h.rep.mod hm (by simp) fun b hlt hb => ?_).append (.cons (ht.mod hm (by simp) fun b hlt hb => ?_) .nil)⟩
      · rcases hb with hb | hb
        · exact .inl hb
        · exact .inr ⟨hb.1, fun e => by rw [ho] at e; simp only [Option.some.injEq] at e; omega⟩
      · rcases hb with hb | hb
        · exact .inl hb
        · exact .inr ⟨by omega, fun e => by rw [ho] at e; simp only [Option.some.injEq] at e; omega⟩
  obtain ⟨k1, k2, k3⟩ := key
  have hput : Mod [Ob] w1 (putCells w1 ⟨Ob, 3, none⟩ 0 [lv']) := Mod.put (by simp)
  have hp := k1.put (o := 3) (vs := [lv']) (by simp)
  have e1 : splice [Value.int .i64 n, sv, .bool null, lv, uv] 3 [lv'] = [.int .i64 n, sv, .bool null, lv', uv] := by simp [splice]
  rw [e1] at hp
  have s1 : (updo (updo σ (some d1) lv') (some d2) (.pointer (some ⟨Ob, 3, none⟩))) d1 = lv' := by simp only [updo, upd, hd, if_false, if_true]
  have s2 : (updo (updo σ (some d1) lv') (some d2) (.pointer (some ⟨Ob, 3, none⟩))) d2 = .pointer (some ⟨Ob, 3, none⟩) := by simp only [updo, upd, if_true]
  refine wpR_run ?_
  simp only [RK.run, ev, s1, s2, o1]
  refine ⟨rfl, stOk_one k1 (by simp) o2, ?_⟩
  exact hQ _ lv' ⟨hp, hraw1.mod hput (fun b hb => by have := hge' b hb; simp; omega), k3.mod hput (fun b hb hc => by
    simp only [List.mem_singleton] at hb
    rcases hc with hc | hc <;> omega) (fun _ _ h => h), k2.trans hput, hlob, hnob⟩
theorem SlC.flat {ok : Nat → Prop} {w : World} {v : Value} {n sz j : Nat} {css : List (List Value)} {cs : List Value} (h : SlC ok w v n css.flatten) (hn : n = css.length) (hsz : ∀ c ∈ css, c.length = sz) (hj : css[j]? = some cs) :
    ∃ a c, v = .slice (some a) n c ∧ j < n ∧ cellsAt w (a.add (j * sz)) 0 sz = some cs := by
  have hjl : j < css.length := by
    rcases Nat.lt_or_ge j css.length with h | h
    · exact h
    · rw [List.getElem?_eq_none h] at hj; simp at hj
  obtain ⟨base, cap, rfl, h2, h3, h4⟩ := h
  cases base with
  | none => have := h3 rfl; omega
  | some a =>
    obtain ⟨-, -, hc⟩ := h4 a rfl (by omega)
    refine ⟨a, cap, rfl, by omega, ?_⟩
    have := flat_cells hc hsz hj
    rw [Addr.add_of hc.1]
    exact cellsAt_of' this (hsz _ (List.mem_of_getElem? hj))
theorem SlC.pair {ok : Nat → Prop} {w : World} {v : Value} {n j : Nat} {css : List (List Value)} {a b : Value} (h : SlC ok w v n css.flatten) (hn : n = css.length) (hsz : ∀ c ∈ css, c.length = 2) (hj : css[j]? = some [a, b]) :
    ∃ p c, v = .slice (some p) n c ∧ j < n ∧ w.cell? ((p.add (j * 2)).add 0) = some a ∧ w.cell? ((p.add (j * 2)).add 1) = some b := by
  have hjl : j < css.length := by
    rcases Nat.lt_or_ge j css.length with h | h
    · exact h
    · rw [List.getElem?_eq_none h] at hj; simp at hj
  obtain ⟨base, cap, rfl, h2, h3, h4⟩ := h
  cases base with
  | none => have := h3 rfl; omega
  | some p =>
    obtain ⟨-, -, hc⟩ := h4 p rfl (by omega)
    have hcl := flat_cells hc hsz hj
    refine ⟨p, cap, rfl, by omega, ?_, ?_⟩
    · rw [Addr.add_of hc.1]; exact hcl.nth (i := 0) rfl
    · rw [Addr.add_of hc.1]; exact hcl.nth (i := 1) rfl
theorem RepTL.nth {ok : Nat → Prop} {w : World} {l : List TR} {css : List (List Value)} (h : RepTL ok w l css) {j : Nat} {t : TR} (ht : l[j]? = some t) : ∃ cs, css[j]? = some cs ∧ RepT ok w t cs := by
  induction l generalizing css j with
  | nil => simp at ht
  | cons a l ih =>
    cases h with
    | cons h1 h2 =>
      cases j with
      | zero => simp only [List.getElem?_cons_zero, Option.some.injEq] at ht; subst ht; exact ⟨_, rfl, h1⟩
      | succ j => simp only [List.getElem?_cons_succ] at ht ⊢; exact ih h2 ht
theorem got_loop1 {N : Nat} {w w3 : World} {Pb b2 Ob : Nat} {n : Int} {sv lv0 : Value} {null : Bool} {l : List TR} {css : List (List Value)} {σ : Sl} {Q : Exit → Sl → World → Prop} (hf : ∀ t ∈ l, GotAt P (F lGot) t)
    (hw : Mod [] w w3) (hN : N ≤ w.heap.size) (hl : SlC (fun b => b < N) w lv0 l.length css.flatten) (hr : RepTL (fun b => b < N) w l css) (hlen : l.length ≤ 2147483647)
    (hob : Blk w3 Ob [.int .i64 n, sv, .bool null, .slice none 0 0, .slice none 0 0]) (hoN : N ≤ Ob)
    (h1 : σ 1 = .pointer (some ⟨Pb, 0, none⟩)) (h2 : σ 2 = .pointer (some ⟨b2, 0, none⟩)) (h3 : σ 3 = .pointer (some ⟨Ob, 0, none⟩)) (hpb : w3.cell? ⟨Pb, 3, none⟩ = some lv0)
    (hQ : ∀ σ' w' lv tcs, σ' 1 = .pointer (some ⟨Pb, 0, none⟩) → σ' 2 = .pointer (some ⟨b2, 0, none⟩) → σ' 3 = .pointer (some ⟨Ob, 0, none⟩) → GS w3 w' Ob n sv lv (.slice none 0 0) null N l tcs → tcs.length = l.length → Q .normal σ' w') :
    wpC P (.seq (.blk [⟨some 15, .fad (.tmp 1) 3, none⟩, ⟨some 16, .ld (.tmp 15), none⟩, ⟨some 17, .len (.tmp 16), none⟩, ⟨some 18, .mv (.const (.int .i64 0)), none⟩])
      (.block 0 (.loop (.seq (.blk [⟨some 19, .bin .lss (.tmp 18) (.tmp 17), none⟩]) (.seq (.cond (.tmp 19) .skip (.exit 0))
        (.seq (.block 1 (.seq (.blk [⟨some 20, .iad (.tmp 16) (.tmp 18) 5, none⟩, ⟨some 21, .ldn (.tmp 20) 5, none⟩, ⟨some 5, .alloc tzero, none⟩, ⟨none, .st (.tmp 5) 5 (.tmp 21), none⟩])
            (.drw [⟨⟨some 22, .fad (.tmp 3) 3, none⟩, false, []⟩, ⟨⟨some 23, .ld (.tmp 22), none⟩, false, []⟩, ⟨⟨some 24, .ldn (.tmp 5) 5, none⟩, false, []⟩, ⟨⟨some 25, .call (F lGot) [.tmp 24], none⟩, true, []⟩,
                ⟨⟨some 26, .bslice 1 tzero [(0, 5, .tmp 25)], none⟩, true, [3]⟩]
              [⟨some 27, .append (.tmp 23) (.tmp 26) 5 88, none⟩, ⟨some 28, .fad (.tmp 3) 3, none⟩, ⟨none, .st (.tmp 28) 1 (.tmp 27), none⟩])))
          (.blk [⟨some 29, .bin .add (.tmp 18) (.const (.int .i64 1)), none⟩, ⟨some 18, .mv (.tmp 29), none⟩])))))))
      Q σ w3 := by
  obtain ⟨lb, lc, elv⟩ := hl.shape
  have hol := hob.lt
  rw [wpC_seq, wpC_blk]
  refine wpR_step (v := .pointer (some ⟨Pb, 3, none⟩)) (by simp [RK.val?, h1, Addr.add_mk]) ?_
  refine wpR_step (v := lv0) (by simp [RK.val?, hpb]) ?_
  refine wpR_step (v := .int .i64 l.length) (by simp [RK.val?, elv]) ?_
  refine wpR_step (v := .int .i64 0) (by simp [RK.val?]) ?_
  simp only [wpR, thenC]
  rw [wpC_block, wpC_loop]
  refine ⟨fun σ1 w1 => ∃ j lv tcs, j ≤ l.length ∧ σ1 1 = .pointer (some ⟨Pb, 0, none⟩) ∧ σ1 2 = .pointer (some ⟨b2, 0, none⟩) ∧ σ1 3 = .pointer (some ⟨Ob, 0, none⟩) ∧ σ1 16 = lv0 ∧ σ1 17 = .int .i64 l.length ∧ σ1 18 = .int .i64 j ∧
      GS w3 w1 Ob n sv lv (.slice none 0 0) null N (l.take j) tcs ∧ tcs.length = j,
    fun σ1 _ => l.length - (match σ1 18 with | .int _ j => j.toNat | _ => 0), ⟨0, .slice none 0 0, [], Nat.zero_le _, by simp [h1], by simp [h2], by simp [h3], by simp, by simp, by simp, ⟨hob, ⟨by simp, .inl ⟨rfl, rfl⟩⟩, by simpa using .nil, Mod.refl _ _, hol, hoN⟩, rfl⟩, ?_⟩
  rintro σ1 w1 ⟨j, lv, tcs, hj, s1, s2, s3, s16, s17, s18, hgs, htl⟩
  rw [wpC_seq, wpC_blk]
  refine wpR_step (v := .bool (decide ((j : Int) < l.length))) (by simp [RK.val?, s17, s18, intBin]) ?_
  simp only [wpR, thenC]
  rw [wpC_seq]
  by_cases hlt : j < l.length
  · rw [wpC_cond_t (by simp [hlt]), wpC_skip]
    simp only [thenC]
    rw [wpC_seq, wpC_block, wpC_seq, wpC_blk]
    obtain ⟨tj, htj⟩ : ∃ t, l[j]? = some t := ⟨l[j], List.getElem?_eq_getElem hlt⟩
    have hmw : Mod [Ob] w w1 := hw.nil.trans hgs.mod
    have hNob : ∀ b ∈ [Ob], ¬ b < N := fun b hb => by simp only [List.mem_singleton] at hb; omega
    obtain ⟨cj, hcj, hrj⟩ := (hr.mod (ok' := fun b => b < N) hmw hNob fun _ _ h => h).nth htj
    obtain ⟨pa, pc, ep, -, hcells⟩ := (hl.mod (ok' := fun b => b < N) hmw hNob fun _ _ h => h).flat hr.length hr.five hcj
    refine wpR_step (v := .pointer (some (pa.add (j * 5)))) (by simp [RK.val?, s16, s18, ep, hlt]) ?_
    refine wpR_step (v := .agg cj.toArray) (by simp [RK.val?, hcells]) ?_
    refine wpR_run ?_
    intro Ty
    obtain ⟨q1, q2, q3⟩ := new_put w1 tzero cj Ty (by rw [hrj.five]; rfl) hrj.oneCell
    refine wpR_run ?_
    have ec : (Value.agg cj.toArray).cells = cj.toArray := rfl
    have ec' : (Value.agg cj.toArray).cells.toList = cj := by simp [Value.cells]
    simp only [RK.run, ev, updo, upd]
    simp only [if_true, show (21 : Nat) ≠ 5 by decide, if_false, ec']
    refine ⟨by rw [ec]; simp [hrj.five], q1, ?_⟩
    generalize hw4 : putCells (w1.alloc (.cells tzero.toArray Ty)) ⟨w1.heap.size, 0, none⟩ 0 cj = w4 at q2 q3
    simp only [wpR, thenC]
    -- the region
    have hgs4 := hgs.same q3
    have hrj4 := hrj.mod (ok' := fun b => b < N) q3 (by simp) fun _ _ h => h
    have hN4 : N ≤ w4.heap.size := Nat.le_trans hN (Nat.le_trans hmw.size q3.size)
    have sz4 : w3.heap.size ≤ w4.heap.size := Nat.le_trans hgs.mod.size q3.size
    show wpD P _ _ _ w4.drew _
    refine wpD_of_B (fun jj v w' => if jj = 3 then ∃ cs', v = .agg cs'.toArray ∧ RepT (fun b => b < N ∨ w4.heap.size ≤ b) w' tj cs' else ∃ sb cs', v = .slice (some ⟨sb, 0, none⟩) 1 1 ∧ Blk w' sb cs' ∧ RepT (fun b => b < N ∨ w4.heap.size ≤ b) w' tj cs') ?_ ?_
    · intro jj v w5 w6 h hm
      split at h
      · rename_i hjj; rw [if_pos hjj]
        obtain ⟨cs', g1, g2⟩ := h
        exact ⟨cs', g1, g2.mod hm (by simp) fun _ _ h => h⟩
      · rename_i hjj; rw [if_neg hjj]
        obtain ⟨sb, cs', g1, g2, g3⟩ := h
        exact ⟨sb, cs', g1, g2.mod hm (by simp), g3.mod hm (by simp) fun _ _ h => h⟩
    refine walkB_step (v := .pointer (some ⟨Ob, 3, none⟩)) (by simp [RK.val?, s3, Addr.add_mk]) ?_
    refine walkB_step (v := lv) (by simp [RK.val?]; exact hgs4.ob.cell 3) ?_
    refine walkB_step (v := .agg cj.toArray) (by
      have : cellsAt w4.drew ⟨w1.heap.size, 0, none⟩ 0 5 = some cj := cellsAt_of' (show Cells w4.drew _ _ from q2.cells) hrj.five
      simp [RK.val?, this]) ?_
    refine walkB_node (fun w5 hm5 _ => ?_) fun u hu => ?_
    · have hm45 : Mod [] w4 w5 := (Mod.drew _ _).trans hm5
      have := hf tj (List.mem_of_getElem? htj) N w5 cj (Nat.le_trans hN4 hm45.size) (hrj4.mod hm45 (by simp) fun _ _ h => h)
      simp only [RK.run, List.map_cons, List.map_nil, ev, updo, upd, if_true]
      refine this.mono ?_
      rintro e w6 ⟨cs', rfl, g1, g2⟩
      refine ⟨_, rfl, g2, ?_⟩
      exact ⟨cs', rfl, g1.mod (Mod.refl [] _) (by simp) fun b _ hb => hb.imp id fun h => Nat.le_trans hm45.size h⟩
    obtain ⟨wu, hu⟩ := hu
    obtain ⟨cu, rfl, hcu⟩ := hu
    refine walkB_node (fun w5 hm5 hkn => ?_) fun u2 hu2 => ?_
    · have h3 := hkn 3 (by simp) _ rfl rfl rfl 25 rfl
      dsimp only at h3
      rw [if_pos rfl] at h3
      simp only [updo, upd, if_true] at h3
      obtain ⟨cs', e3, h3⟩ := h3
      have : cu = cs' := by
        have := congrArg (fun v => match v with | Value.agg a => a.toList | _ => []) e3
        simpa using this
      subst this
      refine bslice_run (cs := cu) (n0 := 0) (by simp) h3.five (Nat.zero_le _) fun v w6 hbs hm6 => ?_
      obtain ⟨sb, cs', g1, g2, g3, g4, g5⟩ := hbs
      have : cs' = cu := by
        have := congrArg (fun v => match v with | Value.agg a => a.toList | _ => []) g5
        simpa using this
      subst this
      refine ⟨hm6, ?_⟩
      rw [if_neg (by omega)]
      exact ⟨sb, cs', g1, g3, h3.mod hm6 (by simp) fun _ _ h => h⟩
    simp only [walkB]
    intro w5 hm5 hkn
    have h4 := hkn 4 (by simp) _ rfl rfl rfl 26 rfl
    dsimp only at h4
    rw [if_neg (by omega)] at h4
    simp only [updo, upd, if_true] at h4
    obtain ⟨sb, es, rfl, hblk, htree⟩ := h4
    have hm45 : Mod [] w4 w5 := (Mod.drew _ _).trans hm5
    refine (hgs4.same hm45).step (wr := w4) (t := tj) (by simp) (by simp) hblk htree (by omega) (fun b hb => (hgs4.raw.own hb).2) sz4 (fun v => by simp [s3]) (by decide) fun w6 lv' hgs6 => ?_
    simp only [inBlockC, thenC]
    have hw : IntKind.i64.wrap ((j : Int) + 1) = ((j + 1 : Nat) : Int) := by
      simp only [IntKind.wrap, IntKind.bits, IntKind.signed]; simp; omega
    rw [wpC_blk]
    refine wpR_step (v := .int .i64 ((j + 1 : Nat) : Int)) (by simp [RK.val?, intBin, s18, hw]) ?_
    refine wpR_step (v := .int .i64 ((j + 1 : Nat) : Int)) (by simp [RK.val?]) ?_
    simp only [wpR, thenC]
    refine ⟨⟨j + 1, lv', tcs ++ [es], hlt, by simp [s1], by simp [s2], by simp [s3], by simp [s16], by simp [s17], by simp, ?_, by simp [htl]⟩, ?_⟩
    · rw [List.take_add_one, htj]; simpa using hgs6
    · simp [s18]; show l.length - (j + 1) < l.length - j; omega
  · rw [wpC_cond_f (by simp; omega)]
    have hje : j = l.length := by omega
    subst hje
    rw [List.take_length] at hgs
    simp only [wpC, inBlockC, thenC, if_true]
    exact hQ _ w1 lv tcs (by simp [s1]) (by simp [s2]) (by simp [s3]) hgs htl
end
end Go.Msk

namespace Go.Msk
open Go.RowKit
set_option maxRecDepth 100000
section
variable {P : Program} {F : Nat → Nat}
attribute [local simp] bnd wpC wpR RI.wp gOk RK.run thenC inBlockC updo upd ev args0 postC rvals RV.val tup_one isShift
theorem append_two {σ : Sl} {w : World} {x y : Operand} {lv : Value} {css : List (List Value)} {es : List Value} {n0 sb : Nat} {K : Value → World → Prop} (hx : ev σ x = lv) (hraw : LRaw2 w n0 lv css) (hn0 : n0 ≤ w.heap.size)
    (hy : ev σ y = .slice (some ⟨sb, 0, none⟩) 1 1) (hsb : Blk w sb es) (h5 : es.length = 2) (hone : ∀ v ∈ es, v.oneCell' = true) (hl : css.length ≤ 2147483647)
    (hK : ∀ lv' w', LRaw2 w' n0 lv' (css ++ [es]) → (((own lv' = own lv ∧ Mod (own lv).toList w w') ∧ ∃ BA c, lv = .slice (some ⟨BA, 0, none⟩) css.length c ∧ css.length + 1 ≤ c) ∨ (own lv' = some w.heap.size ∧ Mod [] w w')) → K lv' w') : (RK.append x y 2 32).run P σ w K := by
  have hsrc : srcCells w 2 (.slice (some ⟨sb, 0, none⟩) 1 1) = some (1, es) := by
    simp only [srcCells, cellsAt_of' hsb.cells (n := 1 * 2) (by omega), Option.map_some]
  simp only [RK.run, hx, hy]
  have h5' : ∀ cs ∈ css ++ [es], cs.length = 2 := fun cs hc => by
    rcases List.mem_append.1 hc with hc | hc
    · exact hraw.two cs hc
    · simp only [List.mem_singleton] at hc; subst hc; exact h5
  have hfl : css.flatten.length = css.length * 2 := flatten_length hraw.two
  rcases hraw.sl with ⟨rfl, rfl⟩ | ⟨BA, cap, rest, rfl, h2, h3, h4, hr⟩
  · simp only [hsrc, appendRun]
    rw [if_neg (by omega)]
    refine ⟨by omega, by omega, ?_⟩
    intro T cap rest hc hr
    refine hK _ _ ⟨h5', .inr ⟨w.heap.size, cap, rest, rfl, by simpa using hc, hn0, ?_, by simpa using hr⟩⟩ (.inr ⟨rfl, (Mod.drew _ _).trans (Mod.alloc _ _ _)⟩)
    have := Blk.new w.drew (es ++ rest) T
    simpa using this
  · simp only [hsrc, appendRun]
    by_cases hc : css.length + 1 ≤ cap
    · rw [if_pos hc]
      simp only [Addr.add_mk, Nat.zero_add]
      refine ⟨stOk_many h4 (by simp only [List.length_append]; omega) hone, hK _ _ ⟨h5', .inr ⟨BA, cap, rest.drop 2, by simp, by simpa using hc, h3, ?_, by simp; omega⟩⟩ (.inl ⟨⟨rfl, by simpa [own] using Mod.put (by simp)⟩, BA, cap, rfl, hc⟩)⟩
      have hput := h4.put (o := css.length * 2) (vs := es) (by simp only [List.length_append]; omega)
      have : splice (css.flatten ++ rest) (css.length * 2) es = (css ++ [es]).flatten ++ rest.drop 2 := by
        rw [splice_end hfl, h5, flat_snoc, List.append_assoc]
      rwa [this] at hput
    · rw [if_neg hc]
      refine ⟨by omega, by omega, ?_⟩
      have hco : cellsAt w ⟨BA, 0, none⟩ 0 (css.length * 2) = some css.flatten := by
        have := h4.cells.take css.flatten.length
        rw [List.take_left] at this
        exact cellsAt_of' this hfl
      simp only [hco]
      intro T cap' rest' hc' hr'
      refine hK _ _ ⟨h5', .inr ⟨w.heap.size, cap', rest', by simp, by simpa using hc', hn0, ?_, by simpa using hr'⟩⟩ (.inr ⟨rfl, (Mod.drew _ _).trans (Mod.alloc _ _ _)⟩)
      have := Blk.new w.drew (css.flatten ++ (es ++ rest')) T
      simpa using this
structure GU (w3 w : World) (Ob : Nat) (n : Int) (sv lv uv : Value) (null : Bool) (N : Nat) (us : List (Nat × List UInt8)) (ucs : List (List Value)) : Prop where
  ob : Blk w Ob [.int .i64 n, sv, .bool null, lv, uv]
  raw : LRaw2 w w3.heap.size uv ucs
  rep : RepU (fun b => b < N) w us ucs
  mod : Mod [Ob] w3 w
  lob : Ob < w3.heap.size
  nob : N ≤ Ob
theorem RepU.append {ok : Nat → Prop} {w : World} {l l' : List (Nat × List UInt8)} {css css' : List (List Value)} (h : RepU ok w l css) (h' : RepU ok w l' css') : RepU ok w (l ++ l') (css ++ css') := by
  induction h with
  | nil => exact h'
  | cons h1 _ ih => exact .cons h1 ih
theorem RepU.two {ok : Nat → Prop} {w : World} {l : List (Nat × List UInt8)} {css : List (List Value)} (h : RepU ok w l css) : ∀ c ∈ css, c.length = 2 := by
  induction h with
  | nil => simp
  | cons h1 _ ih =>
    intro c hc
    rcases List.mem_cons.1 hc with rfl | hc
    · rfl
    · exact ih c hc
theorem RepU.length {ok : Nat → Prop} {w : World} {l : List (Nat × List UInt8)} {css : List (List Value)} (h : RepU ok w l css) : l.length = css.length := by
  induction h with
  | nil => rfl
  | cons h1 _ ih => simp [ih]
theorem RepU.nth {ok : Nat → Prop} {w : World} {l : List (Nat × List UInt8)} {css : List (List Value)} (h : RepU ok w l css) {j : Nat} {t : Nat × List UInt8} (ht : l[j]? = some t) : ∃ v, css[j]? = some [.int .u32 t.1, v] ∧ SlC ok w v t.2.length (u8s t.2) := by
  induction h generalizing j with
  | nil => simp at ht
  | cons h1 _ ih =>
    cases j with
    | zero => simp only [List.getElem?_cons_zero, Option.some.injEq] at ht; subst ht; exact ⟨_, rfl, h1⟩
    | succ j => simp only [List.getElem?_cons_succ] at ht ⊢; exact ih ht
def uzero : List Value := [.int .u32 0, .slice none 0 0]
end
end Go.Msk
