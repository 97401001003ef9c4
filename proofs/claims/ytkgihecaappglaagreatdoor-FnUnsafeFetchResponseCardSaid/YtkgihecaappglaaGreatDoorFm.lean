/- A small language of resolved operations, and what the generic and the generated functions do in it (part 13). -/
import Derived.Test.YtkgihecaappglaaGreatDoorFl

namespace Go.Msk
open Go.RowKit
set_option maxRecDepth 100000
def getT (m : List (Nat × List UInt8)) (k : Nat) : List UInt8 := match m.find? (fun p => k == p.1) with | some p => p.2 | none => []
theorem insT_perm (k : Nat) (l : List UInt8) : ∀ m : List (Nat × List UInt8), (insT k l m).Perm ((k, l) :: m)
  | [] => .refl _
  | (k', l') :: m => by
    simp only [insT]
    split
    · exact .refl _
    · exact ((insT_perm k l m).cons _).trans (.swap _ _ _)
theorem sortT_perm : ∀ m : List (Nat × List UInt8), (sortT m).Perm m
  | [] => .refl _
  | (k, l) :: m => (insT_perm k l (sortT m)).trans ((sortT_perm m).cons _)
theorem insT_sorted (k : Nat) (l : List UInt8) : ∀ m : List (Nat × List UInt8), m.Pairwise (fun a b => a.1 ≤ b.1) → (insT k l m).Pairwise (fun a b => a.1 ≤ b.1)
  | [], _ => by simp [insT]
  | (k', l') :: m, h => by
    simp only [insT]
    rw [List.pairwise_cons] at h
    split
    · rename_i hk
      refine List.pairwise_cons.2 ⟨fun b hb => ?_, List.pairwise_cons.2 h⟩
      rcases List.mem_cons.1 hb with rfl | hb
      · exact Nat.le_of_lt hk
      · have := h.1 b hb; simp only at this ⊢; omega
    · rename_i hk
      refine List.pairwise_cons.2 ⟨fun b hb => ?_, insT_sorted k l m h.2⟩
      have := (insT_perm k l m).mem_iff.1 hb
      rcases List.mem_cons.1 this with rfl | hb
      · simp only; omega
      · exact h.1 b hb
theorem sortT_sorted : ∀ m : List (Nat × List UInt8), (sortT m).Pairwise (fun a b => a.1 ≤ b.1)
  | [] => .nil
  | (k, l) :: m => insT_sorted k l _ (sortT_sorted m)
theorem getT_mem : ∀ {m : List (Nat × List UInt8)} (p : Nat × List UInt8), (m.map (·.1)).Nodup → p ∈ m → getT m p.1 = p.2
  | [], p, _, h => by simp at h
  | q :: m, p, hn, h => by
    unfold getT
    rw [List.find?_cons]
    rw [List.map_cons, List.nodup_cons] at hn
    rcases List.mem_cons.1 h with rfl | h
    · simp
    · have hne : ¬ p.1 = q.1 := fun e => hn.1 (by rw [← e]; exact List.mem_map.2 ⟨p, h, rfl⟩)
      have : (p.1 == q.1) = false := by simpa using hne
      rw [this]
      exact getT_mem p hn.2 h
theorem sortT_eq {m : List (Nat × List UInt8)} {ks : List Nat} (hn : (m.map (·.1)).Nodup) (hp : ks.Perm (m.map (·.1))) (hs : ks.Pairwise (· ≤ ·)) : ks.map (fun k => (k, getT m k)) = sortT m := by
  have h1 : (m.map (·.1)).map (fun k => (k, getT m k)) = m := by
    rw [List.map_map]
    conv => rhs; rw [← List.map_id m]
    apply List.map_congr_left
    intro p hp
    simp only [Function.comp, id, getT_mem p hn hp]
  have h2 : (ks.map (fun k => (k, getT m k))).Perm m := by
    have := hp.map (fun k => (k, getT m k))
    rwa [h1] at this
  refine List.Perm.eq_of_pairwise (le := fun a b => a.1 ≤ b.1) (fun a b ha hb hab hba => ?_) ?_ (sortT_sorted m) (h2.trans (sortT_perm m).symm)
  · have ha' := h2.mem_iff.1 ha
    have hb' := (sortT_perm m).mem_iff.1 hb
    have e : a.1 = b.1 := Nat.le_antisymm hab hba
    have x1 := getT_mem a hn ha'
    have x2 := getT_mem b hn hb'
    rw [e] at x1
    exact Prod.ext e (x1.symm.trans x2)
  · exact List.Pairwise.map _ (fun a b h => h) hs
theorem EntL.get {ok : Nat → Prop} {w : World} {es : List MapEntry} {m : List (Nat × List UInt8)} (h : EntL ok w es m) {k : Nat} (hk : k ∈ m.map (·.1)) : ∃ e, es.find? (keyIs k) = some e ∧ SlC ok w e.val (getT m k).length (u8s (getT m k)) := by
  induction h with
  | nil => simp at hk
  | @cons e k' l es m h1 h2 h3 h4 ih =>
    have hki : keyIs k e = decide (k = k') := by
      unfold keyIs; rw [h1]
      by_cases hkk : k = k'
      · simp [hkk]
      · have : ¬ (k : Int) = k' := by omega
        simp [hkk, this]
    rw [List.find?_cons, hki]
    by_cases hkk : k = k'
    · refine ⟨e, by simp [hkk], ?_⟩
      have : getT ((k', l) :: m) k = l := by unfold getT; simp [hkk]
      rw [this]; exact h3
    · simp only [List.map_cons, List.mem_cons, hkk, false_or] at hk
      obtain ⟨x, hx1, hx2⟩ := ih hk
      refine ⟨x, by simp [hkk, hx1], ?_⟩
      have : getT ((k', l) :: m) k = getT m k := by unfold getT; rw [List.find?_cons, show (k == k') = false by simpa using hkk]
      rw [this]; exact hx2
theorem EntL.len {ok : Nat → Prop} {w : World} {es : List MapEntry} {m : List (Nat × List UInt8)} (h : EntL ok w es m) : es.length = m.length := by
  induction h with
  | nil => rfl
  | cons _ _ _ _ ih => simp [ih]
theorem EntL.klist {ok : Nat → Prop} {w : World} {es : List MapEntry} {m : List (Nat × List UInt8)} (h : EntL ok w es m) : es.map (·.key) = (m.map (·.1)).map u32v := by
  induction h with
  | nil => rfl
  | cons h1 _ _ _ ih => simp [ih, h1, u32v]
theorem EntL.lt32 {ok : Nat → Prop} {w : World} {es : List MapEntry} {m : List (Nat × List UInt8)} (h : EntL ok w es m) : ∀ k ∈ m.map (·.1), k < 4294967296 := by
  induction h with
  | nil => simp
  | cons _ h2 _ _ ih =>
    intro k hk
    rw [List.map_cons] at hk
    rcases List.mem_cons.1 hk with rfl | hk
    · exact h2
    · exact ih k hk
theorem map_perm_inj : ∀ {a b : List Nat}, (a.map u32v).Perm (b.map u32v) → a.Perm b := by
  intro a b h
  have hd : ∀ l : List Nat, (l.map u32v).map (fun v => match v with | .int _ n => n.toNat | _ => 0) = l := by
    intro l
    rw [List.map_map]
    conv => rhs; rw [← List.map_id l]
    apply List.map_congr_left
    intro k _; simp [u32v]
  have := h.map (fun v => match v with | .int _ n => n.toNat | _ => 0)
  rwa [hd, hd] at this
def SortC (P : Program) (f g : FuncId) (T : TypeId) : Prop :=
  ∀ (w : World) (B Bs : Nat) (ks : List Nat), Blk w B (ks.map u32v) → Blk w Bs [.slice (some ⟨B, 0, none⟩) ks.length ks.length] → Bs ≠ B → ks.length ≤ 2147483647 → (∀ k ∈ ks, k < 4294967296) →
    Calls P f #[.iface T (.slice (some ⟨B, 0, none⟩) ks.length ks.length), .func (.func g) #[] #[.pointer (some ⟨Bs, 0, none⟩)]] w fun e w' =>
      e = .returned (.tuple #[]) ∧ ∃ ks' : List Nat, ks'.Perm ks ∧ ks'.Pairwise (· ≤ ·) ∧ Blk w' B (ks'.map u32v) ∧ Mod [B] w w'
end Go.Msk

namespace Go.Msk
open Go.RowKit
set_option maxRecDepth 100000
section
variable {P : Program} {F : Nat → Nat}
def EachCB (P : Program) (w0 : World) (S : List Nat) (okv : Nat → Prop) (g : FuncId) (captured : List Value) (I : World → List (Nat × List UInt8) → World → Prop) (all : List (Nat × List UInt8)) : Prop :=
  ∀ (wN : World) (done : List (Nat × List UInt8)) (k : Nat) (l : List UInt8) (w1 : World) (v : Value), (∃ r, all = done ++ (k, l) :: r) → Mod [] w0 wN → I wN done w1 → done.length < 2147483647 → Mod S wN w1 → k < 4294967296 → l.length ≤ 2147483647 → SlC okv w1 v l.length (u8s l) →
    Calls P g ([u32v k, v] ++ captured).toArray w1 fun e w2 => e = .returned (.tuple #[]) ∧ I wN (done ++ [(k, l)]) w2 ∧ Mod S wN w2
theorem getT_len {m : List (Nat × List UInt8)} (h : ∀ p ∈ m, p.2.length ≤ 2147483647) (k : Nat) : (getT m k).length ≤ 2147483647 := by
  unfold getT
  cases hf : m.find? (fun p => k == p.1) with
  | none => simp
  | some p => exact h p (List.mem_of_find?_eq_some hf)
theorem each_loop2 {w0 wN w : World} {S : List Nat} {okv : Nat → Prop} {g : FuncId} {captured : List Value} {I : World → List (Nat × List UInt8) → World → Prop} {m : List (Nat × List UInt8)} {ks : List Nat} (hcb : EachCB P w0 S okv g captured I (ks.map fun k => (k, getT m k))) (hbody : hasBody P g = true)
    {σ : Sl} {B o R r : Nat} {Q : Exit → Sl → World → Prop} (h0 : σ 0 = .pointer (some ⟨B, o, none⟩)) (h1 : σ 1 = .func (.func g) #[] captured.toArray) (h37 : σ 37 = .slice (some ⟨R, 0, none⟩) ks.length ks.length)
    (h38 : σ 38 = .int .i64 ks.length) (h39 : σ 39 = .int .i64 0) (hmN : Mod [] w0 wN) (hw : w = wN) (hrow : Blk wN R (ks.map u32v)) (hcell : wN.cell? ⟨B, o, none⟩ = some (.map (some r))) (hM : MapRep okv wN r m) (hB : B ∉ S) (hr : r ∉ S) (hR : R ∉ S) (hS : ∀ b ∈ S, ¬ okv b)
    (hmv : ∀ p ∈ m, p.2.length ≤ 2147483647) (hks : ∀ k ∈ ks, k ∈ m.map (·.1)) (hlen : ks.length ≤ 2147483647) (hI : I wN [] wN)
    (hQ : ∀ σ' w', I wN (ks.map fun k => (k, getT m k)) w' → Mod S wN w' → Q .normal σ' w') :
    wpC P (.block 2 (.loop (.seq (.blk [⟨some 40, .bin .lss (.tmp 39) (.tmp 38), none⟩])
        (.seq (.cond (.tmp 40) .skip (.exit 2))
        (.seq (.block 3 (.seq (.blk [⟨some 41, .iad (.tmp 37) (.tmp 39) 1, none⟩, ⟨some 42, .ld (.tmp 41), none⟩, ⟨some 7, .mv (.tmp 42), none⟩])
          (.blk [⟨some 43, .mv (.tmp 1), none⟩, ⟨some 44, .mv (.tmp 7), none⟩, ⟨some 45, .mv (.tmp 0), none⟩, ⟨some 46, .nilc (.tmp 45), none⟩, ⟨some 47, .fad (.tmp 46) 0, none⟩, ⟨some 48, .ld (.tmp 47), none⟩, ⟨some 49, .mv (.tmp 7), none⟩,
            ⟨some 50, .mlook (.tmp 48) (.tmp 49) (.slice none 0 0), none⟩, ⟨some 51, .callv (.tmp 43) [.tmp 44, .tmp 50], none⟩])))
        (.blk [⟨some 52, .bin .add (.tmp 39) (.const (.int .i64 1)), none⟩, ⟨some 39, .mv (.tmp 52), none⟩])))))) Q σ w := by
  subst hw
  rw [wpC_block, wpC_loop]
  refine ⟨fun σ' w' => ∃ i, i ≤ ks.length ∧ σ' 0 = .pointer (some ⟨B, o, none⟩) ∧ σ' 1 = .func (.func g) #[] captured.toArray ∧ σ' 37 = .slice (some ⟨R, 0, none⟩) ks.length ks.length ∧ σ' 38 = .int .i64 ks.length ∧ σ' 39 = .int .i64 (i : Nat) ∧
      I w ((ks.take i).map fun k => (k, getT m k)) w' ∧ Mod S w w', fun σ' _ => match σ' 39 with | .int _ i => ks.length - i.toNat | _ => 0, ⟨0, Nat.zero_le _, h0, h1, h37, h38, h39, by simpa using hI, Mod.refl _ _⟩, ?_⟩
  rintro σ1 w1 ⟨i, hi, s0, s1, s37, s38, s39, hI1, hm1⟩
  rw [wpC_seq, wpC_blk]
  refine wpR_step (v := .bool (decide (i < ks.length))) (by
    simp only [RK.val?, ev, s39, s38, isShift, decide_true, Bool.or_true, if_true, intBin]
    congr 2; exact decide_eq_decide.2 (by omega)) ?_
  refine wpR_done ?_
  by_cases hlt : i < ks.length
  · rw [wpC_seq, wpC_cond_t (by simp only [ev, updo, upd, if_true, hlt, decide_true]), wpC_skip]
    simp only [thenC]
    rw [wpC_seq, wpC_block, wpC_seq, wpC_blk]
    have hki : ks[i]? = some ks[i] := List.getElem?_eq_getElem hlt
    have hkm := hks ks[i] (List.getElem_mem hlt)
    have htk : ks.take (i + 1) = ks.take i ++ [ks[i]] := (List.take_append_getElem hlt).symm
    generalize ks[i] = k at hki hkm htk
    have c41 : w1.cell? ⟨R, i, none⟩ = some (u32v k) := by
      have := (hrow.mod hm1 hR).cell i
      rw [this, List.getElem?_map, hki]; rfl
    refine wpR_step (v := .pointer (some ⟨R, i, none⟩)) (by
      simp only [RK.val?, ev, updo, upd, show (37 : Nat) ≠ 40 by decide, show (39 : Nat) ≠ 40 by decide, if_false, s37, s39]
      rw [if_pos (by omega)]
      simp [Addr.add_mk]) ?_
    refine wpR_step (v := u32v k) (by simp only [RK.val?, ev, updo, upd, if_true, c41]) ?_
    refine wpR_step (v := u32v k) (by simp only [RK.val?, ev, updo, upd, if_true]) ?_
    refine wpR_done ?_
    rw [wpC_blk]
    have hcell1 : w1.cell? ⟨B, o, none⟩ = some (.map (some r)) := cell_mod hcell hm1 hB
    have hM1 := hM.mod (ok' := okv) hm1 hr hS fun _ _ h => h
    obtain ⟨es, clock, he1, he2, he3, he4⟩ := hM1.ex
    obtain ⟨e, hf, hv⟩ := he2.get hkm
    have hk32 := he2.lt32 k hkm
    have hmg : mapGet es k (.slice none 0 0) = e.val := by unfold mapGet; rw [hf]
    refine wpR_step (v := .func (.func g) #[] captured.toArray) (by simp only [RK.val?, ev, updo, upd]; simp [s1]) ?_
    refine wpR_step (v := u32v k) (by simp only [RK.val?, ev, updo, upd]; simp) ?_
    refine wpR_step (v := .pointer (some ⟨B, o, none⟩)) (by simp only [RK.val?, ev, updo, upd]; simp [s0]) ?_
    refine wpR_step (v := .pointer (some ⟨B, o, none⟩)) (by simp only [RK.val?, ev, updo, upd, if_true]) ?_
    refine wpR_step (v := .pointer (some ⟨B, o, none⟩)) (by simp only [RK.val?, ev, updo, upd, if_true, Addr.add_mk, Nat.add_zero]) ?_
    refine wpR_step (v := .map (some r)) (by simp only [RK.val?, ev, updo, upd, if_true, hcell1]) ?_
    refine wpR_step (v := u32v k) (by simp only [RK.val?, ev, updo, upd]; simp) ?_
    refine wpR_run ?_
    simp only [RK.run, ev, updo, upd, show (48 : Nat) ≠ 49 by decide, if_false, if_true, u32v, he1]
    refine ⟨he2.keys, ?_⟩
    rw [hmg]
    refine wpR_run ?_
    have hc := hcb w ((ks.take i).map fun k => (k, getT m k)) k (getT m k) w1 e.val ⟨(ks.drop (i + 1)).map fun k => (k, getT m k), by
      have : ks = ks.take i ++ k :: ks.drop (i + 1) := by
        have h1 := (List.take_append_drop (i + 1) ks).symm
        rw [htk, List.append_assoc] at h1
        exact h1
      conv => lhs; rw [this]
      simp⟩ hmN hI1 (by simp only [List.length_map, List.length_take]; omega) hm1 hk32 (getT_len hmv k) hv
    simp only [RK.run, ev, updo, upd, show (43 : Nat) ≠ 50 by decide, show (43 : Nat) ≠ 49 by decide, show (43 : Nat) ≠ 48 by decide, show (43 : Nat) ≠ 47 by decide, show (43 : Nat) ≠ 46 by decide, show (43 : Nat) ≠ 45 by decide, show (43 : Nat) ≠ 44 by decide,
      show (44 : Nat) ≠ 50 by decide, show (44 : Nat) ≠ 49 by decide, show (44 : Nat) ≠ 48 by decide, show (44 : Nat) ≠ 47 by decide, show (44 : Nat) ≠ 46 by decide, show (44 : Nat) ≠ 45 by decide, if_false, if_true, List.map_cons, List.map_nil, List.nil_append]
    refine ⟨hbody, hc.mono ?_⟩
    rintro en w2 ⟨rfl, hI2, hm2⟩
    refine ⟨_, rfl, ?_⟩
    simp only [wpR, inBlockC, thenC]
    rw [wpC_blk]
    refine wpR_step (v := .int .i64 ((i + 1 : Nat) : Int)) (by
      simp only [RK.val?, ev, upd, show (39 : Nat) ≠ 51 by decide, show (39 : Nat) ≠ 50 by decide, show (39 : Nat) ≠ 49 by decide, show (39 : Nat) ≠ 48 by decide, show (39 : Nat) ≠ 47 by decide, show (39 : Nat) ≠ 46 by decide, show (39 : Nat) ≠ 45 by decide, show (39 : Nat) ≠ 44 by decide, show (39 : Nat) ≠ 43 by decide, show (39 : Nat) ≠ 7 by decide, show (39 : Nat) ≠ 42 by decide, show (39 : Nat) ≠ 41 by decide, show (39 : Nat) ≠ 40 by decide, if_false, s39, isShift, decide_true, Bool.or_true, if_true, intBin]
      have e1 : (i : Int) + 1 = ((i + 1 : Nat) : Int) := by omega
      rw [e1, i64_small (by omega) (by omega)]) ?_
    refine wpR_step (v := .int .i64 ((i + 1 : Nat) : Int)) (by simp only [RK.val?, ev, updo, upd, if_true]) ?_
    simp only [wpR]
    refine ⟨⟨i + 1, by omega, by simp [updo, upd, s0], by simp [updo, upd, s1], by simp [updo, upd, s37], by simp [updo, upd, s38], by simp only [updo, upd, if_true], ?_, hm2⟩, ?_⟩
    · rw [htk, List.map_append]; exact hI2
    · simp only [updo, upd, if_true, s39]; omega
  · rw [wpC_seq, wpC_cond_f (by simp only [ev, updo, upd, if_true, hlt, decide_false])]
    refine wpC_exit_out ?_
    refine hQ _ w1 ?_ hm1
    have : i = ks.length := by omega
    subst this
    simpa using hI1
theorem tEach_call {w : World} (hm : P.follows .mixedOrders = true) (h : liftF P (F tEach) = some (ir_tEach F)) (hsort : SortC P (F sortSlice) (F tEach1) (F tyU32s))
    {S : List Nat} {okv : Nat → Prop} {g : FuncId} {captured : List Value} {I : World → List (Nat × List UInt8) → World → Prop} {m : List (Nat × List UInt8)} (hcb : EachCB P w S okv g captured I (sortT m)) (hbody : hasBody P g = true)
    {B o : Nat} {v : Value} (hc : w.cell? ⟨B, o, none⟩ = some v) (hM : TagM okv w v m) (hlen : m.length ≤ 2147483647) (hmv : ∀ p ∈ m, p.2.length ≤ 2147483647) (hB : B ∉ S) (hr : ∀ r, v = .map (some r) → r ∉ S) (hSl : ∀ b ∈ S, b < w.heap.size) (hS : ∀ b ∈ S, ¬ okv b)
    (hI : ∀ wN, Mod [] w wN → I wN [] wN) :
    Calls P (F tEach) [.pointer (some ⟨B, o, none⟩), .func (.func g) #[] captured.toArray].toArray w fun e w' => e = .returned (.tuple #[]) ∧ ∃ wN, Mod [] w wN ∧ I wN (sortT m) w' ∧ Mod S wN w' := by
  unfold ir_tEach at h
  refine call_of h hm (by simp) ?_
  have a0 : args0 [.pointer (some ⟨B, o, none⟩), .func (.func g) #[] captured.toArray] 0 = .pointer (some ⟨B, o, none⟩) := rfl
  have a1 : args0 [.pointer (some ⟨B, o, none⟩), .func (.func g) #[] captured.toArray] 1 = .func (.func g) #[] captured.toArray := rfl
  generalize args0 [.pointer (some ⟨B, o, none⟩), .func (.func g) #[] captured.toArray] = σ0 at a0 a1 ⊢
  rw [wpC_seq, wpC_seq, wpC_blk]
  refine wpR_step (v := .pointer (some ⟨B, o, none⟩)) (congrArg some a0) ?_
  refine wpR_step (v := .pointer (some ⟨B, o, none⟩)) (by simp only [RK.val?, ev, updo, upd, if_true]) ?_
  refine wpR_step (v := .pointer (some ⟨B, o, none⟩)) (by simp only [RK.val?, ev, updo, upd, if_true, Addr.add_mk, Nat.add_zero]) ?_
  refine wpR_step (v := v) (by simp only [RK.val?, ev, updo, upd, if_true, hc]) ?_
  have hml : ∀ (σ : Sl) (x : Nat) (K : Value → World → Prop), σ x = v → K (.int .i64 m.length) w → (RK.mlen (.tmp x)).run P σ w K := by
    intro σ x K hx hK
    rcases hM with ⟨rfl, rfl⟩ | ⟨r, rfl, hM⟩
    · simp only [RK.run, ev, hx]; exact hK
    · obtain ⟨es, clock, he1, he2, -, -⟩ := hM.ex
      have hl := he2.len
      simp only [RK.run, ev, hx, he1]
      have : es.size = m.length := by simpa using hl
      rw [this]; exact hK
  refine wpR_run ?_
  refine hml _ 11 _ (by simp only [updo, upd, if_true]) ?_
  refine wpR_step (v := .bool (decide (m.length = 0))) (by
    simp only [RK.val?, ev, updo, upd, if_true, isShift, decide_true, Bool.or_true, intBin]
    congr 2
    by_cases hz : m.length = 0 <;> simp [hz]) ?_
  refine wpR_done ?_
  by_cases hz : m.length = 0
  · rw [wpC_cond_t (by simp only [ev, updo, upd, if_true, hz, decide_true])]
    have : m = [] := List.length_eq_zero_iff.1 hz
    subst this
    simp only [wpC, thenC, postC, rvals, List.mapM_nil, Option.pure_def, tup]
    exact ⟨trivial, w, Mod.refl _ _, hI w (Mod.refl _ _), Mod.refl _ _⟩
  rw [wpC_cond_f (by simp only [ev, updo, upd, if_true, hz, decide_false]), wpC_skip]
  simp only [thenC]
  obtain ⟨r, rfl, hMr⟩ : ∃ r, v = .map (some r) ∧ MapRep okv w r m := by
    rcases hM with ⟨-, rfl⟩ | h
    · simp at hz
    · exact h
  clear hM
  have hM := hMr
  clear hMr
  obtain ⟨es, clock, he1, he2, he3, he4⟩ := hM.ex
  have hesl : es.size = m.length := by have := he2.len; simpa using this
  have hBl : B < w.heap.size := World.block_lt_of_cell? w ⟨B, o, none⟩ hc
  have hrl := hM.lt
  rw [wpC_seq, wpC_blk]
  refine wpR_step (v := .pointer (some ⟨B, o, none⟩)) (by simp only [RK.val?, ev, updo, upd]; simp [a0]) ?_
  refine wpR_step (v := .pointer (some ⟨B, o, none⟩)) (by simp only [RK.val?, ev, updo, upd, if_true]) ?_
  refine wpR_step (v := .pointer (some ⟨B, o, none⟩)) (by simp only [RK.val?, ev, updo, upd, if_true, Addr.add_mk, Nat.add_zero]) ?_
  refine wpR_step (v := .map (some r)) (by simp only [RK.val?, ev, updo, upd, if_true, hc]) ?_
  refine wpR_run ?_
  refine hml _ 17 _ (by simp only [updo, upd, if_true]) ?_
  refine wpR_run ?_
  simp only [RK.run, ev, updo, upd, if_true]
  refine ⟨by omega, by omega, by omega, by omega, ?_⟩
  intro Tn
  simp only [Int.toNat_natCast, Int.toNat_zero]
  have bR := Blk.new w (zrep m.length [.int .u32 0]) Tn
  have m1 : Mod [] w (w.alloc (.cells (zrep m.length [.int .u32 0]).toArray Tn)) := Mod.alloc _ _ _
  have z1 : (w.alloc (.cells (zrep m.length [.int .u32 0]).toArray Tn)).heap.size = w.heap.size + 1 := by simp
  generalize w.alloc (.cells (zrep m.length [.int .u32 0]).toArray Tn) = w1 at bR m1 z1 ⊢
  refine wpR_run ?_
  intro Tn2
  have bS := Blk.new w1 [.slice none 0 0] Tn2
  obtain ⟨k1, k2, k3⟩ := new_put w1 [.slice none 0 0] [.slice (some ⟨w.heap.size, 0, none⟩) 0 m.length] Tn2 rfl (by simp [Value.oneCell'])
  have z2 : (w1.alloc (.cells [Value.slice none 0 0].toArray Tn2)).heap.size = w1.heap.size + 1 := by simp
  generalize w1.alloc (.cells [Value.slice none 0 0].toArray Tn2) = w2 at bS k1 k2 k3 z2 ⊢
  refine wpR_run ?_
  have ec : (Value.slice (some ⟨w.heap.size, 0, none⟩) 0 m.length).cells.toList = [.slice (some ⟨w.heap.size, 0, none⟩) 0 m.length] := rfl
  simp only [RK.run, ev, updo, upd, if_true, show (19 : Nat) ≠ 4 by decide, if_false, ec]
  refine ⟨rfl, k1, ?_⟩
  have z3 : (putCells w2 ⟨w1.heap.size, 0, none⟩ 0 [.slice (some ⟨w.heap.size, 0, none⟩) 0 m.length]).heap.size = w2.heap.size := size_putCells ..
  generalize putCells w2 ⟨w1.heap.size, 0, none⟩ 0 [.slice (some ⟨w.heap.size, 0, none⟩) 0 m.length] = w3 at k2 k3 z3 ⊢
  have m03 : Mod [] w w3 := m1.trans k3
  have bR3 := bR.mod k3 (by simp)
  refine wpR_done ?_
  rw [wpC_seq, wpC_seq, wpC_blk]
  have hc3 : w3.cell? ⟨B, o, none⟩ = some (.map (some r)) := cell_mod hc m03 (by simp)
  have he13 : w3.heap[r]? = some (.map es clock) := by rw [m03.block r hrl (by simp)]; exact he1
  refine wpR_step (v := .pointer (some ⟨B, o, none⟩)) (by simp only [RK.val?, ev, upd]; simp [a0]) ?_
  refine wpR_step (v := .pointer (some ⟨B, o, none⟩)) (by simp only [RK.val?, ev, updo, upd, if_true]) ?_
  refine wpR_step (v := .pointer (some ⟨B, o, none⟩)) (by simp only [RK.val?, ev, updo, upd, if_true, Addr.add_mk, Nat.add_zero]) ?_
  refine wpR_step (v := .map (some r)) (by simp only [RK.val?, ev, updo, upd, if_true, hc3]) ?_
  refine wpR_run ?_
  simp only [RK.run, ev, updo, upd, if_true, he13]
  refine wpR_done ?_
  have m4 : Mod [] w3 (w3.alloc (.mapIter (some r) clock #[] clock)) := Mod.alloc _ _ _
  have hit : (w3.alloc (.mapIter (some r) clock #[] clock)).heap[w3.heap.size]? = some (.mapIter (some r) clock #[] clock) := heap_alloc_new _ _
  have he14 : (w3.alloc (.mapIter (some r) clock #[] clock)).heap[r]? = some (.map es clock) := by rw [m4.block r (by have := m03.size; omega) (by simp)]; exact he13
  have bR4 := bR3.mod m4 (by simp)
  have bS4 := k2.mod m4 (by simp)
  generalize w3.alloc (.mapIter (some r) clock #[] clock) = w4 at m4 hit he14 bR4 bS4 ⊢
  have hzl : (zrep m.length [Value.int .u32 0]).length = m.length := by simp [zrep]
  refine each_loop1 (w0 := w) (it := w3.heap.size) (Bs := w1.heap.size) (B := w.heap.size) (r := r) (n := m.length) (es := es) (clock := clock)
    ⟨by simp [upd], by simp [upd], he14, ⟨#[], hit, ⟨by simp, by simp, by simp⟩⟩, by simpa using bS4, ⟨_, by simpa using bR4, by simpa using hzl⟩, m03.trans m4, by omega, by omega, by omega, ⟨by have := m03.size; omega, by omega, by omega⟩, hesl.symm, m03.size, by omega, Nat.le_refl _⟩
    he2.keys he3 he4 fun σ5 w5 E a5 hK hperm => ?_
  have q0 : σ5 0 = .pointer (some ⟨B, o, none⟩) := by rw [a5 0 (by omega) (by omega)]; simp [upd, a0]
  have q1 : σ5 1 = .func (.func g) #[] captured.toArray := by rw [a5 1 (by omega) (by omega)]; simp [upd, a1]
  simp only [thenC]
  have hEl : E.length = m.length := by rw [hperm.length_eq]; simpa using hesl
  obtain ⟨rest, hrow, hrl2⟩ := hK.row
  have hr0 : rest = [] := List.length_eq_zero_iff.1 (by omega)
  subst hr0
  -- the keys as numbers
  have hEk : (E.map (·.key)).Perm ((m.map (·.1)).map u32v) := by rw [← he2.klist]; exact hperm.map _
  obtain ⟨ks, hks⟩ : ∃ ks : List Nat, E.map (·.key) = ks.map u32v := by
    refine ⟨(E.map (·.key)).map (fun v => match v with | .int _ n => n.toNat | _ => 0), ?_⟩
    rw [List.map_map]
    conv => lhs; rw [← List.map_id (E.map (·.key))]
    apply List.map_congr_left
    intro x hx
    have := hEk.mem_iff.1 hx
    obtain ⟨k, -, rfl⟩ := List.mem_map.1 this
    simp [u32v]
  rw [hks] at hEk
  have hkp : ks.Perm (m.map (·.1)) := map_perm_inj hEk
  have hkl : ks.length = m.length := by have := hkp.length_eq; simpa using this
  have hrow' : Blk w5 w.heap.size (ks.map u32v) := by rw [← hks]; simpa using hrow
  have hcell5 : Blk w5 w1.heap.size [.slice (some ⟨w.heap.size, 0, none⟩) ks.length ks.length] := by rw [hkl]; have := hK.cell; rwa [hEl] at this
  rw [wpC_seq, wpC_blk]
  refine wpR_step (v := .slice (some ⟨w.heap.size, 0, none⟩) ks.length ks.length) (by simp only [RK.val?, ev, hK.s4]; exact hcell5.cell 0) ?_
  refine wpR_step (v := .iface (F tyU32s) (.slice (some ⟨w.heap.size, 0, none⟩) ks.length ks.length)) (by simp only [RK.val?, ev, updo, upd, if_true]) ?_
  refine wpR_step (v := .func (.func (F tEach1)) #[] #[.pointer (some ⟨w1.heap.size, 0, none⟩)]) (by simp only [RK.val?, List.map_cons, List.map_nil, ev, updo, upd]; simp [hK.s4]) ?_
  refine wpR_call (vs := [.iface (F tyU32s) (.slice (some ⟨w.heap.size, 0, none⟩) ks.length ks.length), .func (.func (F tEach1)) #[] #[.pointer (some ⟨w1.heap.size, 0, none⟩)]]) (by simp only [List.map_cons, List.map_nil, ev, updo, upd]; simp)
    (hsort w5 w.heap.size w1.heap.size ks hrow' hcell5 (by omega) (by omega) (fun k hk => he2.lt32 k (hkp.mem_iff.1 hk))) ?_
  rintro e w6 ⟨rfl, ks', hp', hs', hrow6, m6⟩
  refine ⟨_, rfl, ?_⟩
  have hl' : ks'.length = ks.length := hp'.length_eq
  have m06 : Mod [] w w6 := Mod.drop (b := w.heap.size) (S := []) (hK.fr.nil.trans m6) (Nat.le_refl _)
  have hcell6 := hcell5.mod m6 (by simp; omega)
  refine wpR_done ?_
  rw [wpC_seq, wpC_blk]
  refine wpR_step (v := .slice (some ⟨w.heap.size, 0, none⟩) ks.length ks.length) (by
    simp only [RK.val?, ev, updo, upd, show (4 : Nat) ≠ 36 by decide, show (4 : Nat) ≠ 35 by decide, show (4 : Nat) ≠ 34 by decide, show (4 : Nat) ≠ 33 by decide, if_false, hK.s4]
    exact hcell6.cell 0) ?_
  refine wpR_step (v := .int .i64 ks.length) (by simp only [RK.val?, ev, updo, upd, if_true]) ?_
  refine wpR_step (v := .int .i64 0) rfl ?_
  refine wpR_done ?_
  have nS : ∀ {x}, w.heap.size ≤ x → x ∉ S := fun hx hs => by have := hSl _ hs; omega
  have hM2 : MapRep (fun b => okv b ∧ b < w.heap.size) w r m := hM.mod (Mod.refl [] _) (by simp) (by simp) fun b hb hx => ⟨hx, hb⟩
  refine each_loop2 (w0 := w) (wN := w6) (okv := okv) (I := I) (by rw [sortT_eq hM.keys (hp'.trans hkp) hs']; exact hcb) hbody (r := r) (m := m) (ks := ks') (R := w.heap.size) (by simp only [updo, upd]; simp [q0]) (by simp only [updo, upd]; simp [q1]) (by simp only [updo, upd]; simp [hl']) (by simp only [updo, upd]; simp [hl']) (by simp only [updo, upd]; simp) m06 rfl hrow6
    (cell_mod hc m06 (by simp)) (hM.mod m06 (by simp) (by simp) fun _ _ h => h) hB (hr r rfl) (nS (Nat.le_refl _)) hS hmv (fun k hk => hkp.mem_iff.1 (hp'.mem_iff.1 hk)) (by omega) (hI w6 m06) fun σ7 w7 hI7 hm7 => ?_
  simp only [postC, rvals, List.mapM_nil, Option.pure_def, tup]
  refine ⟨trivial, w6, m06, ?_, hm7⟩
  rw [← sortT_eq hM.keys (hp'.trans hkp) hs']; exact hI7
end
end Go.Msk

namespace Go.Msk
open Go.RowKit
set_option maxRecDepth 100000
section
variable {P : Program} {F : Nat → Nat}
theorem wpR_offG {k : RK} {d : Option Nat} {a : Nat} {b : Bool} {r : List RI} {σ : Sl} {w : World} {Q : Sl → World → Prop} (hg : σ a = .bool (!b)) (h : wpR P r (updo σ d undef) w Q) : wpR P (⟨d, k, some (a, b)⟩ :: r) σ w Q := by
  have : gOk (some (a, b)) σ = false := by simp only [gOk, hg]; cases b <;> rfl
  simp only [wpR, RI.wp, this, Bool.false_eq_true, if_false]
  exact h
theorem SlC.pairAt {ok : Nat → Prop} {w : World} {v : Value} {n j : Nat} {css : List (List Value)} {a b : Value} (h : SlC ok w v n css.flatten) (hn : n = css.length) (hsz : ∀ c ∈ css, c.length = 2) (hj : css[j]? = some [a, b]) :
    ∃ p c, v = .slice (some p) n c ∧ j < n ∧ w.cell? ((p.add (j * 2)).add 0) = some a := by
  obtain ⟨base, cap, rfl, h2, h3, h4⟩ := h
  have hjl : j < css.length := by
    rcases Nat.lt_or_ge j css.length with h | h
    · exact h
    · rw [List.getElem?_eq_none h] at hj; simp at hj
  obtain ⟨p, rfl⟩ : ∃ p, base = some p := by
    cases base with
    | some p => exact ⟨p, rfl⟩
    | none => have := h3 rfl; omega
  obtain ⟨k1, k2, k3⟩ := h4 p rfl (by omega)
  refine ⟨p, cap, rfl, by omega, ?_⟩
  have hfl : css.flatten[j * 2]? = some a := by
    have key : ∀ (l : List (List Value)) (j : Nat), (∀ c ∈ l, c.length = 2) → l[j]? = some [a, b] → l.flatten[j * 2]? = some a := by
      intro l
      induction l with
      | nil => intro j _ h; simp at h
      | cons x l ih =>
        intro j hs hj
        cases j with
        | zero => simp at hj; subst hj; rfl
        | succ j =>
          have hx := hs x List.mem_cons_self
          rw [List.flatten_cons, List.getElem?_append_right (by omega), hx, show (j + 1) * 2 - 2 = j * 2 by omega]
          exact ih j (fun c hc => hs c (List.mem_cons_of_mem _ hc)) (by simpa using hj)
    exact key css j hsz hj
  have := k3.2 (j * 2) a hfl
  rw [Addr.add_of k3.1, Addr.add_mk]
  simpa using this
structure Pairs (w : World) (ok : Nat → Prop) (v : Value) (ks : List Nat) (css : List (List Value)) : Prop where
  sl : SlC ok w v css.length css.flatten
  len : ks.length = css.length
  two : ∀ c ∈ css, c.length = 2
  key : ∀ (j k : Nat), ks[j]? = some k → ∃ x, css[j]? = some [u32v k, x]
theorem Pairs.mod {ok : Nat → Prop} {w w' : World} {v : Value} {ks : List Nat} {css : List (List Value)} (h : Pairs w ok v ks css) (hm : Mod [] w w') : Pairs w' ok v ks css :=
  ⟨h.sl.mod hm (by simp) fun _ _ h => h, h.len, h.two, h.key⟩
theorem pairwise_get {l : List Nat} (h : l.Pairwise (· ≤ ·)) {i j a b : Nat} (hi : l[i]? = some a) (hj : l[j]? = some b) (hij : i < j) : a ≤ b := by
  rw [List.pairwise_iff_getElem] at h
  obtain ⟨hi', rfl⟩ := List.getElem?_eq_some_iff.1 hi
  obtain ⟨hj', rfl⟩ := List.getElem?_eq_some_iff.1 hj
  exact h i j hi' hj' hij
theorem sorted_test {w : World} {ok : Nat → Prop} {v : Value} {ks : List Nat} {css : List (List Value)} {i : Nat} {σ : Sl} {Q : Sl → World → Prop} (hp : Pairs w ok v ks css) (hs : ks.Pairwise (· ≤ ·)) (hi : i < ks.length) (hlen : ks.length ≤ 2147483647) (h0 : σ 0 = v) (h3 : σ 3 = .int .i64 i)
    (hQ : ∀ σ', (∀ j, j < 10 → σ' j = σ j) → σ' 25 = .bool false → Q σ' w) :
    wpR P [⟨some 10, .mv (.tmp 3), none⟩, ⟨some 11, .bin .gtr (.tmp 10) (.const (.int .i64 0)), none⟩, ⟨some 12, .mv (.tmp 11), none⟩, ⟨some 13, .mv (.tmp 0), some (12, true)⟩, ⟨some 14, .mv (.tmp 3), some (12, true)⟩, ⟨some 15, .iad (.tmp 13) (.tmp 14) 2, some (12, true)⟩,
      ⟨some 16, .fad (.tmp 15) 0, some (12, true)⟩, ⟨some 17, .ld (.tmp 16), some (12, true)⟩, ⟨some 18, .mv (.tmp 0), some (12, true)⟩, ⟨some 19, .mv (.tmp 3), some (12, true)⟩, ⟨some 20, .bin .sub (.tmp 19) (.const (.int .i64 1)), some (12, true)⟩,
      ⟨some 21, .iad (.tmp 18) (.tmp 20) 2, some (12, true)⟩, ⟨some 22, .fad (.tmp 21) 0, some (12, true)⟩, ⟨some 23, .ld (.tmp 22), some (12, true)⟩, ⟨some 24, .bin .lss (.tmp 17) (.tmp 23), some (12, true)⟩, ⟨some 25, .pick (.tmp 12) (.tmp 24) (.const (.bool false)), none⟩] σ w Q := by
  refine wpR_step (v := .int .i64 i) (congrArg some h3) ?_
  refine wpR_step (v := .bool (decide (0 < i))) (by
    simp only [RK.val?, ev, updo, upd, if_true, isShift, decide_true, Bool.or_true, intBin]
    congr 2; exact decide_eq_decide.2 (by omega)) ?_
  refine wpR_step (v := .bool (decide (0 < i))) (by simp only [RK.val?, ev, updo, upd, if_true]) ?_
  by_cases hi0 : 0 < i
  · obtain ⟨i', rfl⟩ : ∃ i', i = i' + 1 := ⟨i - 1, by omega⟩
    obtain ⟨a, ha⟩ : ∃ a, ks[i' + 1]? = some a := ⟨_, List.getElem?_eq_getElem hi⟩
    obtain ⟨b, hb⟩ : ∃ b, ks[i']? = some b := ⟨_, List.getElem?_eq_getElem (by omega)⟩
    have hle := pairwise_get hs hb ha (by omega)
    obtain ⟨xa, hxa⟩ := hp.key _ _ ha
    obtain ⟨xb, hxb⟩ := hp.key _ _ hb
    obtain ⟨p, c, rfl, hj1, c1⟩ := hp.sl.pairAt rfl hp.two hxa
    obtain ⟨p', c', hv', hj2, c2⟩ := hp.sl.pairAt rfl hp.two hxb
    simp only [Value.slice.injEq, Option.some.injEq] at hv'
    obtain ⟨rfl, -, rfl⟩ := hv'
    have g : ∀ (σ : Sl), σ 12 = .bool (decide (0 < i' + 1)) → σ 12 = .bool true := fun σ h => by rw [h]; simp
    have hl := hp.len
    refine wpR_stepG (v := .slice (some p) css.length c) (by simp [updo, upd]) (by simp only [RK.val?, ev, updo, upd]; simp [h0]) ?_
    refine wpR_stepG (v := .int .i64 ((i' + 1 : Nat) : Int)) (by simp [updo, upd]) (by simp only [RK.val?, ev, updo, upd]; simp [h3]) ?_
    refine wpR_stepG (v := .pointer (some (p.add ((i' + 1) * 2)))) (by simp [updo, upd]) (by
      simp only [RK.val?, ev, updo, upd, show (13 : Nat) ≠ 14 by decide, if_false, if_true]
      rw [if_pos (by omega)]; simp) ?_
    refine wpR_stepG (v := .pointer (some ((p.add ((i' + 1) * 2)).add 0))) (by simp [updo, upd]) (by simp only [RK.val?, ev, updo, upd, if_true]) ?_
    refine wpR_stepG (v := u32v a) (by simp [updo, upd]) (by simp only [RK.val?, ev, updo, upd, if_true, c1]) ?_
    refine wpR_stepG (v := .slice (some p) css.length c) (by simp [updo, upd]) (by simp only [RK.val?, ev, updo, upd]; simp [h0]) ?_
    refine wpR_stepG (v := .int .i64 ((i' + 1 : Nat) : Int)) (by simp [updo, upd]) (by simp only [RK.val?, ev, updo, upd]; simp [h3]) ?_
    refine wpR_stepG (v := .int .i64 (i' : Nat)) (by simp [updo, upd]) (by
      simp only [RK.val?, ev, updo, upd, if_true, isShift, decide_true, Bool.or_true, intBin]
      have e1 : ((i' + 1 : Nat) : Int) - 1 = (i' : Nat) := by omega
      rw [e1, i64_small (by omega) (by omega)]) ?_
    refine wpR_stepG (v := .pointer (some (p.add (i' * 2)))) (by simp [updo, upd]) (by
      simp only [RK.val?, ev, updo, upd, show (18 : Nat) ≠ 20 by decide, show (18 : Nat) ≠ 19 by decide, if_false, if_true]
      rw [if_pos (by omega)]; simp) ?_
    refine wpR_stepG (v := .pointer (some ((p.add (i' * 2)).add 0))) (by simp [updo, upd]) (by simp only [RK.val?, ev, updo, upd, if_true]) ?_
    refine wpR_stepG (v := u32v b) (by simp [updo, upd]) (by simp only [RK.val?, ev, updo, upd, if_true, c2]) ?_
    refine wpR_stepG (v := .bool false) (by simp [updo, upd]) (by
      simp only [RK.val?, ev, updo, upd, show (17 : Nat) ≠ 23 by decide, show (17 : Nat) ≠ 22 by decide, show (17 : Nat) ≠ 21 by decide, show (17 : Nat) ≠ 20 by decide, show (17 : Nat) ≠ 19 by decide, show (17 : Nat) ≠ 18 by decide, if_false, if_true, u32v, isShift, decide_true, Bool.or_true, intBin]
      congr 2; simp; omega) ?_
    refine wpR_step (v := .bool false) (by simp only [RK.val?, ev, updo, upd]; simp) ?_
    simp only [wpR]
    refine hQ _ (fun j hj => ?_) (by simp only [updo, upd, if_true])
    simp only [updo, upd, show j ≠ 25 by omega, show j ≠ 24 by omega, show j ≠ 23 by omega, show j ≠ 22 by omega, show j ≠ 21 by omega, show j ≠ 20 by omega, show j ≠ 19 by omega, show j ≠ 18 by omega, show j ≠ 17 by omega, show j ≠ 16 by omega, show j ≠ 15 by omega, show j ≠ 14 by omega, show j ≠ 13 by omega, show j ≠ 12 by omega, show j ≠ 11 by omega, show j ≠ 10 by omega, if_false]
  · have hd : decide (0 < i) = false := by simp; omega
    simp only [hd]
    refine wpR_offG (by simp [updo, upd]) ?_
    refine wpR_offG (by simp [updo, upd]) ?_
    refine wpR_offG (by simp [updo, upd]) ?_
    refine wpR_offG (by simp [updo, upd]) ?_
    refine wpR_offG (by simp [updo, upd]) ?_
    refine wpR_offG (by simp [updo, upd]) ?_
    refine wpR_offG (by simp [updo, upd]) ?_
    refine wpR_offG (by simp [updo, upd]) ?_
    refine wpR_offG (by simp [updo, upd]) ?_
    refine wpR_offG (by simp [updo, upd]) ?_
    refine wpR_offG (by simp [updo, upd]) ?_
    refine wpR_offG (by simp [updo, upd]) ?_
    refine wpR_step (v := .bool false) (by simp only [RK.val?, ev, updo, upd]; simp) ?_
    simp only [wpR]
    refine hQ _ (fun j hj => ?_) (by simp only [updo, upd, if_true])
    simp only [updo, upd, show j ≠ 25 by omega, show j ≠ 24 by omega, show j ≠ 23 by omega, show j ≠ 22 by omega, show j ≠ 21 by omega, show j ≠ 20 by omega, show j ≠ 19 by omega, show j ≠ 18 by omega, show j ≠ 17 by omega, show j ≠ 16 by omega, show j ≠ 15 by omega, show j ≠ 14 by omega, show j ≠ 13 by omega, show j ≠ 12 by omega, show j ≠ 11 by omega, show j ≠ 10 by omega, if_false]
theorem iSorted_call {w : World} (hm : P.follows .mixedOrders = true) (h : liftF P (F iSorted) = some (ir_iSorted F)) {ok : Nat → Prop} {v : Value} {ks : List Nat} {css : List (List Value)} (hp : Pairs w ok v ks css) (hs : ks.Pairwise (· ≤ ·)) (hlen : ks.length ≤ 2147483647) :
    Calls P (F iSorted) [v].toArray w fun e w' => e = .returned (.tuple #[]) ∧ Mod [] w w' := by
  unfold ir_iSorted at h
  refine call_of h hm (by simp) ?_
  have a0 : args0 [v] 0 = v := rfl
  generalize args0 [v] = σ0 at a0 ⊢
  obtain ⟨base, cap, hv, -⟩ := hp.sl
  have hl := hp.len
  rw [wpC_seq, wpC_blk]
  refine wpR_step (v := v) (congrArg some a0) ?_
  refine wpR_step (v := .int .i64 ks.length) (by simp only [RK.val?, ev, updo, upd, if_true, hv, hl]) ?_
  refine wpR_step (v := .int .i64 0) rfl ?_
  refine wpR_done ?_
  rw [wpC_block, wpC_loop]
  refine ⟨fun σ' w' => ∃ i : Nat, i ≤ ks.length ∧ σ' 0 = v ∧ σ' 5 = .int .i64 ks.length ∧ σ' 6 = .int .i64 i ∧ Mod [] w w', fun σ' _ => match σ' 6 with | .int _ i => ks.length - i.toNat | _ => 0,
    ⟨0, Nat.zero_le _, by simp [updo, upd, a0], by simp [updo, upd], by simp [updo, upd], Mod.refl _ _⟩, ?_⟩
  rintro σ1 w1 ⟨i, hi, s0, s5, s6, hm1⟩
  rw [wpC_seq, wpC_blk]
  refine wpR_step (v := .bool (decide (i < ks.length))) (by
    simp only [RK.val?, ev, s6, s5, isShift, decide_true, Bool.or_true, if_true, intBin]
    congr 2; exact decide_eq_decide.2 (by omega)) ?_
  refine wpR_done ?_
  by_cases hlt : i < ks.length
  · rw [wpC_seq, wpC_cond_t (by simp only [ev, updo, upd, if_true, hlt, decide_true]), wpC_skip]
    simp only [thenC]
    rw [wpC_seq, wpC_block, wpC_seq, wpC_blk]
    refine wpR_step (v := .int .i64 i) (by simp only [RK.val?, ev, updo, upd]; simp [s6]) ?_
    refine wpR_step (v := .int .i64 i) (by simp only [RK.val?, ev, updo, upd, if_true]) ?_
    refine wpR_done ?_
    rw [wpC_seq, wpC_blk]
    refine wpR_step (v := .int .i64 i) (by simp only [RK.val?, ev, updo, upd, if_true]) ?_
    refine wpR_step (v := .int .i64 i) (by simp only [RK.val?, ev, updo, upd, if_true]) ?_
    refine wpR_done ?_
    rw [wpC_block, wpC_loop]
    refine ⟨fun σ' w' => σ' 0 = v ∧ σ' 3 = .int .i64 i ∧ σ' 5 = .int .i64 ks.length ∧ σ' 6 = .int .i64 i ∧ Mod [] w w', fun _ _ => 0, ⟨by simp [updo, upd, s0], by simp [updo, upd], by simp [updo, upd, s5], by simp [updo, upd, s6], hm1⟩, ?_⟩
    rintro σ2 w2 ⟨t0, t3, t5, t6, hm2⟩
    rw [wpC_seq, wpC_seq]
    refine wpD_pure rfl ?_
    have hm2d : Mod [] w w2.drew := hm2.trans (Mod.drew _ _)
    simp only [List.map_cons, List.map_nil, List.append_nil]
    refine sorted_test (hp.mod hm2d) hs hlt hlen t0 t3 fun σ3 a3 f3 => ?_
    simp only [thenC]
    rw [wpC_cond_f (by simp only [ev, f3])]
    simp only [wpC, thenC, inBlockC, if_true]
    have u6 : σ3 6 = .int .i64 i := by rw [a3 6 (by omega)]; exact t6
    refine wpR_step (v := .int .i64 ((i + 1 : Nat) : Int)) (by
      simp only [RK.val?, ev, u6, isShift, decide_true, Bool.or_true, if_true, intBin]
      have e1 : (i : Int) + 1 = ((i + 1 : Nat) : Int) := by omega
      rw [e1, i64_small (by omega) (by omega)]) ?_
    refine wpR_step (v := .int .i64 ((i + 1 : Nat) : Int)) (by simp only [RK.val?, ev, updo, upd, if_true]) ?_
    simp only [wpR]
    refine ⟨⟨i + 1, by omega, by simp [updo, upd, a3, t0], by simp [updo, upd, a3, t5], by simp only [updo, upd, if_true], hm2d⟩, ?_⟩
    simp only [updo, upd, if_true, s6]; omega
  · rw [wpC_seq, wpC_cond_f (by simp only [ev, updo, upd, if_true, hlt, decide_false])]
    refine wpC_exit_out ?_
    simp only [postC, rvals, List.mapM_nil, Option.pure_def, tup]
    exact ⟨trivial, hm1⟩
end
end Go.Msk

namespace Go.Msk
open Go.RowKit
set_option maxRecDepth 100000
section
variable {P : Program} {F : Nat → Nat}
attribute [local simp] bnd wpC wpR RI.wp gOk RK.run thenC inBlockC updo upd ev args0 postC rvals RV.val tup_one isShift
theorem append_two {σ : Sl} {w : World} {x y : Operand} {lv : Value} {css : List (List Value)} {es : List Value} {n0 sb : Nat} {K : Value → World → Prop} (hx : ev σ x = lv) (hraw : LRaw2 w n0 lv css) (hn0 : n0 ≤ w.heap.size)
    (hy : ev σ y = .slice (some ⟨sb, 0, none⟩) 1 1) (hsb : Blk w sb es) (h5 : es.length = 2) (hone : ∀ v ∈ es, v.oneCell' = true) (hl : css.length ≤ 2147483647)
    (hK : ∀ lv' w', LRaw2 w' n0 lv' (css ++ [es]) → (((own lv' = own lv ∧ Mod (own lv).toList w w') ∧ ∃ BA c, lv = .slice (some ⟨BA, 0, none⟩) css.length c ∧ css.length + 1 ≤ c) ∨ (own lv' = some w.heap.size ∧ Mod [] w w')) → K lv' w') : (RK.append x y 2 32).run P σ w K := by
  have hsrc : srcCells w 2 (.slice (some ⟨sb, 0, none⟩) 1 1) = some (1, es) := by
    simp only [srcCells, cellsAt_of' hsb.cells (n := 1 * 2) (by omega), Option.map_some]
  simp only [RK.run, hx, hy]
  have h5' : ∀ cs ∈ css ++ [es], cs.length = 2 := fun cs hc => by
    rcases List.mem_append.1 hc with hc | hc
    · exact hraw.two cs hc
    · simp only [List.mem_singleton] at hc; subst hc; exact h5
  have hfl : css.flatten.length = css.length * 2 := flatten_length hraw.two
  rcases hraw.sl with ⟨rfl, rfl⟩ | ⟨BA, cap, rest, rfl, h2, h3, h4, hr⟩
  · simp only [hsrc, appendRun]
    rw [if_neg (by omega)]
    refine ⟨by omega, by omega, ?_⟩
    intro T cap rest hc hr
    refine hK _ _ ⟨h5', .inr ⟨w.heap.size, cap, rest, rfl, by simpa using hc, hn0, ?_, by simpa using hr⟩⟩ (.inr ⟨rfl, (Mod.drew _ _).trans (Mod.alloc _ _ _)⟩)
    have := Blk.new w.drew (es ++ rest) T
    simpa using this
  · simp only [hsrc, appendRun]
    by_cases hc : css.length + 1 ≤ cap
    · rw [if_pos hc]
      simp only [Addr.add_mk, Nat.zero_add]
      refine ⟨stOk_many h4 (by simp only [List.length_append]; omega) hone, hK _ _ ⟨h5', .inr ⟨BA, cap, rest.drop 2, by simp, by simpa using hc, h3, ?_, by simp; omega⟩⟩ (.inl ⟨⟨rfl, by simpa [own] using Mod.put (by simp)⟩, BA, cap, rfl, hc⟩)⟩
      have hput := h4.put (o := css.length * 2) (vs := es) (by simp only [List.length_append]; omega)
      have : splice (css.flatten ++ rest) (css.length * 2) es = (css ++ [es]).flatten ++ rest.drop 2 := by
        rw [splice_end hfl, h5, flat_snoc, List.append_assoc]
      rwa [this] at hput
    · rw [if_neg hc]
      refine ⟨by omega, by omega, ?_⟩
      have hco : cellsAt w ⟨BA, 0, none⟩ 0 (css.length * 2) = some css.flatten := by
        have := h4.cells.take css.flatten.length
        rw [List.take_left] at this
        exact cellsAt_of' this hfl
      simp only [hco]
      intro T cap' rest' hc' hr'
      refine hK _ _ ⟨h5', .inr ⟨w.heap.size, cap', rest', by simp, by simpa using hc', hn0, ?_, by simpa using hr'⟩⟩ (.inr ⟨rfl, (Mod.drew _ _).trans (Mod.alloc _ _ _)⟩)
      have := Blk.new w.drew (css.flatten ++ (es ++ rest')) T
      simpa using this
structure GU (w3 w : World) (Ob : Nat) (n : Int) (sv lv uv : Value) (null : Bool) (N : Nat) (us : List (Nat × List UInt8)) (ucs : List (List Value)) : Prop where
  ob : Blk w Ob [.int .i64 n, sv, .bool null, lv, uv]
  raw : LRaw2 w w3.heap.size uv ucs
  rep : RepU (fun b => b < N) w us ucs
  mod : Mod [Ob] w3 w
  lob : Ob < w3.heap.size
  nob : N ≤ Ob
theorem RepU.append {ok : Nat → Prop} {w : World} {l l' : List (Nat × List UInt8)} {css css' : List (List Value)} (h : RepU ok w l css) (h' : RepU ok w l' css') : RepU ok w (l ++ l') (css ++ css') := by
  induction h with
  | nil => exact h'
  | cons h1 _ ih => exact .cons h1 ih
theorem RepU.two {ok : Nat → Prop} {w : World} {l : List (Nat × List UInt8)} {css : List (List Value)} (h : RepU ok w l css) : ∀ c ∈ css, c.length = 2 := by
  induction h with
  | nil => simp
  | cons h1 _ ih =>
    intro c hc
    rcases List.mem_cons.1 hc with rfl | hc
    · rfl
    · exact ih c hc
theorem RepU.length {ok : Nat → Prop} {w : World} {l : List (Nat × List UInt8)} {css : List (List Value)} (h : RepU ok w l css) : l.length = css.length := by
  induction h with
  | nil => rfl
  | cons h1 _ ih => simp [ih]
theorem RepU.nth {ok : Nat → Prop} {w : World} {l : List (Nat × List UInt8)} {css : List (List Value)} (h : RepU ok w l css) {j : Nat} {t : Nat × List UInt8} (ht : l[j]? = some t) : ∃ v, css[j]? = some [.int .u32 t.1, v] ∧ SlC ok w v t.2.length (u8s t.2) := by
  induction h generalizing j with
  | nil => simp at ht
  | cons h1 _ ih =>
    cases j with
    | zero => simp only [List.getElem?_cons_zero, Option.some.injEq] at ht; subst ht; exact ⟨_, rfl, h1⟩
    | succ j => simp only [List.getElem?_cons_succ] at ht ⊢; exact ih ht
def uzero : List Value := [.int .u32 0, .slice none 0 0]
end
end Go.Msk

namespace Go.Msk
open Go.RowKit
set_option maxRecDepth 100000
section
variable {P : Program}
theorem appendNil_big {σ : Sl} {w : World} {x : Operand} {v : Value} {l : List UInt8} {ok : Nat → Prop} {K : Value → World → Prop} (hx : ev σ x = v) (hv : SlC ok w v l.length (u8s l)) (hl : l.length ≤ 70368744177664)
    (hK : ∀ base cap w', IsBytes w' base l.length cap l → base.isNone = l.isEmpty → (∀ a, base = some a → w.heap.size ≤ a.block ∧ a.block < w'.heap.size) → Mod [] w w' → K (.slice base l.length cap) w') : (RK.append (.const (.slice none 0 0)) x 1 1).run P σ w K := by
  obtain ⟨base, cap, rfl, hcap, hb0, hb⟩ := hv
  have hsrc : srcCells w 1 (.slice base l.length cap) = some (l.length, u8s l) := by
    cases base with
    | none => have := hb0 rfl; have : l = [] := List.length_eq_zero_iff.1 (by omega); subst this; simp [srcCells, u8s]
    | some a =>
      by_cases hc0 : 0 < cap
      · obtain ⟨h1, h2, h3⟩ := hb a rfl hc0
        simp only [srcCells, Nat.mul_one]
        rw [cellsAt_of' h3 (u8s_length l)]; rfl
      · have : l = [] := List.length_eq_zero_iff.1 (by omega)
        subst this; simp [srcCells, cellsAt, u8s]
  have e1 : ev σ (.const (.slice none 0 0)) = .slice none 0 0 := rfl
  simp only [RK.run, e1, hx, hsrc, appendRun]
  by_cases h0 : l.length = 0
  · have : l = [] := List.length_eq_zero_iff.1 h0
    subst this
    simp only [List.length_nil, Nat.add_zero, Nat.le_refl, if_true]
    exact hK _ _ _ (IsBytes.nil w) rfl (fun a h => by simp at h) (Mod.refl _ _)
  · rw [if_neg (by omega)]
    refine ⟨by omega, by omega, ?_⟩
    intro T cap' rest hc hr
    have hblk := Blk.new w.drew (u8s l ++ rest) T
    have := hK (some ⟨w.heap.size, 0, none⟩) cap' (w.drew.alloc (.cells (u8s l ++ rest).toArray T)) ⟨rfl, by omega, fun h => by simp at h, fun a ha => by
      simp only [Option.some.injEq] at ha; subst ha
      have := hblk.cells.take (u8s l).length
      simpa using this⟩ (by cases l <;> simp at h0 ⊢) (fun a ha => by
      simp only [Option.some.injEq] at ha; subst ha
      exact ⟨Nat.le_refl _, hblk.lt⟩) ((Mod.drew _ _).trans (Mod.alloc _ _ _))
    simpa using this
theorem appendNil_bytes {σ : Sl} {w : World} {x : Operand} {v : Value} {l : List UInt8} {ok : Nat → Prop} {K : Value → World → Prop} (hx : ev σ x = v) (hv : SlC ok w v l.length (u8s l)) (hl : l.length ≤ 2147483647)
    (hK : ∀ base cap w', IsBytes w' base l.length cap l → base.isNone = l.isEmpty → (∀ a, base = some a → w.heap.size ≤ a.block ∧ a.block < w'.heap.size) → Mod [] w w' → K (.slice base l.length cap) w') : (RK.append (.const (.slice none 0 0)) x 1 1).run P σ w K := appendNil_big hx hv (by omega) hK
theorem IsBytes.slc {ok : Nat → Prop} {w : World} {base : Option Addr} {n cap : Nat} {l : List UInt8} (h : IsBytes w base n cap l) (ho : ∀ a, base = some a → ok a.block ∧ a.block < w.heap.size) : SlC ok w (.slice base n cap) l.length (u8s l) :=
  ⟨base, cap, by rw [h.hlen], by rw [← h.hlen]; exact h.hcap, h.hnone, fun a ha _ => ⟨(ho a ha).1, (ho a ha).2, h.hcells a ha⟩⟩
def cbL : List DI :=
  [⟨⟨some 5, .fad (.tmp 2) 4, none⟩, false, []⟩, ⟨⟨some 6, .ld (.tmp 5), none⟩, false, []⟩, ⟨⟨some 7, .mv (.tmp 0), none⟩, false, []⟩, ⟨⟨some 8, .mv (.tmp 1), none⟩, false, []⟩,
   ⟨⟨some 9, .append (.const (.slice none 0 0)) (.tmp 8) 1 1, none⟩, true, []⟩, ⟨⟨some 10, .build uzero [(0, 1, .tmp 7), (1, 1, .tmp 9)], none⟩, false, [4]⟩,
   ⟨⟨some 11, .bslice 1 uzero [(0, 2, .tmp 10)], none⟩, true, [4]⟩, ⟨⟨some 12, .append (.tmp 6) (.tmp 11) 2 32, none⟩, true, [4, 6]⟩, ⟨⟨some 13, .fad (.tmp 2) 4, none⟩, false, [4, 6, 7]⟩]
def cbCode : IC × List RV × Nat := (.drw cbL [⟨none, .st (.tmp 13) 1 (.tmp 12), none⟩], [], 14)
structure TG (w0 w : World) (Tb : Nat) (lv uv : Value) (us : List (Nat × List UInt8)) (ucs : List (List Value)) : Prop where
  tb : Blk w Tb [.int .i64 0, .slice none 0 0, .bool false, lv, uv]
  raw : LRaw2 w w0.heap.size uv ucs
  rep : RepU (fun b => w0.heap.size ≤ b ∧ own uv ≠ some b) w us ucs
  mod : Mod [Tb] w0 w
  ltb : Tb < w0.heap.size
def BU (n0 k : Nat) (l : List UInt8) (v : Value) (w : World) : Prop := ∃ sb v4, v = .slice (some ⟨sb, 0, none⟩) 1 1 ∧ n0 ≤ sb ∧ Blk w sb [.int .u32 k, v4] ∧ SlC (fun b => n0 ≤ b) w v4 l.length (u8s l)
theorem BU.mod {n0 k : Nat} {l : List UInt8} {v : Value} {w w' : World} {S : List Nat} (h : BU n0 k l v w) (hm : Mod S w w') (hS : ∀ b ∈ S, b < n0) : BU n0 k l v w' := by
  obtain ⟨sb, v4, h1, h2, h3, h4⟩ := h
  exact ⟨sb, v4, h1, h2, h3.mod hm (fun hc => by have := hS _ hc; omega), h4.mod hm (fun b hb hc => by have := hS b hb; omega) fun _ _ h => h⟩
theorem LRaw2.mod {w w' : World} {n0 : Nat} {lv : Value} {css : List (List Value)} {S : List Nat} (h : LRaw2 w n0 lv css) (hm : Mod S w w') (hS : ∀ b, own lv = some b → b ∉ S) : LRaw2 w' n0 lv css :=
  ⟨h.two, h.sl.imp id fun ⟨BA, cap, rest, g1, g2, g3, g4, g5⟩ => ⟨BA, cap, rest, g1, g2, g3, g4.mod hm (hS _ (by rw [g1]; rfl)), g5⟩⟩
theorem LRaw2.own {w : World} {n0 : Nat} {lv : Value} {css : List (List Value)} (h : LRaw2 w n0 lv css) {b : Nat} (hb : own lv = some b) : n0 ≤ b ∧ b < w.heap.size := by
  rcases h.sl with ⟨rfl, -⟩ | ⟨BA, cap, rest, rfl, -, h3, h4, -⟩
  · simp [Msk.own] at hb
  · simp only [Msk.own, Option.some.injEq] at hb; subst hb; exact ⟨h3, h4.lt⟩
theorem LRaw2.one {w : World} {n0 : Nat} {lv : Value} {css : List (List Value)} (h : LRaw2 w n0 lv css) : lv.cells = #[lv] ∧ lv.oneCell' = true := by
  rcases h.sl with ⟨rfl, -⟩ | ⟨BA, cap, rest, rfl, -⟩ <;> exact ⟨rfl, rfl⟩
theorem cb_core {f Tb k : Nat} {lv uv v : Value} {us : List (Nat × List UInt8)} {ucs : List (List Value)} {l : List UInt8} {S : List Nat} {okv : Nat → Prop} {wN w : World} {R : World → World → Prop} {App : Value → World → Prop}
    (hm : P.follows .mixedOrders = true) (h : liftF P f = some cbCode) (hg : TG wN w Tb lv uv us ucs) (hv : SlC okv w v l.length (u8s l)) (hl : l.length ≤ 2147483647) (_hk : k < 4294967296)
    (hvS : ∀ b ∈ S, ¬ okv b) (hS : ∀ b ∈ S, own uv = some b)
    (hRr : ∀ w, R w w) (hRt : ∀ u v w, R u v → R v w → R u w) (hRS : ∀ w1 w2, R w1 w2 → Mod S w1 w2) (hR0 : ∀ w1 w2, Mod [] w1 w2 → R w1 w2) (hAst : ∀ v w1 w2, App v w1 → R w1 w2 → App v w2)
    (happ : ∀ (σ : Sl) (x y : Operand) (w1 : World), R w.drew w1 → ev σ x = uv → BU w.heap.size k l (ev σ y) w1 → (RK.append x y 2 32).run P σ w1 fun v w' => R w1 w' ∧ App v w')
    (hfin : ∀ w1 v, R w.drew w1 → App v w1 → ∃ cs, LRaw2 w1 wN.heap.size v (ucs ++ [cs]) ∧ (∀ b, own v = some b → own uv = some b ∨ w.heap.size ≤ b) ∧ RepU (fun b => wN.heap.size ≤ b ∧ own v ≠ some b) w1 (us ++ [(k, l)]) (ucs ++ [cs])) :
    Calls P f [u32v k, v, .pointer (some ⟨Tb, 0, none⟩)].toArray w fun e w' => e = .returned (.tuple #[]) ∧ (∃ uv' ucs', TG wN w' Tb lv uv' (us ++ [(k, l)]) ucs') ∧ Mod [Tb] wN w' := by
  unfold cbCode at h
  refine call_of h hm (by simp) ?_
  have a0 : args0 [u32v k, v, .pointer (some ⟨Tb, 0, none⟩)] 0 = u32v k := rfl
  have a1 : args0 [u32v k, v, .pointer (some ⟨Tb, 0, none⟩)] 1 = v := rfl
  have a2 : args0 [u32v k, v, .pointer (some ⟨Tb, 0, none⟩)] 2 = .pointer (some ⟨Tb, 0, none⟩) := rfl
  generalize args0 [u32v k, v, .pointer (some ⟨Tb, 0, none⟩)] = σ at a0 a1 a2 ⊢
  have hown : ∀ b ∈ S, wN.heap.size ≤ b ∧ b < w.heap.size := fun b hb => hg.raw.own (hS b hb)
  have hltb := hg.ltb
  have nT : Tb ∉ S := fun hx => by have := hown _ hx; omega
  have htb : ∀ w1, R w.drew w1 → Blk w1 Tb [.int .i64 0, .slice none 0 0, .bool false, lv, uv] := fun w1 hm => (hg.tb.of_heap (w' := w.drew) rfl).mod (hRS _ _ hm) nT
  have hsz : ∀ w1, R w.drew w1 → w.heap.size ≤ w1.heap.size := fun w1 hm => (hRS _ _ hm).size
  show wpD P cbL _ σ w.drew _
  refine ⟨R, fun j v w1 => if j = 4 then SlC (fun b => w.heap.size ≤ b) w1 v l.length (u8s l) else if j = 6 then BU w.heap.size k l v w1 else App v w1, NT, hRr, hRt, fun j v w1 w2 h hm => ?_, fun _ => trivial, ?_⟩
  · dsimp only at h ⊢
    split at h
    · rename_i hj; rw [if_pos hj]
      exact h.mod (hRS _ _ hm) (fun b hb hx => by have := hown _ hb; omega) fun _ _ h => h
    · rename_i hj; rw [if_neg hj]
      split at h
      · rename_i hj2; rw [if_pos hj2]; exact h.mod (hRS _ _ hm) fun b hb => (hown b hb).2
      · rename_i hj2; rw [if_neg hj2]; exact hAst _ _ _ h hm
  generalize hΦ : (fun (j : Nat) (v : Value) (w1 : World) => if j = 4 then SlC (fun b => w.heap.size ≤ b) w1 v l.length (u8s l) else if j = 6 then BU w.heap.size k l v w1 else App v w1) = Φ
  have Φ4 : ∀ v w1, Φ 4 v w1 = SlC (fun b => w.heap.size ≤ b) w1 v l.length (u8s l) := by subst hΦ; intros; rfl
  have Φ6 : ∀ v w1, Φ 6 v w1 = BU w.heap.size k l v w1 := by subst hΦ; intros; rfl
  have Φ7 : ∀ v w1, Φ 7 v w1 = App v w1 := by subst hΦ; intros; rfl
  generalize hE : (fun σ' => ∀ w1, R w.drew w1 → known cbL Φ (List.range cbL.length) σ' w1 → wpR P _ σ' w1 _) = E
  have hend : ∀ σ', σ' 13 = .pointer (some ⟨Tb, 4, none⟩) → E σ' := by
    intro σ' h13; subst hE
    intro w1 hm1 hkn
    have hap := hkn 7 (by simp [cbL]) _ rfl rfl rfl 12 rfl
    rw [Φ7] at hap
    obtain ⟨cs, q1, q2, q3⟩ := hfin w1 _ hm1 hap
    obtain ⟨o1, o2⟩ := q1.one
    have hb := htb w1 hm1
    have hput : Mod [Tb] w1 (putCells w1 ⟨Tb, 4, none⟩ 0 [σ' 12]) := Mod.put (by simp)
    have hp := hb.put (o := 4) (vs := [σ' 12]) (by simp)
    have e1 : splice [Value.int .i64 0, .slice none 0 0, .bool false, lv, uv] 4 [σ' 12] = [.int .i64 0, .slice none 0 0, .bool false, lv, σ' 12] := by simp [splice]
    rw [e1] at hp
    have hge : ∀ b, own (σ' 12) = some b → wN.heap.size ≤ b := fun b hb => (q1.own hb).1
    have m1 : Mod [Tb] wN (putCells w1 ⟨Tb, 4, none⟩ 0 [σ' 12]) := by
      have hm0 : Mod [Tb] wN w.drew := hg.mod.trans (Mod.drew [Tb] w)
      have hmS := hRS _ _ hm1
      refine ⟨hput.os.trans (hmS.os.trans hm0.os), hput.tape.trans (hmS.tape.trans hm0.tape), hput.output.trans (hmS.output.trans hm0.output), Nat.le_trans hm0.size (Nat.le_trans hmS.size hput.size), fun b hb hnb => ?_⟩
      rw [hput.block b (Nat.lt_of_lt_of_le hb (Nat.le_trans hm0.size hmS.size)) hnb, hmS.block b (Nat.lt_of_lt_of_le hb hm0.size) (fun hx => by have := hown _ hx; omega)]
      exact hm0.block b hb hnb
    refine wpR_run ?_
    simp only [RK.run, ev, h13, o1]
    refine ⟨rfl, stOk_one hb (by simp) o2, ?_⟩
    simp only [wpR, postC, rvals, List.mapM_nil, Option.pure_def, tup]
    exact ⟨trivial, ⟨_, _, hp, q1.mod hput (fun b hb => by have := hge b hb; simp; omega), q3.mod hput (fun b hb hc => by simp only [List.mem_singleton] at hb; omega) (fun _ _ h => h), m1, hltb⟩, m1⟩
  unfold cbL
  refine walk_step (v := .pointer (some ⟨Tb, 4, none⟩)) (fun w1 _ => by simp only [RK.val?, ev, a2, Addr.add_mk, Nat.zero_add]) ?_
  refine walk_step (v := uv) (fun w1 hw => by simp only [RK.val?, ev, updo, upd_same]; exact (htb w1 hw).cell 4) ?_
  refine walk_step (v := u32v k) (fun w1 _ => by simp only [RK.val?, ev, updo, upd]; simp [a0]) ?_
  refine walk_step (v := v) (fun w1 _ => by simp only [RK.val?, ev, updo, upd]; simp [a1]) ?_
  refine walk_node (fun w1 hw1 _ => ?_) fun v4 hv4 => ?_
  · refine appendNil_bytes (v := v) (l := l) (ok := okv) (by simp only [ev, updo, upd_same]) ((hv.mod (ok' := okv) (Mod.drew [] w) (by simp) fun _ _ h => h).mod (hRS _ _ hw1) hvS fun _ _ h => h) hl fun base cap w2 hb _ hge hm2 => ⟨hR0 _ _ hm2, ?_⟩
    rw [Φ4]
    exact hb.slc fun a ha => ⟨Nat.le_trans (hsz w1 hw1) (hge a ha).1, (hge a ha).2⟩
  obtain ⟨wv, hv4⟩ := hv4
  rw [Φ4] at hv4
  obtain ⟨b4, c4, rfl, -⟩ := hv4
  refine walk_step (v := .agg #[u32v k, .slice b4 l.length c4]) (fun w1 _ => by
    simp only [RK.val?, List.map_cons, List.map_nil, ev, updo, upd]; simp [uzero, fillL, splice, Value.cells, u32v]) ?_
  refine walk_node (fun w1 hw1 hkn => ?_) fun v6 hv6 => ?_
  · have h4 := hkn 4 (by simp) _ rfl rfl rfl 9 rfl
    rw [Φ4] at h4
    simp only [updo, upd, show (9 : Nat) ≠ 10 by decide, if_false, if_true] at h4
    have hf : fillL (zrep 1 uzero) [(0, 2, Value.agg #[u32v k, .slice b4 l.length c4])] = some [u32v k, .slice b4 l.length c4] := by simp [zrep, uzero, fillL, splice, Value.cells, u32v]
    simp only [RK.run, List.map_cons, List.map_nil, ev, updo, upd_same, hf]
    intro T5
    have hm5 : Mod [] w1 (w1.alloc (.cells [u32v k, .slice b4 l.length c4].toArray T5)) := Mod.alloc _ _ _
    refine ⟨hR0 _ _ hm5, ?_⟩
    rw [Φ6]
    exact ⟨w1.heap.size, _, rfl, hsz w1 hw1, Blk.new _ _ _, h4.mod hm5 (by simp) fun _ _ h => h⟩
  refine walk_node (fun w1 hw1 hkn => ?_) fun v7 hv7 => ?_
  · have h6 := hkn 6 (by simp) _ rfl rfl rfl 11 rfl
    rw [Φ6] at h6
    simp only [updo, upd_same] at h6
    refine run_mono (happ _ (.tmp 6) (.tmp 11) w1 hw1 (by simp only [ev, updo, upd]; simp) (by simpa only [ev, updo, upd_same] using h6)) fun v w2 hh => ⟨hh.1, ?_⟩
    rw [Φ7]; exact hh.2
  refine walk_step (v := .pointer (some ⟨Tb, 4, none⟩)) (fun w1 _ => by simp only [RK.val?, ev, updo, upd]; simp [a2, Addr.add_mk]) ?_
  simp only [walk]
  exact hend _ (by simp only [updo, upd_same])
theorem cb_step {f Tb k : Nat} {lv uv v : Value} {us : List (Nat × List UInt8)} {ucs : List (List Value)} {l : List UInt8} {okv : Nat → Prop} {wN w : World}
    (hm : P.follows .mixedOrders = true) (h : liftF P f = some cbCode) (hg : TG wN w Tb lv uv us ucs) (hv : SlC okv w v l.length (u8s l)) (hl : l.length ≤ 2147483647) (hk : k < 4294967296) (hok : ∀ b, okv b → b < wN.heap.size) (hus : us.length < 2147483647) :
    Calls P f [u32v k, v, .pointer (some ⟨Tb, 0, none⟩)].toArray w fun e w' => e = .returned (.tuple #[]) ∧ (∃ uv' ucs', TG wN w' Tb lv uv' (us ++ [(k, l)]) ucs') ∧ Mod [Tb] wN w' := by
  have hnw : wN.heap.size ≤ w.heap.size := hg.mod.size
  have hul : us.length = ucs.length := hg.rep.length
  have hraw : LRaw2 w.drew wN.heap.size uv ucs := hg.raw.mod (Mod.drew [] w) (by simp)
  have hrep := hg.rep.mod (ok' := fun b => wN.heap.size ≤ b ∧ own uv ≠ some b) (Mod.drew [] w) (by simp) fun _ _ h => h
  have one4 : ∀ {ok : Nat → Prop} {w : World} {v4 : Value}, SlC ok w v4 l.length (u8s l) → ∀ x ∈ [Value.int .u32 k, v4], x.oneCell' = true := fun h x hx => by
    simp only [List.mem_cons, List.not_mem_nil, or_false] at hx
    rcases hx with rfl | rfl
    · rfl
    · exact h.one
  by_cases hin : ∃ BA c, uv = .slice (some ⟨BA, 0, none⟩) ucs.length c ∧ ucs.length + 1 ≤ c
  · obtain ⟨BA, c, rfl, hc1⟩ := hin
    obtain ⟨o1, o2⟩ := hg.raw.own (b := BA) rfl
    generalize hlv2 : Value.slice (some ⟨BA, 0, none⟩) (ucs.length + 1) c = lv2
    let Fin : World → Prop := fun w' => ∃ v4, LRaw2 w' wN.heap.size lv2 (ucs ++ [[.int .u32 k, v4]]) ∧ SlC (fun b => w.heap.size ≤ b) w' v4 l.length (u8s l)
    have finMod : ∀ w1 w2, Fin w1 → Mod [] w1 w2 → Fin w2 := fun w1 w2 ⟨cs, h1, h2⟩ hm => ⟨cs, h1.mod hm (by simp), h2.mod hm (by simp) fun _ _ h => h⟩
    refine cb_core hm h hg hv hl hk (S := [BA]) (R := fun w1 w2 => Mod [] w1 w2 ∨ (Mod [BA] w1 w2 ∧ Fin w2)) (App := fun v w1 => v = lv2 ∧ Fin w1) (fun b hb hx => by simp only [List.mem_singleton] at hb; subst hb; have := hok _ hx; omega)
      (fun b hb => by simp only [List.mem_singleton] at hb; subst hb; rfl) (fun _ => .inl (Mod.refl _ _)) ?_ ?_ (fun _ _ h => .inl h) ?_ ?_ ?_
    · rintro u v w' (h1 | ⟨h1, f1⟩) (h2 | ⟨h2, f2⟩)
      · exact .inl (h1.trans h2)
      · exact .inr ⟨h1.nil.trans h2, f2⟩
      · exact .inr ⟨h1.trans h2.nil, finMod _ _ f1 h2⟩
      · exact .inr ⟨h1.trans h2, f2⟩
    · rintro w1 w2 (h1 | ⟨h1, -⟩)
      · exact h1.nil
      · exact h1
    · rintro v w1 w2 ⟨rfl, f1⟩ (h1 | ⟨h1, f2⟩)
      · exact ⟨rfl, finMod _ _ f1 h1⟩
      · exact ⟨rfl, f2⟩
    · intro σ x y w1 hR hx hy
      obtain ⟨sb, v4, hy, hsb, hblk, htree⟩ := hy
      have hM : Mod [BA] w.drew w1 := hR.elim (·.nil) (·.1)
      have hsz : w.heap.size ≤ w1.heap.size := hM.size
      have hrawblk : ∃ rest, Blk w1 BA (ucs.flatten ++ rest) ∧ rest.length = (c - ucs.length) * 2 := by
        rcases hR with h1 | ⟨-, v4', f1, -⟩
        · rcases (hraw.mod h1 (by simp)).sl with ⟨h, -⟩ | ⟨BA', c', rest, h, -, -, hb, hl⟩
          · simp at h
          · simp only [Value.slice.injEq, Option.some.injEq, Addr.mk.injEq, and_true, true_and] at h
            obtain ⟨rfl, rfl⟩ := h
            exact ⟨rest, hb, hl⟩
        · rcases f1.sl with ⟨h, -⟩ | ⟨BA', c', rest, h, -, -, hb, hl⟩
          · rw [← hlv2] at h; simp at h
          · rw [← hlv2] at h
            simp only [List.length_append, List.length_cons, List.length_nil, Value.slice.injEq, Option.some.injEq, Addr.mk.injEq, and_true, true_and] at h
            obtain ⟨rfl, -, rfl⟩ := h
            refine ⟨[.int .u32 k, v4'] ++ rest, by simpa using hb, ?_⟩
            simp only [List.length_append, List.length_cons, List.length_nil] at hl ⊢
            omega
      obtain ⟨rest, hb, hl⟩ := hrawblk
      have hfl : ucs.flatten.length = ucs.length * 2 := flatten_length hg.raw.two
      have hput : Mod [BA] w1 (putCells w1 ⟨BA, ucs.length * 2, none⟩ 0 [.int .u32 k, v4]) := Mod.put (by simp)
      have hsrc : srcCells w1 2 (.slice (some ⟨sb, 0, none⟩) 1 1) = some (1, [.int .u32 k, v4]) := by
        simp only [srcCells, cellsAt_of' hblk.cells (n := 1 * 2) (by simp), Option.map_some]
      have hfin : Fin (putCells w1 ⟨BA, ucs.length * 2, none⟩ 0 [.int .u32 k, v4]) := by
        refine ⟨v4, ⟨fun d hd => ?_, .inr ⟨BA, c, rest.drop 2, by simp [← hlv2], by simpa using hc1, o1, ?_, by simp; omega⟩⟩, htree.mod hput (fun b hb hx => by simp only [List.mem_singleton] at hb; omega) fun _ _ h => h⟩
        · rcases List.mem_append.1 hd with hd | hd
          · exact hg.raw.two d hd
          · simp only [List.mem_singleton] at hd; subst hd; rfl
        · have hp := hb.put (o := ucs.length * 2) (vs := [.int .u32 k, v4]) (by simp only [List.length_append, List.length_cons, List.length_nil]; omega)
          have hfs : (ucs ++ [[Value.int .u32 k, v4]]).flatten = ucs.flatten ++ [.int .u32 k, v4] := by simp
          rw [hfs, List.append_assoc]
          rwa [splice_end hfl] at hp
      simp only [RK.run, hx, hy, hsrc, appendRun]
      rw [if_pos hc1, hlv2]
      simp only [Addr.add_mk, Nat.zero_add]
      exact ⟨stOk_many hb (by simp only [List.length_append, List.length_cons, List.length_nil]; omega) (one4 htree), .inr ⟨hput, hfin⟩, trivial, hfin⟩
    · rintro w1 v hR ⟨rfl, v4, f1, f2⟩
      have hM : Mod [BA] w.drew w1 := hR.elim (·.nil) (·.1)
      have ho : own v = some BA := by rw [← hlv2]; rfl
      refine ⟨_, f1, fun b hb => .inl (by rw [ho] at hb; exact hb), RepU.append (hrep.mod hM (by
        intro b hb hx
        simp only [List.mem_singleton] at hb; subst hb; exact hx.2 rfl) fun b _ hb => ⟨hb.1, by rw [ho]; exact hb.2⟩) (.cons (f2.mod (Mod.refl [] _) (by simp) fun b _ hb => ⟨by omega, fun e => ?_⟩) .nil)⟩
      rw [ho] at e; simp only [Option.some.injEq] at e; omega
  · refine cb_core hm h hg hv hl hk (S := []) (R := fun w1 w2 => Mod [] w1 w2) (App := fun v w1 => ∃ v4 b, own v = some b ∧ w.heap.size ≤ b ∧ LRaw2 w1 wN.heap.size v (ucs ++ [[.int .u32 k, v4]]) ∧ SlC (fun b => w.heap.size ≤ b ∧ own v ≠ some b) w1 v4 l.length (u8s l))
      (by simp) (by simp) (fun _ => Mod.refl _ _) (fun _ _ _ => Mod.trans) (fun _ _ h => h) (fun _ _ h => h) ?_ ?_ ?_
    · rintro v w1 w2 ⟨v4, b, h1, h2, h3, h4⟩ hm
      exact ⟨v4, b, h1, h2, h3.mod hm (by simp), h4.mod hm (by simp) fun _ _ h => h⟩
    · intro σ x y w1 hR hx hy
      obtain ⟨sb, v4, hy, hsb, hblk, htree⟩ := hy
      refine append_two hx (hraw.mod hR (by simp)) (Nat.le_trans hnw hR.size) hy hblk rfl (one4 htree) (by omega) fun lv' w' hraw' hown => ?_
      rcases hown with ⟨-, h2⟩ | ⟨h1, h2⟩
      · exact absurd h2 hin
      · refine ⟨h2, v4, w1.heap.size, h1, hR.size, hraw', htree.mod h2 (by simp) (by
          intro b hb hx
          refine ⟨hx, fun e => ?_⟩
          rw [h1] at e; simp only [Option.some.injEq] at e; omega)⟩
    · rintro w1 v hR ⟨v4, b, h1, h2, h3, h4⟩
      refine ⟨_, h3, fun b' hb' => .inr (by rw [h1] at hb'; simp only [Option.some.injEq] at hb'; omega), RepU.append (hrep.mod hR (by simp) (by
        intro b' hb' hx
        refine ⟨hx.1, fun e => ?_⟩
        rw [h1] at e; simp only [Option.some.injEq] at e
        have : b' < w.heap.size := hb'
        omega)) (.cons (h4.mod (Mod.refl [] _) (by simp) (by
        intro b' _ hb'
        exact ⟨by omega, hb'.2⟩)) .nil)⟩
def tagBlks (f1 each srt : FuncId) (t off : Nat) : List IC :=
  [.blk [⟨some t, .mv (.tmp 0), none⟩, ⟨some (t + 1), .nilc (.tmp t), none⟩, ⟨some (t + 2), .fad (.tmp (t + 1)) off, none⟩, ⟨some (t + 3), .mkfunc (.func f1) [] [.tmp 3], none⟩, ⟨some (t + 4), .call each [.tmp (t + 2), .tmp (t + 3)], none⟩],
   .blk [⟨some (t + 5), .fad (.tmp 3) 4, none⟩, ⟨some (t + 6), .ld (.tmp (t + 5)), none⟩, ⟨some (t + 7), .call srt [.tmp (t + 6)], none⟩]]
structure TagFs (P : Program) (f1 each srt : FuncId) : Prop where
  mixed : P.follows .mixedOrders = true
  cb : liftF P f1 = some cbCode
  body : hasBody P f1 = true
  each : ∀ {w : World} {S : List Nat} {okv : Nat → Prop} {g : FuncId} {captured : List Value} {I : World → List (Nat × List UInt8) → World → Prop} {m : List (Nat × List UInt8)}, EachCB P w S okv g captured I (sortT m) → hasBody P g = true →
    ∀ {B o : Nat} {v : Value}, w.cell? ⟨B, o, none⟩ = some v → TagM okv w v m → m.length ≤ 2147483647 → (∀ p ∈ m, p.2.length ≤ 2147483647) → B ∉ S → (∀ r, v = .map (some r) → r ∉ S) → (∀ b ∈ S, b < w.heap.size) → (∀ b ∈ S, ¬ okv b) →
    (∀ wN, Mod [] w wN → I wN [] wN) → Calls P each [.pointer (some ⟨B, o, none⟩), .func (.func g) #[] captured.toArray].toArray w fun e w' => e = .returned (.tuple #[]) ∧ ∃ wN, Mod [] w wN ∧ I wN (sortT m) w' ∧ Mod S wN w'
  srt : ∀ {w : World} {ok : Nat → Prop} {v : Value} {ks : List Nat} {css : List (List Value)}, Pairs w ok v ks css → ks.Pairwise (· ≤ ·) → ks.length ≤ 2147483647 → Calls P srt [v].toArray w fun e w' => e = .returned (.tuple #[]) ∧ Mod [] w w'
theorem LRaw2.slcN {w : World} {n0 : Nat} {lv : Value} {css : List (List Value)} (h : LRaw2 w n0 lv css) : SlC (fun b => n0 ≤ b) w lv css.length css.flatten := by
  rcases h.sl with ⟨rfl, rfl⟩ | ⟨BA, cap, rest, rfl, h2, h3, h4, -⟩
  · exact SlC.nil
  · refine ⟨_, cap, rfl, h2, fun h => by simp at h, fun a ha _ => ?_⟩
    simp only [Option.some.injEq] at ha; subst ha
    refine ⟨h3, h4.lt, ?_⟩
    have := h4.cells.take css.flatten.length
    simpa using this
theorem RepU.pairs {ok ok' : Nat → Prop} {w : World} {v : Value} {us : List (Nat × List UInt8)} {ucs : List (List Value)} (h : RepU ok w us ucs) (hs : SlC ok' w v ucs.length ucs.flatten) : Pairs w ok' v (us.map (·.1)) ucs :=
  ⟨hs, by simpa using h.length, h.two, fun j k hk => by
    rw [List.getElem?_map] at hk
    cases hj : us[j]? with
    | none => rw [hj] at hk; simp at hk
    | some p =>
      rw [hj] at hk
      simp only [Option.map_some, Option.some.injEq] at hk
      subst hk
      obtain ⟨x, hx, -⟩ := h.nth hj
      exact ⟨x, hx⟩⟩
theorem tagBlks_wp {f1 each srt : FuncId} (hT : TagFs P f1 each srt) {t off Tb B base : Nat} {lv v : Value} {m : List (Nat × List UInt8)} {okv : Nat → Prop} {σ : Sl} {w : World} {Q : Exit → Sl → World → Prop} (ht : 4 ≤ t)
    (h0 : σ 0 = .pointer (some ⟨B, base, none⟩)) (h3 : σ 3 = .pointer (some ⟨Tb, 0, none⟩)) (htb : Blk w Tb [.int .i64 0, .slice none 0 0, .bool false, lv, .slice none 0 0]) (hc : w.cell? ⟨B, base + off, none⟩ = some v) (hM : TagM okv w v m)
    (hok : ∀ b, okv b → b ≠ Tb) (hBT : B ≠ Tb) (hr : ∀ r, v = .map (some r) → r ≠ Tb) (hlen : m.length ≤ 2147483647) (hmv : ∀ p ∈ m, p.2.length ≤ 2147483647)
    (hQ : ∀ σ' w' uv ucs, Ag t σ σ' → Mod [Tb] w w' → Blk w' Tb [.int .i64 0, .slice none 0 0, .bool false, lv, uv] → SlC (fun b => w.heap.size ≤ b) w' uv (sortT m).length ucs.flatten → RepU (fun b => w.heap.size ≤ b) w' (sortT m) ucs → Q .normal σ' w') :
    wpL P (tagBlks f1 each srt t off) Q σ w := by
  unfold tagBlks
  simp only [wpL]
  rw [wpC_blk]
  refine wpR_step (v := .pointer (some ⟨B, base, none⟩)) (congrArg some h0) ?_
  refine wpR_step (v := .pointer (some ⟨B, base, none⟩)) (by simp only [RK.val?, ev, updo, upd_same]) ?_
  refine wpR_step (v := .pointer (some ⟨B, base + off, none⟩)) (by simp only [RK.val?, ev, updo, upd_same, Addr.add_mk]) ?_
  refine wpR_step (v := .func (.func f1) #[] #[.pointer (some ⟨Tb, 0, none⟩)]) (by
    simp only [RK.val?, List.map_cons, List.map_nil, ev, updo, upd, show (3 : Nat) ≠ t + 2 by omega, show (3 : Nat) ≠ t + 1 by omega, show (3 : Nat) ≠ t by omega, if_false, h3]) ?_
  have hM' : TagM (fun b => okv b ∧ b < w.heap.size) w v m := by
    rcases hM with h | ⟨r, h1, h2⟩
    · exact .inl h
    · exact .inr ⟨r, h1, h2.mod (Mod.refl [] _) (by simp) (by simp) fun b hb hx => ⟨hx, hb⟩⟩
  have hcb : EachCB P w [Tb] (fun b => okv b ∧ b < w.heap.size) f1 [.pointer (some ⟨Tb, 0, none⟩)] (fun wN done w1 => ∃ uv ucs, TG wN w1 Tb lv uv done ucs) (sortT m) := by
    rintro wN done k l w1 v' _ hmN ⟨uv, ucs, hg⟩ hd _ hk hl hv'
    exact cb_step hT.mixed hT.cb hg hv' hl hk (fun b hb => Nat.lt_of_lt_of_le hb.2 hmN.size) hd
  refine wpR_call (vs := [.pointer (some ⟨B, base + off, none⟩), .func (.func f1) #[] [Value.pointer (some ⟨Tb, 0, none⟩)].toArray]) (by
      simp only [List.map_cons, List.map_nil, ev, updo, upd, show t + 2 ≠ t + 3 by omega, if_false, if_true])
    (hT.each hcb hT.body hc hM' hlen hmv (by simpa using hBT) (fun r e => by simpa using hr r e) (fun b hb => by simp only [List.mem_singleton] at hb; subst hb; exact htb.lt) (fun b hb hx => by simp only [List.mem_singleton] at hb; exact hok _ hx.1 hb)
      (fun wN hmN => ⟨.slice none 0 0, [], htb.mod hmN (by simp), ⟨by simp, .inl ⟨rfl, rfl⟩⟩, .nil, Mod.refl _ _, Nat.lt_of_lt_of_le htb.lt hmN.size⟩)) ?_
  rintro e w1 ⟨rfl, wN, hmN, ⟨uv, ucs, hg⟩, hm1⟩
  refine ⟨_, rfl, ?_⟩
  refine wpR_done ?_
  rw [wpC_blk]
  refine wpR_step (v := .pointer (some ⟨Tb, 4, none⟩)) (by
    simp only [RK.val?, ev, updo, upd, show (3 : Nat) ≠ t + 4 by omega, show (3 : Nat) ≠ t + 3 by omega, show (3 : Nat) ≠ t + 2 by omega, show (3 : Nat) ≠ t + 1 by omega, show (3 : Nat) ≠ t by omega, if_false, h3, Addr.add_mk, Nat.zero_add]) ?_
  refine wpR_step (v := uv) (by simp only [RK.val?, ev, updo, upd_same]; exact hg.tb.cell 4) ?_
  have hul := hg.rep.length
  have hsl : SlC (fun b => w.heap.size ≤ b) w1 uv (sortT m).length ucs.flatten := by
    rw [hul]; exact hg.raw.slcN.mod (Mod.refl [] _) (by simp) fun b _ hb => Nat.le_trans hmN.size hb
  refine wpR_call (vs := [uv]) (by simp only [List.map_cons, List.map_nil, ev, updo, upd_same]) (hT.srt (hg.rep.pairs (by rw [hul] at hsl; exact hsl)) (by rw [List.pairwise_map]; exact sortT_sorted m) (by
    have := (sortT_perm m).length_eq; simp; omega)) ?_
  rintro e w2 ⟨rfl, hm2⟩
  refine ⟨_, rfl, ?_⟩
  refine wpR_done ?_
  refine hQ _ w2 uv ucs (fun j hj => ?_) ((hmN.nil.trans hm1).trans hm2.nil) (hg.tb.mod hm2 (by simp)) (hsl.mod hm2 (by simp) fun _ _ h => h) (hg.rep.mod hm2 (by simp) fun b _ hb => Nat.le_trans hmN.size hb.1)
  simp only [updo, upd, show j ≠ t + 7 by omega, show j ≠ t + 6 by omega, show j ≠ t + 5 by omega, show j ≠ t + 4 by omega, show j ≠ t + 3 by omega, show j ≠ t + 2 by omega, show j ≠ t + 1 by omega, show j ≠ t by omega, if_false]
end
end Go.Msk

namespace Go.Msk
open Go.RowKit
set_option maxRecDepth 100000
def headC (t off : Nat) : List DI :=
  [nd ⟨some t, .fad (.tmp 3) 3, none⟩, nd ⟨some (t + 1), .ld (.tmp t), none⟩, nd ⟨some (t + 2), .mv (.tmp 0), none⟩, nd ⟨some (t + 3), .nilc (.tmp (t + 2)), none⟩, nd ⟨some (t + 4), .fad (.tmp (t + 3)) off, none⟩]
def subF (f : FuncId) (i t off : Nat) : IC :=
  .drw (headC t off ++ [⟨⟨some (t + 5), .call f [.tmp (t + 4)], none⟩, true, []⟩, ⟨⟨some (t + 6), .iad (.tmp (t + 1)) (.const (.int .i64 i)) 5, none⟩, false, [5]⟩])
    [⟨none, .st (.tmp (t + 6)) 5 (.tmp (t + 5)), none⟩]
def uidF (i t off : Nat) : IC :=
  .drw (headC t off ++ [nd ⟨some (t + 5), .slicea (.tmp (t + 4)) 16, none⟩, ⟨⟨some (t + 6), .append (.const (.slice none 0 0)) (.tmp (t + 5)) 1 1, none⟩, true, []⟩, ⟨⟨some (t + 7), .build tzero [(1, 1, .tmp (t + 6))], none⟩, false, [6]⟩,
      ⟨⟨some (t + 8), .iad (.tmp (t + 1)) (.const (.int .i64 i)) 5, none⟩, false, [6]⟩])
    [⟨none, .st (.tmp (t + 8)) 5 (.tmp (t + 7)), none⟩]
section
variable {P : Program}
theorem headC_walkB {t off Tb Lb n B base : Nat} {σ : Sl} {w : World} {r l : List DI} {Φ : Nat → Value → World → Prop} {E : Sl → Prop} (ht : 4 ≤ t)
    (h0 : σ 0 = .pointer (some ⟨B, base, none⟩)) (h3 : σ 3 = .pointer (some ⟨Tb, 0, none⟩)) (c3 : w.cell? ⟨Tb, 3, none⟩ = some (.slice (some ⟨Lb, 0, none⟩) n n))
    (h : ∀ σ', Ag t σ σ' → σ' (t + 1) = .slice (some ⟨Lb, 0, none⟩) n n → σ' (t + 4) = .pointer (some ⟨B, base + off, none⟩) → walkB P l Φ w E 5 r σ') : walkB P l Φ w E 0 (headC t off ++ r) σ := by
  simp only [headC, nd, List.cons_append, List.nil_append]
  refine walkB_step (v := .pointer (some ⟨Tb, 3, none⟩)) (by simp only [RK.val?, ev, h3, Addr.add_mk, Nat.zero_add]) ?_
  refine walkB_step (v := .slice (some ⟨Lb, 0, none⟩) n n) (by simp only [RK.val?, ev, updo, upd_same, c3]) ?_
  refine walkB_step (v := .pointer (some ⟨B, base, none⟩)) (by simp only [RK.val?, ev, updo, upd, show (0 : Nat) ≠ t by omega, show (0 : Nat) ≠ t + 1 by omega, if_false, h0]) ?_
  refine walkB_step (v := .pointer (some ⟨B, base, none⟩)) (by simp only [RK.val?, ev, updo, upd_same]) ?_
  refine walkB_step (v := .pointer (some ⟨B, base + off, none⟩)) (by simp only [RK.val?, ev, updo, upd_same, Addr.add_mk]) ?_
  refine h _ (fun j hj => ?_) ?_ ?_
  · simp only [updo, upd, show j ≠ t by omega, show j ≠ t + 1 by omega, show j ≠ t + 2 by omega, show j ≠ t + 3 by omega, show j ≠ t + 4 by omega, if_false]
  · simp only [updo, upd, show t + 1 ≠ t + 4 by omega, show t + 1 ≠ t + 3 by omega, show t + 1 ≠ t + 2 by omega, if_false, if_true]
  · simp only [updo, upd_same]
theorem putTree {i t Tb Lb n : Nat} {pre post : List Value} {tr : TR} {σ : Sl} {w w1 : World} {cs : List Value} {Q : Exit → Sl → World → Prop} {x y : Nat} {σ1 : Sl} (hw : TW w Tb Lb n (pre ++ (tzero ++ post))) (hpre : pre.length = i * 5)
    (hm : Mod [] w w1) (hrep : RepT (fun b => w.heap.size ≤ b) w1 tr cs) (ha : Ag t σ σ1) (hx : σ1 x = .pointer (some ⟨Lb, i * 5, none⟩)) (hy : σ1 y = .agg cs.toArray)
    (hQ : ∀ σ' w' cs, Ag t σ σ' → Mod [Lb] w w' → RepT (fun b => w.heap.size ≤ b) w' tr cs → TW w' Tb Lb n (pre ++ (cs ++ post)) → Q .normal σ' w') : wpR P [⟨none, .st (.tmp x) 5 (.tmp y), none⟩] σ1 w1 (Q .normal) := by
  have hlb1 : Blk w1 Lb (pre ++ (tzero ++ post)) := hw.lb.mod hm (by simp)
  have h5 := hrep.five
  have hput : Mod [Lb] w1 (putCells w1 ⟨Lb, i * 5, none⟩ 0 cs) := Mod.put (by simp)
  have ec : (Value.agg cs.toArray).cells = cs.toArray := rfl
  refine wpR_run ?_
  simp only [RK.run, ev, hx, hy, ec]
  refine ⟨by simp [h5], stOk_many hlb1 (by simp [tzero]; omega) (by simpa using hrep.oneCell), ?_⟩
  simp only [wpR]
  refine hQ _ _ cs (fun j hj => ha j hj) (hm.nil.trans hput) (hrep.mod hput (fun b hb => ?_) fun _ _ h => h) ⟨?_, ?_, hw.ne⟩
  · simp only [List.mem_singleton] at hb; subst hb; have := hw.lb.lt; omega
  · exact (hw.tb.mod hm (by simp)).mod hput (by simpa using hw.ne)
  · have := hlb1.put (o := i * 5) (vs := cs) (by simp [tzero]; omega)
    rwa [splice_mid hpre (by simp [h5, tzero])] at this
theorem subF_wp {f : FuncId} {T : List GV → Prop} (hf : TellS P f T) {i t off Tb Lb n B base : Nat} {O : List Nat} {pre post : List Value} {gl : List GV} {css : List (List Value)} {σ : Sl} {w : World} {Q : Exit → Sl → World → Prop} (ht : 4 ≤ t)
    (h0 : σ 0 = .pointer (some ⟨B, base, none⟩)) (h3 : σ 3 = .pointer (some ⟨Tb, 0, none⟩)) (hw : TW w Tb Lb n (pre ++ (tzero ++ post))) (hpre : pre.length = i * 5) (hi : i < n)
    (hg : T gl) (hr : RepL O w gl css) (hc : Cells w ⟨B, base + off, none⟩ css.flatten)
    (hQ : ∀ σ' w' cs, Ag t σ σ' → Mod [Lb] w w' → RepT (fun b => w.heap.size ≤ b) w' (GV.rcd gl).told cs → TW w' Tb Lb n (pre ++ (cs ++ post)) → Q .normal σ' w') : wpC P (subF f i t off) Q σ w := by
  have c3' : w.drew.cell? ⟨Tb, 3, none⟩ = some (.slice (some ⟨Lb, 0, none⟩) n n) := hw.tb.cell 3
  unfold subF
  simp only [wpC]
  refine wpD_of_B (fun _ v w1 => ∃ cs, v = .agg cs.toArray ∧ RepT (fun b => w.heap.size ≤ b) w1 (GV.rcd gl).told cs) (fun _ v w1 w2 h hm => ?_) (headC_walkB ht h0 h3 c3' fun σ1 a1 s1 s4 => ?_)
  · obtain ⟨cs, h1, h2⟩ := h
    exact ⟨cs, h1, h2.mod hm (by simp) fun _ _ h => h⟩
  refine walkB_node (fun w1 hm1 _ => ?_) fun u hu => ?_
  · simp only [RK.run, ev, s4, List.map_cons, List.map_nil]
    have hm1' : Mod [] w w1 := (Mod.drew _ _).trans hm1
    refine (hf O w1 B (base + off) gl css hg (hr.fresh hm1' (by simp) (fun x hx => .inl hx)) (hc.mod hm1' (.inr (by simp)))).mono ?_
    rintro e w2 ⟨cs, rfl, hrep, hm2⟩
    exact ⟨_, rfl, hm2, cs, rfl, hrep.mod (Mod.refl [] _) (by simp) fun b _ hb => Nat.le_trans hm1'.size hb⟩
  refine walkB_step (v := .pointer (some ⟨Lb, i * 5, none⟩)) (by
      simp only [RK.val?, ev, updo, upd, show t + 1 ≠ t + 5 by omega, if_false, s1]
      rw [if_pos (by omega)]; simp [Addr.add_mk]) ?_
  simp only [walkB]
  intro w1 hm1 hkn
  have h6 := hkn 5 (by simp [headC]) ⟨⟨some (t + 5), .call f [.tmp (t + 4)], none⟩, true, []⟩ (by simp [headC]) rfl rfl (t + 5) rfl
  obtain ⟨cs, e1, h6⟩ := h6
  refine putTree hw hpre ((Mod.drew [] w).trans hm1) h6 (fun j hj => ?_) (by simp only [updo, upd_same]) e1 hQ
  simp only [updo, upd, show j ≠ t + 6 by omega, show j ≠ t + 5 by omega, if_false]
  exact a1 j hj
theorem uidF_wp {i t off Tb Lb n B base : Nat} {pre post : List Value} {l : List UInt8} {σ : Sl} {w : World} {Q : Exit → Sl → World → Prop} (ht : 4 ≤ t)
    (h0 : σ 0 = .pointer (some ⟨B, base, none⟩)) (h3 : σ 3 = .pointer (some ⟨Tb, 0, none⟩)) (hw : TW w Tb Lb n (pre ++ (tzero ++ post))) (hpre : pre.length = i * 5) (hi : i < n)
    (hl : l.length = 16) (hc : Cells w ⟨B, base + off, none⟩ (u8s l)) (hB : B < w.heap.size)
    (hQ : ∀ σ' w' cs, Ag t σ σ' → Mod [Lb] w w' → RepT (fun b => w.heap.size ≤ b) w' (GV.arr l).told cs → TW w' Tb Lb n (pre ++ (cs ++ post)) → Q .normal σ' w') : wpC P (uidF i t off) Q σ w := by
  have c3' : w.drew.cell? ⟨Tb, 3, none⟩ = some (.slice (some ⟨Lb, 0, none⟩) n n) := hw.tb.cell 3
  unfold uidF
  simp only [wpC]
  refine wpD_of_B (fun _ v w1 => SlC (fun b => w.heap.size ≤ b) w1 v l.length (u8s l)) (fun _ v w1 w2 h hm => h.mod hm (by simp) fun _ _ h => h) (headC_walkB ht h0 h3 c3' fun σ1 a1 s1 s4 => ?_)
  refine walkB_step (v := .slice (some ⟨B, base + off, none⟩) 16 16) (by simp only [RK.val?, ev, s4]) ?_
  refine walkB_node (fun w1 hm1 _ => ?_) fun u hu => ?_
  · have hm1' : Mod [] w w1 := (Mod.drew _ _).trans hm1
    refine appendNil_bytes (v := .slice (some ⟨B, base + off, none⟩) 16 16) (l := l) (ok := fun _ => True) (by simp only [ev, updo, upd_same])
      ⟨_, 16, by rw [hl], by omega, fun h => by simp at h, fun a ha _ => by
        simp only [Option.some.injEq] at ha; subst ha
        exact ⟨trivial, Nat.lt_of_lt_of_le hB hm1'.size, hc.mod hm1' (.inr (by simp))⟩⟩ (by omega) fun b c w2 hb _ hge hm2 => ⟨hm2, ?_⟩
    exact hb.slc fun a ha => ⟨Nat.le_trans hm1'.size (hge a ha).1, (hge a ha).2⟩
  obtain ⟨wu, b4, c4, rfl, -⟩ := hu
  refine walkB_step (v := .agg #[.int .i64 0, .slice b4 l.length c4, .bool false, .slice none 0 0, .slice none 0 0]) (by
    simp only [RK.val?, ev, updo, upd_same, tzero, fillL, List.map_cons, List.map_nil, Value.cells]; simp [splice]) ?_
  refine walkB_step (v := .pointer (some ⟨Lb, i * 5, none⟩)) (by
      simp only [RK.val?, ev, updo, upd, show t + 1 ≠ t + 5 by omega, show t + 1 ≠ t + 6 by omega, show t + 1 ≠ t + 7 by omega, if_false, s1]
      rw [if_pos (by omega)]; simp [Addr.add_mk]) ?_
  simp only [walkB]
  intro w1 hm1 hkn
  have h6 := hkn 6 (by simp [headC]) ⟨⟨some (t + 6), .append (.const (.slice none 0 0)) (.tmp (t + 5)) 1 1, none⟩, true, []⟩ (by simp [headC]) rfl rfl (t + 6) rfl
  simp only [updo, upd, show t + 6 ≠ t + 8 by omega, show t + 6 ≠ t + 7 by omega, if_false, if_true] at h6
  refine putTree (cs := [.int .i64 0, .slice b4 l.length c4, .bool false, .slice none 0 0, .slice none 0 0]) hw hpre ((Mod.drew [] w).trans hm1) (by simpa only [GV.told] using RepT.oct false h6) (fun j hj => ?_) (by simp only [updo, upd_same]) (by
    simp only [updo, upd, show t + 7 ≠ t + 8 by omega, if_false, if_true]) hQ
  simp only [updo, upd, show j ≠ t + 8 by omega, show j ≠ t + 7 by omega, show j ≠ t + 6 by omega, show j ≠ t + 5 by omega, if_false]
  exact a1 j hj
end
end Go.Msk
