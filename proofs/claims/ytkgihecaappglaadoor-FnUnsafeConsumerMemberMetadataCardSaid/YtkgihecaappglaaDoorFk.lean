/- A small language of resolved operations, and what the generic and the generated functions do in it (part 11). -/
import Derived.Test.YtkgihecaappglaaDoorFj

namespace Go.Msk
open Go.RowKit
set_option maxRecDepth 100000
section
variable {P : Program} {F : Nat → Nat}
attribute [local simp] bnd wpC wpR RI.wp gOk RK.run thenC inBlockC updo upd ev args0 postC rvals RV.val tup_one isShift
theorem appendNil_run {σ : Sl} {w : World} {x : Operand} {v : Value} {l : List UInt8} {ok : Nat → Prop} {K : Value → World → Prop} (hx : ev σ x = v) (hv : SlC ok w v l.length (u8s l)) (hl : l.length ≤ 2147483647)
    (hK : ∀ v' w', SlC (fun b => w.heap.size ≤ b) w' v' l.length (u8s l) → Mod [] w w' → K v' w') : (RK.append (.const (.slice none 0 0)) x 1 1).run P σ w K := by
  obtain ⟨base, cap, rfl, hcap, hb0, hb⟩ := hv
  have hsrc : srcCells w 1 (.slice base l.length cap) = some (l.length, u8s l) := by
    cases base with
    | none => have := hb0 rfl; have : l = [] := List.length_eq_zero_iff.1 (by omega); subst this; simp [srcCells, u8s]
    | some a =>
      by_cases hc0 : 0 < cap
      · obtain ⟨h1, h2, h3⟩ := hb a rfl hc0
        simp only [srcCells, Nat.mul_one]
        rw [cellsAt_of' h3 (u8s_length l)]; rfl
      · have : l = [] := List.length_eq_zero_iff.1 (by omega)
        subst this; simp [srcCells, cellsAt, u8s]
  have e1 : ev σ (.const (.slice none 0 0)) = .slice none 0 0 := rfl
  simp only [RK.run, e1, hx, hsrc, appendRun]
  by_cases h0 : l.length = 0
  · have : l = [] := List.length_eq_zero_iff.1 h0
    subst this
    simp only [List.length_nil, Nat.add_zero, Nat.le_refl, if_true]
    exact hK _ _ SlC.nil (Mod.refl _ _)
  · rw [if_neg (by omega)]
    refine ⟨by omega, by omega, ?_⟩
    intro T cap' rest hc hr
    refine hK _ _ ⟨some ⟨w.heap.size, 0, none⟩, cap', by simp, by simpa using hc, fun h => by simp at h, fun a ha _ => ?_⟩ ((Mod.drew _ _).trans (Mod.alloc _ _ _))
    simp only [Option.some.injEq] at ha; subst ha
    have hblk := Blk.new w.drew (u8s l ++ rest) T
    refine ⟨Nat.le_refl _, hblk.lt, ?_⟩
    have := hblk.cells.take (u8s l).length
    simpa using this
theorem OctX.slc {O : List Nat} {w : World} {v : Value} {o : Option (List UInt8)} (h : OctX O w v o) : SlC (fun _ => True) w v (o.getD []).length (u8s (o.getD [])) ∧ ∃ b n c, v = .slice b n c ∧ b.isNone = o.isNone := by
  obtain ⟨h1, h2⟩ := h
  cases o with
  | none => simp only [IsOct] at h1; subst h1; exact ⟨SlC.nil, _, _, _, rfl, rfl⟩
  | some l =>
    obtain ⟨a, n, c, rfl, hb⟩ := h1
    refine ⟨⟨some a, c, by rw [hb.hlen]; rfl, by have := hb.hcap; have := hb.hlen; simp only [Option.getD_some]; omega, fun h => by simp at h, fun a' e _ => ?_⟩, _, _, _, rfl, rfl⟩
    simp only [Option.some.injEq] at e; subst e
    exact ⟨trivial, (h2 a n c rfl).2, hb.hcells a rfl⟩
theorem treeRet {σ : Sl} {w w0 : World} {t b2 : Nat} {cs : List Value} {tr : TR} (h2 : σ 2 = .pointer (some ⟨b2, 0, none⟩)) (hb : Blk w b2 tzero) (ht : σ t = .agg cs.toArray) (hrep : RepT (fun b => w0.heap.size ≤ b ∧ b ≠ b2) w tr cs)
    (hm : Mod [b2] w0 w) (hw0 : w0.heap.size ≤ b2) : wpR P [⟨none, .st (.tmp 2) 5 (.tmp t), none⟩] σ w (fun σ' w' => postC [.cells 2 5] (fun e w' => ∃ cs, e = .returned (.agg cs.toArray) ∧ RepT (fun b => w0.heap.size ≤ b) w' tr cs ∧ Mod [] w0 w') .ret σ' w') := by
  have h5 := hrep.five
  have hput : Mod [b2] w (putCells w ⟨b2, 0, none⟩ 0 cs) := Mod.put (by simp)
  have hp := hb.put (o := 0) (vs := cs) (by simp [h5, tzero])
  rw [splice_all (by rw [h5]; rfl)] at hp
  have ec : (Value.agg cs.toArray).cells = cs.toArray := rfl
  simp only [wpR, RI.wp, gOk, if_true, RK.run, ev, h2, ht, ec, updo]
  refine ⟨by simp [h5], stOk_many hb (by simp [h5, tzero]) (by simpa using hrep.oneCell), ?_⟩
  simp only [postC, rvals, List.mapM_cons, List.mapM_nil, RV.val, h2, cellsAt_of' hp.cells h5, Option.bind_eq_bind, Option.map_some, Option.bind_some, Option.pure_def, tup_one]
  exact ⟨cs, rfl, hrep.mod hput (fun b hb hx => by simp only [List.mem_singleton] at hb; exact hx.2 hb) (fun b _ hb => hb.1), Mod.drop (b := b2) (S := []) (hm.trans hput) hw0⟩
theorem octetsTree_ok (hm : P.follows .mixedOrders = true) (h : liftF P (F iOctetsTree) = some (ir_iOctetsTree F)) : (TK.oct (F iOctetsTree)).Ok P := by
  intro O w g v hg hr
  obtain ⟨o, rfl, hl⟩ := hg
  have ho : OctX O w v o := by cases hr with | byt h => exact h
  obtain ⟨hs, b, n, c, rfl, hbn⟩ := ho.slc
  refine call_of h hm (by simp) ?_
  rw [wpC_seq, wpC_blk]
  refine wpR_run ?_
  intro T
  have hb2 : Blk (w.alloc (.cells tzero.toArray T)) w.heap.size tzero := Blk.new w tzero T
  have hm1 : Mod [] w (w.alloc (.cells tzero.toArray T)) := Mod.alloc _ _ _
  have hs1 := hs.mod (ok' := fun _ => True) hm1 (by simp) fun _ _ h => h
  have hz : ([Value.int .i64 0, .slice none 0 0, .bool false, .slice none 0 0, .slice none 0 0] : List Value) = tzero := rfl
  rw [hz]
  have hsz : (w.alloc (.cells tzero.toArray T)).heap.size = w.heap.size + 1 := by simp
  generalize w.alloc (.cells tzero.toArray T) = w1 at hb2 hm1 hs1 hsz ⊢
  have a0 : args0 [.slice b n c] 0 = .slice b n c := rfl
  generalize args0 [.slice b n c] = σ0 at a0 ⊢
  show wpC P (.seq _ _) _ _ _
  rw [wpC_seq, wpC_blk]
  refine wpR_step (v := .slice b n c) (by simp [RK.val?, a0]) ?_
  refine wpR_run ?_
  refine appendNil_run (v := .slice b n c) (by simp) hs1 (by cases o with | none => simp | some l => exact hl l rfl) fun v' w2 hv' hm2 => ?_
  have ht : GV.told (.byt o) = .mk 0 (o.getD []) o.isNone [] [] := by cases o <;> rfl
  rw [ht]
  obtain ⟨b', c', rfl, -⟩ := id hv'
  refine wpR_step (v := .slice b n c) (by simp [RK.val?, a0]) ?_
  refine wpR_step (v := .bool o.isNone) (by simp [RK.val?, hbn]) ?_
  refine wpR_step (v := .agg [.int .i64 0, .slice b' (o.getD []).length c', .bool o.isNone, .slice none 0 0, .slice none 0 0].toArray) (by simp [RK.val?, fillL, tzero, splice, Value.cells]) ?_
  refine treeRet (by simp) (hb2.mod hm2 (by simp)) (by simp) (RepT.oct _ (hv'.mod (Mod.refl [] _) (by simp) fun x _ hx => ⟨by omega, by omega⟩)) ((hm1.trans hm2).nil) (Nat.le_refl _)
theorem textTree_ok (hm : P.follows .mixedOrders = true) (h : liftF P (F iTextTree) = some (ir_iTextTree F)) : (TK.txt (F iTextTree)).Ok P := by
  intro O w g v hg hr
  obtain ⟨o, rfl⟩ := hg
  refine call_of h hm (by simp) ?_
  rw [wpC_seq, wpC_blk]
  refine wpR_run ?_
  intro T
  have hb2 : Blk (w.alloc (.cells tzero.toArray T)) w.heap.size tzero := Blk.new w tzero T
  have hm1 : Mod [] w (w.alloc (.cells tzero.toArray T)) := Mod.alloc _ _ _
  have hr1 := hr.mod hm1 (by simp)
  have hz : ([Value.int .i64 0, .slice none 0 0, .bool false, .slice none 0 0, .slice none 0 0] : List Value) = tzero := rfl
  rw [hz]
  have hsz : (w.alloc (.cells tzero.toArray T)).heap.size = w.heap.size + 1 := by simp
  generalize w.alloc (.cells tzero.toArray T) = w1 at hb2 hm1 hr1 hsz ⊢
  have a0 : args0 [v] 0 = v := rfl
  generalize args0 [v] = σ0 at a0 ⊢
  show wpC P (.seq (.seq _ _) _) _ _ _
  rw [wpC_seq, wpC_seq, wpC_blk]
  refine wpR_step (v := v) (by simp [RK.val?, a0]) ?_
  cases o with
  | none =>
    have hv : v = .pointer none := by cases hr with | nstr0 => rfl
    subst hv
    refine wpR_step (v := .bool true) (by simp [RK.val?]) ?_
    simp only [wpR, thenC]
    rw [wpC_cond_t (by simp), wpC_seq, wpC_blk]
    refine wpR_step (v := .agg [.int .i64 0, .slice none 0 0, .bool true, .slice none 0 0, .slice none 0 0].toArray) (by simp [RK.val?, fillL, tzero, splice, Value.cells]) ?_
    exact treeRet (by simp) hb2 (by simp) (RepT.num 0 true) hm1.nil (Nat.le_refl _)
  | some l =>
    obtain ⟨b, rfl, hcell⟩ : ∃ b, v = .pointer (some ⟨b, 0, none⟩) ∧ w1.cell? ⟨b, 0, none⟩ = some (str l) := by
      cases hr1 with | nstr1 h1 h2 => exact ⟨_, rfl, h2⟩
    refine wpR_step (v := .bool false) (by simp [RK.val?]) ?_
    simp only [wpR, thenC]
    rw [wpC_cond_f (by simp), wpC_skip]
    simp only [thenC]
    rw [wpC_seq, wpC_blk]
    refine wpR_step (v := .pointer (some ⟨b, 0, none⟩)) (by simp [RK.val?, a0]) ?_
    refine wpR_step (v := .pointer (some ⟨b, 0, none⟩)) (by simp [RK.val?]) ?_
    refine wpR_step (v := str l) (by simp [RK.val?, hcell]) ?_
    refine wpR_run ?_
    simp only [RK.run, ev, updo, upd_same, str]
    intro T2 cap rest hcap hrest
    have hsz2 : (⟨l.toArray⟩ : ByteArray).size = l.length := by simp [ByteArray.size]
    rw [hsz2] at hcap hrest ⊢
    have hblk := Blk.new' w1.drew (u8s l ++ rest) T2 (cap, cap + 1) (by simp only [List.length_append, u8s_length]; omega)
    have hm2 : Mod [] w1 (w1.drew.alloc (.cells (u8s l ++ rest).toArray T2 (cap, cap + 1))) := (Mod.drew _ _).trans (Mod.alloc _ _ _)
    have hs : SlC (fun x => w.heap.size ≤ x ∧ x ≠ w.heap.size) (w1.drew.alloc (.cells (u8s l ++ rest).toArray T2 (cap, cap + 1))) (.slice (some ⟨w1.heap.size, 0, none⟩) l.length cap) l.length (u8s l) := by
      refine ⟨some ⟨w1.heap.size, 0, none⟩, cap, rfl, hcap, fun h => by simp at h, fun a ha _ => ?_⟩
      simp only [Option.some.injEq] at ha; subst ha
      refine ⟨⟨show w.heap.size ≤ w1.heap.size by omega, show w1.heap.size ≠ w.heap.size by omega⟩, hblk.lt, ?_⟩
      have := hblk.cells.take (u8s l).length
      simpa using this
    refine wpR_step (v := .agg [.int .i64 0, .slice (some ⟨w1.heap.size, 0, none⟩) l.length cap, .bool false, .slice none 0 0, .slice none 0 0].toArray) (by simp [RK.val?, fillL, tzero, splice, Value.cells]) ?_
    exact treeRet (by simp) (hb2.mod hm2 (by simp)) (by simp) (RepT.oct _ hs) ((hm1.trans hm2).nil) (Nat.le_refl _)
end
end Go.Msk

namespace Go.Msk
open Go.RowKit
set_option maxRecDepth 100000
theorem SlC.get {ok : Nat → Prop} {w : World} {v : Value} {l : List UInt8} (h : SlC ok w v l.length (u8s l)) {i : Nat} (hi : i < l.length) :
    ∃ a c b, v = .slice (some a) l.length c ∧ l[i]? = some b ∧ w.cell? (a.add (i * 1)) = some (.int .u8 b.toNat) := by
  obtain ⟨base, cap, rfl, h2, h3, h4⟩ := h
  cases base with
  | none => have := h3 rfl; omega
  | some a =>
    obtain ⟨-, -, hc⟩ := h4 a rfl (by omega)
    have hb : l[i]? = some l[i] := List.getElem?_eq_getElem hi
    exact ⟨a, cap, l[i], rfl, hb, by rw [Nat.mul_one]; exact hc.nth (by rw [u8s_get, hb]; rfl)⟩
theorem SlC.shape {ok : Nat → Prop} {w : World} {v : Value} {n : Nat} {cs : List Value} (h : SlC ok w v n cs) : ∃ b c, v = .slice b n c := by
  obtain ⟨base, cap, rfl, -⟩ := h; exact ⟨_, _, rfl⟩
theorem u8_ne (a b : UInt8) : ((a.toNat : Int) != b.toNat) = (a != b) := by
  by_cases h : a = b
  · subst h; simp
  · have h1 : (a != b) = true := by simpa using h
    have h2 : ((a.toNat : Int) != b.toNat) = true := by
      simp only [bne_iff_ne, ne_eq, Int.natCast_inj]
      exact fun e => h (UInt8.toNat_inj.1 e)
    rw [h1, h2]
section
variable {P : Program} {F : Nat → Nat}
attribute [local simp] bnd wpC wpR RI.wp gOk RK.run thenC inBlockC updo upd ev args0 postC rvals RV.val tup_one isShift
theorem same_call (hm : P.follows .mixedOrders = true) (h : liftF P (F sSame) = some (ir_sSame F)) {ok : Nat → Prop} {w : World} {v1 v2 : Value} {l1 l2 : List UInt8} (h1 : SlC ok w v1 l1.length (u8s l1)) (h2 : SlC ok w v2 l2.length (u8s l2))
    (hl : l1.length ≤ 4611686018427387904) : Calls P (F sSame) [v1, v2].toArray w fun e w' => e = .returned (.bool (decide (l1 = l2))) ∧ Mod [] w w' := by
  refine call_of h hm (by simp) ?_
  obtain ⟨b1, c1, e1⟩ := h1.shape
  obtain ⟨b2, c2, e2⟩ := h2.shape
  have a0 : args0 [v1, v2] 0 = v1 := rfl
  have a1 : args0 [v1, v2] 1 = v2 := rfl
  generalize args0 [v1, v2] = σ0 at a0 a1 ⊢
  rw [wpC_seq, wpC_blk]
  refine wpR_step (v := .bool false) (by simp [RK.val?]) ?_
  simp only [wpR, thenC]
  rw [wpC_seq, wpC_seq, wpC_blk]
  refine wpR_step (v := v1) (by simp [RK.val?, a0]) ?_
  refine wpR_step (v := .int .i64 l1.length) (by simp [RK.val?, e1]) ?_
  refine wpR_step (v := v2) (by simp [RK.val?, a1]) ?_
  refine wpR_step (v := .int .i64 l2.length) (by simp [RK.val?, e2]) ?_
  refine wpR_step (v := .bool ((l1.length : Int) != l2.length)) (by simp [RK.val?, intBin]) ?_
  simp only [wpR, thenC]
  by_cases hlen : l1.length = l2.length
  · have hb : ((l1.length : Int) != l2.length) = false := by simp [hlen]
    rw [wpC_cond_f (by simp [hb]), wpC_skip]
    simp only [thenC]
    rw [wpC_seq, wpC_seq, wpC_blk]
    refine wpR_step (v := v1) (by simp [RK.val?, a0]) ?_
    refine wpR_step (v := .int .i64 l1.length) (by simp [RK.val?, e1]) ?_
    refine wpR_step (v := .int .i64 0) (by simp [RK.val?]) ?_
    simp only [wpR, thenC]
    rw [wpC_block, wpC_loop]
    refine ⟨fun σ1 w1 => ∃ i, i ≤ l1.length ∧ σ1 13 = .int .i64 i ∧ σ1 12 = .int .i64 l1.length ∧ σ1 0 = v1 ∧ σ1 1 = v2 ∧ Mod [] w w1 ∧ ∀ k, k < i → l1[k]? = l2[k]?,
      fun σ1 _ => l1.length - (match σ1 13 with | .int _ j => j.toNat | _ => 0), ⟨0, Nat.zero_le _, by simp, by simp, by simp [a0], by simp [a1], Mod.refl _ _, by simp⟩, ?_⟩
    rintro σ1 w1 ⟨i, hi, h13, h12, hv1, hv2, hm1, hpre⟩
    rw [wpC_seq, wpC_blk]
    refine wpR_step (v := .bool (decide ((i : Int) < l1.length))) (by simp [RK.val?, h13, h12, intBin]) ?_
    simp only [wpR, thenC]
    rw [wpC_seq]
    by_cases hlt : i < l1.length
    · rw [wpC_cond_t (by simp [hlt]), wpC_skip]
      simp only [thenC]
      rw [wpC_seq, wpC_block, wpC_seq, wpC_blk]
      refine wpR_step (v := .int .i64 i) (by simp [RK.val?, h13]) ?_
      refine wpR_step (v := .int .i64 i) (by simp [RK.val?]) ?_
      simp only [wpR, thenC]
      have hm2 : Mod [] w w1.drew := hm1.trans (Mod.drew _ _)
      obtain ⟨p1, d1, x1, f1, f2, f3⟩ := (h1.mod (ok' := ok) hm2 (by simp) fun _ _ h => h).get hlt
      obtain ⟨p2, d2, x2, f4, f5, f6⟩ := (h2.mod (ok' := ok) hm2 (by simp) fun _ _ h => h).get (hlen ▸ hlt)
      rw [wpC_seq]
      show wpD P _ _ _ _ _
      refine wpD_pure rfl ?_
      simp only [List.map_cons, List.map_nil, List.append_nil]
      refine wpR_step (v := v1) (by simp [RK.val?, hv1]) ?_
      refine wpR_step (v := .int .i64 i) (by simp [RK.val?]) ?_
      refine wpR_step (v := .pointer (some (p1.add (i * 1)))) (by simp [RK.val?, f1, hlt]) ?_
      refine wpR_step (v := .int .u8 x1.toNat) (by simp [RK.val?]; simpa using f3) ?_
      refine wpR_step (v := v2) (by simp [RK.val?, hv2]) ?_
      refine wpR_step (v := .int .i64 i) (by simp [RK.val?]) ?_
      refine wpR_step (v := .pointer (some (p2.add (i * 1)))) (by simp [RK.val?, f4, ← hlen, hlt]) ?_
      refine wpR_step (v := .int .u8 x2.toNat) (by simp [RK.val?]; simpa using f6) ?_
      refine wpR_step (v := .bool (x1 != x2)) (by simp [RK.val?, intBin, u8_ne]) ?_
      simp only [wpR, thenC]
      by_cases hx : x1 = x2
      · subst hx
        rw [wpC_cond_f (by simp), wpC_skip]
        have hw : IntKind.i64.wrap ((i : Int) + 1) = ((i + 1 : Nat) : Int) := by
          simp only [IntKind.wrap, IntKind.bits, IntKind.signed]; simp; omega
        simp only [inBlockC, thenC]
        rw [wpC_blk]
        refine wpR_step (v := .int .i64 ((i + 1 : Nat) : Int)) (by simp [RK.val?, intBin, h13, hw]) ?_
        refine wpR_step (v := .int .i64 ((i + 1 : Nat) : Int)) (by simp [RK.val?]) ?_
        simp only [wpR, thenC]
        refine ⟨⟨i + 1, hlt, by simp, by simp [h12], by simp [hv1], by simp [hv2], hm2, fun k hk => ?_⟩, ?_⟩
        · rcases Nat.lt_or_ge k i with hk' | hk'
          · exact hpre k hk'
          · have : k = i := by omega
            subst this; rw [f2, f5]
        · simp [h13]; show l1.length - (i + 1) < l1.length - i; omega
      · rw [wpC_cond_t (by simp [hx]), wpC_seq, wpC_blk]
        refine wpR_step (v := .bool false) (by simp [RK.val?]) ?_
        have hne : l1 ≠ l2 := fun e => by subst e; rw [f2] at f5; simp at f5; exact hx f5
        simp [hne, hm2]
    · rw [wpC_cond_f (by simp; omega)]
      have hie : i = l1.length := by omega
      have heq : l1 = l2 := by
        apply List.ext_getElem? ; intro k
        rcases Nat.lt_or_ge k l1.length with hk | hk
        · exact hpre k (by omega)
        · rw [List.getElem?_eq_none hk, List.getElem?_eq_none (by omega)]
      simp [heq, hm1]
  · have hb : ((l1.length : Int) != l2.length) = true := by simp; omega
    rw [wpC_cond_t (by simp [hb]), wpC_seq, wpC_blk]
    refine wpR_step (v := .bool false) (by simp [RK.val?]) ?_
    have hne : l1 ≠ l2 := fun e => hlen (by rw [e])
    simp [hne, Mod.refl]
end
end Go.Msk

namespace Go.Msk
open Go.RowKit
set_option maxRecDepth 100000
def GotAt (P : Program) (f : FuncId) (t : TR) : Prop :=
  ∀ (N : Nat) (w : World) (cs : List Value), N ≤ w.heap.size → RepT (fun b => b < N) w t cs →
    Calls P f [.agg cs.toArray].toArray w fun e w' => ∃ cs', e = .returned (.agg cs'.toArray) ∧ RepT (fun b => b < N ∨ w.heap.size ≤ b) w' t cs' ∧ Mod [] w w'
structure LRaw2 (w : World) (n0 : Nat) (lv : Value) (css : List (List Value)) : Prop where
  two : ∀ cs ∈ css, cs.length = 2
  sl : (lv = .slice none 0 0 ∧ css = []) ∨ ∃ BA cap rest, lv = .slice (some ⟨BA, 0, none⟩) css.length cap ∧ css.length ≤ cap ∧ n0 ≤ BA ∧ Blk w BA (css.flatten ++ rest) ∧ rest.length = (cap - css.length) * 2
section
variable {P : Program} {F : Nat → Nat}
attribute [local simp] bnd wpC wpR RI.wp gOk RK.run thenC inBlockC updo upd ev args0 postC rvals RV.val tup_one isShift
structure GS (w3 w : World) (Ob : Nat) (n : Int) (sv lv uv : Value) (null : Bool) (N : Nat) (ts : List TR) (tcs : List (List Value)) : Prop where
  ob : Blk w Ob [.int .i64 n, sv, .bool null, lv, uv]
  raw : LRaw w w3.heap.size lv tcs
  rep : RepTL (fun b => b < N ∨ (w3.heap.size ≤ b ∧ own lv ≠ some b)) w ts tcs
  mod : Mod [Ob] w3 w
  lob : Ob < w3.heap.size
  nob : N ≤ Ob
theorem GS.same {w3 w w' : World} {Ob : Nat} {n : Int} {sv lv uv : Value} {null : Bool} {N : Nat} {ts : List TR} {tcs : List (List Value)} (h : GS w3 w Ob n sv lv uv null N ts tcs) (hm : Mod [] w w') : GS w3 w' Ob n sv lv uv null N ts tcs :=
  ⟨h.ob.mod hm (by simp), h.raw.mod hm (by simp), h.rep.mod hm (by simp) (fun _ _ h => h), h.mod.trans hm.nil, h.lob, h.nob⟩
theorem GS.step {w3 w wr : World} {Ob : Nat} {n : Int} {sv lv uv : Value} {null : Bool} {N : Nat} {ts : List TR} {tcs : List (List Value)} {t : TR} {es : List Value} {sb : Nat} {σ : Sl} {x y a : Operand} {d1 d2 : Nat} {Q : Sl → World → Prop} (h : GS w3 w Ob n sv lv uv null N ts tcs)
    (hx : ev σ x = lv) (hy : ev σ y = .slice (some ⟨sb, 0, none⟩) 1 1) (hsb : Blk w sb es) (ht : RepT (fun b => b < N ∨ wr.heap.size ≤ b) w t es) (hlen : tcs.length ≤ 2147483647)
    (hwr : ∀ b, own lv = some b → b < wr.heap.size) (hwr3 : w3.heap.size ≤ wr.heap.size) (ha : ∀ v, ev (upd σ d1 v) a = .pointer (some ⟨Ob, 0, none⟩)) (hd : d1 ≠ d2)
    (hQ : ∀ w' lv', GS w3 w' Ob n sv lv' uv null N (ts ++ [t]) (tcs ++ [es]) → Q (upd (upd σ d1 lv') d2 (.pointer (some ⟨Ob, 3, none⟩))) w') :
    wpR P [⟨some d1, .append x y 5 88, none⟩, ⟨some d2, .fad a 3, none⟩, ⟨none, .st (.tmp d2) 1 (.tmp d1), none⟩] σ w Q := by
  have hlob := h.lob
  have hnob := h.nob
  refine wpR_run ?_
  refine append_tree hx h.raw h.mod.size hy hsb ht.five ht.oneCell hlen fun lv' w1 hraw1 hown => ?_
  refine wpR_step (v := .pointer (some ⟨Ob, 3, none⟩)) (by
    show (RK.fad a 3).val? (upd σ d1 lv') w1 = _
    simp only [RK.val?, ha lv', Addr.add_mk, Nat.zero_add]) ?_
  obtain ⟨o1, o2⟩ := hraw1.one
  have hge : ∀ b, own lv = some b → w3.heap.size ≤ b := fun b hb => (h.raw.own hb).1
  have hge' : ∀ b, own lv' = some b → w3.heap.size ≤ b := fun b hb => (hraw1.own hb).1
  -- the world behind the append
  have key : Blk w1 Ob [.int .i64 n, sv, .bool null, lv, uv] ∧ Mod [Ob] w3 w1 ∧ RepTL (fun b => b < N ∨ (w3.heap.size ≤ b ∧ own lv' ≠ some b)) w1 (ts ++ [t]) (tcs ++ [es]) := by
    rcases hown with ⟨⟨ho, hm⟩, -⟩ | ⟨ho, hm⟩
    · have hS : ∀ b ∈ (own lv).toList, own lv = some b := fun b hb => by simpa using hb
      refine ⟨h.ob.mod hm (fun hc => by have := hge _ (hS _ hc); omega), ?_, (h.rep.mod hm (fun b hb hc => ?_) (fun b _ hb => by rw [ho]; exact hb)).append (.cons (ht.mod hm (fun b hb hc => ?_) fun b _ hb => ?_) .nil)⟩
      · refine ⟨hm.os.trans h.mod.os, hm.tape.trans h.mod.tape, hm.output.trans h.mod.output, Nat.le_trans h.mod.size hm.size, fun k hk hn => ?_⟩
        rw [hm.block k (Nat.lt_of_lt_of_le hk h.mod.size) (fun hc => by have := hge _ (hS _ hc); omega)]
        exact h.mod.block k hk hn
      · have := hge _ (hS _ hb)
        rcases hc with hc | hc
        · omega
        · exact hc.2 (hS b hb)
      · have := hge _ (hS _ hb); have := hwr _ (hS _ hb)
        rcases hc with hc | hc <;> omega
      · rcases hb with hb | hb
        · exact .inl hb
        · refine .inr ⟨by omega, fun e => ?_⟩
          rw [ho] at e
          have := hwr _ e; omega
    · refine ⟨h.ob.mod hm (by simp), h.mod.trans hm.nil, (h.rep.mod hm (by simp) fun b hlt hb => ?_).append (.cons (ht.mod hm (by simp) fun b hlt hb => ?_) .nil)⟩
      · rcases hb with hb | hb
        · exact .inl hb
        · exact .inr ⟨hb.1, fun e => by rw [ho] at e; simp only [Option.some.injEq] at e; omega⟩
      · rcases hb with hb | hb
        · exact .inl hb
        · exact .inr ⟨by omega, fun e => by rw [ho] at e; simp only [Option.some.injEq] at e; omega⟩
  obtain ⟨k1, k2, k3⟩ := key
  have hput : Mod [Ob] w1 (putCells w1 ⟨Ob, 3, none⟩ 0 [lv']) := Mod.put (by simp)
  have hp := k1.put (o := 3) (vs := [lv']) (by simp)
  have e1 : splice [Value.int .i64 n, sv, .bool null, lv, uv] 3 [lv'] = [.int .i64 n, sv, .bool null, lv', uv] := by simp [splice]
  rw [e1] at hp
  have s1 : (updo (updo σ (some d1) lv') (some d2) (.pointer (some ⟨Ob, 3, none⟩))) d1 = lv' := by simp only [updo, upd, hd, if_false, if_true]
  have s2 : (updo (updo σ (some d1) lv') (some d2) (.pointer (some ⟨Ob, 3, none⟩))) d2 = .pointer (some ⟨Ob, 3, none⟩) := by simp only [updo, upd, if_true]
  refine wpR_run ?_
  simp only [RK.run, ev, s1, s2, o1]
  refine ⟨rfl, stOk_one k1 (by simp) o2, ?_⟩
  exact hQ _ lv' ⟨hp, hraw1.mod hput (fun b hb => by have := hge' b hb; simp; omega), k3.mod hput (fun b hb hc => by
    simp only [List.mem_singleton] at hb
    rcases hc with hc | hc <;> omega) (fun _ _ h => h), k2.trans hput, hlob, hnob⟩
theorem SlC.flat {ok : Nat → Prop} {w : World} {v : Value} {n sz j : Nat} {css : List (List Value)} {cs : List Value} (h : SlC ok w v n css.flatten) (hn : n = css.length) (hsz : ∀ c ∈ css, c.length = sz) (hj : css[j]? = some cs) :
    ∃ a c, v = .slice (some a) n c ∧ j < n ∧ cellsAt w (a.add (j * sz)) 0 sz = some cs := by
  have hjl : j < css.length := by
    rcases Nat.lt_or_ge j css.length with h | h
    · exact h
    · rw [List.getElem?_eq_none h] at hj; simp at hj
  obtain ⟨base, cap, rfl, h2, h3, h4⟩ := h
  cases base with
  | none => have := h3 rfl; omega
  | some a =>
    obtain ⟨-, -, hc⟩ := h4 a rfl (by omega)
    refine ⟨a, cap, rfl, by omega, ?_⟩
    have := flat_cells hc hsz hj
    rw [Addr.add_of hc.1]
    exact cellsAt_of' this (hsz _ (List.mem_of_getElem? hj))
theorem SlC.pair {ok : Nat → Prop} {w : World} {v : Value} {n j : Nat} {css : List (List Value)} {a b : Value} (h : SlC ok w v n css.flatten) (hn : n = css.length) (hsz : ∀ c ∈ css, c.length = 2) (hj : css[j]? = some [a, b]) :
    ∃ p c, v = .slice (some p) n c ∧ j < n ∧ w.cell? ((p.add (j * 2)).add 0) = some a ∧ w.cell? ((p.add (j * 2)).add 1) = some b := by
  have hjl : j < css.length := by
    rcases Nat.lt_or_ge j css.length with h | h
    · exact h
    · rw [List.getElem?_eq_none h] at hj; simp at hj
  obtain ⟨base, cap, rfl, h2, h3, h4⟩ := h
  cases base with
  | none => have := h3 rfl; omega
  | some p =>
    obtain ⟨-, -, hc⟩ := h4 p rfl (by omega)
    have hcl := flat_cells hc hsz hj
    refine ⟨p, cap, rfl, by omega, ?_, ?_⟩
    · rw [Addr.add_of hc.1]; exact hcl.nth (i := 0) rfl
    · rw [Addr.add_of hc.1]; exact hcl.nth (i := 1) rfl
theorem RepTL.nth {ok : Nat → Prop} {w : World} {l : List TR} {css : List (List Value)} (h : RepTL ok w l css) {j : Nat} {t : TR} (ht : l[j]? = some t) : ∃ cs, css[j]? = some cs ∧ RepT ok w t cs := by
  induction l generalizing css j with
  | nil => simp at ht
  | cons a l ih =>
    cases h with
    | cons h1 h2 =>
      cases j with
      | zero => simp only [List.getElem?_cons_zero, Option.some.injEq] at ht; subst ht; exact ⟨_, rfl, h1⟩
      | succ j => simp only [List.getElem?_cons_succ] at ht ⊢; exact ih h2 ht
theorem got_loop1 {N : Nat} {w w3 : World} {Pb b2 Ob : Nat} {n : Int} {sv lv0 : Value} {null : Bool} {l : List TR} {css : List (List Value)} {σ : Sl} {Q : Exit → Sl → World → Prop} (hf : ∀ t ∈ l, GotAt P (F lGot) t)
    (hw : Mod [] w w3) (hN : N ≤ w.heap.size) (hl : SlC (fun b => b < N) w lv0 l.length css.flatten) (hr : RepTL (fun b => b < N) w l css) (hlen : l.length ≤ 2147483647)
    (hob : Blk w3 Ob [.int .i64 n, sv, .bool null, .slice none 0 0, .slice none 0 0]) (hoN : N ≤ Ob)
    (h1 : σ 1 = .pointer (some ⟨Pb, 0, none⟩)) (h2 : σ 2 = .pointer (some ⟨b2, 0, none⟩)) (h3 : σ 3 = .pointer (some ⟨Ob, 0, none⟩)) (hpb : w3.cell? ⟨Pb, 3, none⟩ = some lv0)
    (hQ : ∀ σ' w' lv tcs, σ' 1 = .pointer (some ⟨Pb, 0, none⟩) → σ' 2 = .pointer (some ⟨b2, 0, none⟩) → σ' 3 = .pointer (some ⟨Ob, 0, none⟩) → GS w3 w' Ob n sv lv (.slice none 0 0) null N l tcs → tcs.length = l.length → Q .normal σ' w') :
    wpC P (.seq (.blk [⟨some 15, .fad (.tmp 1) 3, none⟩, ⟨some 16, .ld (.tmp 15), none⟩, ⟨some 17, .len (.tmp 16), none⟩, ⟨some 18, .mv (.const (.int .i64 0)), none⟩])
      (.block 0 (.loop (.seq (.blk [⟨some 19, .bin .lss (.tmp 18) (.tmp 17), none⟩]) (.seq (.cond (.tmp 19) .skip (.exit 0))
        (.seq (.block 1 (.seq (.blk [⟨some 20, .iad (.tmp 16) (.tmp 18) 5, none⟩, ⟨some 21, .ldn (.tmp 20) 5, none⟩, ⟨some 5, .alloc tzero, none⟩, ⟨none, .st (.tmp 5) 5 (.tmp 21), none⟩])
            (.drw [⟨⟨some 22, .fad (.tmp 3) 3, none⟩, false, []⟩, ⟨⟨some 23, .ld (.tmp 22), none⟩, false, []⟩, ⟨⟨some 24, .ldn (.tmp 5) 5, none⟩, false, []⟩, ⟨⟨some 25, .call (F lGot) [.tmp 24], none⟩, true, []⟩,
                ⟨⟨some 26, .bslice 1 tzero [(0, 5, .tmp 25)], none⟩, true, [3]⟩]
              [⟨some 27, .append (.tmp 23) (.tmp 26) 5 88, none⟩, ⟨some 28, .fad (.tmp 3) 3, none⟩, ⟨none, .st (.tmp 28) 1 (.tmp 27), none⟩])))
          (.blk [⟨some 29, .bin .add (.tmp 18) (.const (.int .i64 1)), none⟩, ⟨some 18, .mv (.tmp 29), none⟩])))))))
      Q σ w3 := by
  obtain ⟨lb, lc, elv⟩ := hl.shape
  have hol := hob.lt
  rw [wpC_seq, wpC_blk]
  refine wpR_step (v := .pointer (some ⟨Pb, 3, none⟩)) (by simp [RK.val?, h1, Addr.add_mk]) ?_
  refine wpR_step (v := lv0) (by simp [RK.val?, hpb]) ?_
  refine wpR_step (v := .int .i64 l.length) (by simp [RK.val?, elv]) ?_
  refine wpR_step (v := .int .i64 0) (by simp [RK.val?]) ?_
  simp only [wpR, thenC]
  rw [wpC_block, wpC_loop]
  refine ⟨fun σ1 w1 => ∃ j lv tcs, j ≤ l.length ∧ σ1 1 = .pointer (some ⟨Pb, 0, none⟩) ∧ σ1 2 = .pointer (some ⟨b2, 0, none⟩) ∧ σ1 3 = .pointer (some ⟨Ob, 0, none⟩) ∧ σ1 16 = lv0 ∧ σ1 17 = .int .i64 l.length ∧ σ1 18 = .int .i64 j ∧
      GS w3 w1 Ob n sv lv (.slice none 0 0) null N (l.take j) tcs ∧ tcs.length = j,
    fun σ1 _ => l.length - (match σ1 18 with | .int _ j => j.toNat | _ => 0), ⟨0, .slice none 0 0, [], Nat.zero_le _, by simp [h1], by simp [h2], by simp [h3], by simp, by simp, by simp, ⟨hob, ⟨by simp, .inl ⟨rfl, rfl⟩⟩, by simpa using .nil, Mod.refl _ _, hol, hoN⟩, rfl⟩, ?_⟩
  rintro σ1 w1 ⟨j, lv, tcs, hj, s1, s2, s3, s16, s17, s18, hgs, htl⟩
  rw [wpC_seq, wpC_blk]
  refine wpR_step (v := .bool (decide ((j : Int) < l.length))) (by simp [RK.val?, s17, s18, intBin]) ?_
  simp only [wpR, thenC]
  rw [wpC_seq]
  by_cases hlt : j < l.length
  · rw [wpC_cond_t (by simp [hlt]), wpC_skip]
    simp only [thenC]
    rw [wpC_seq, wpC_block, wpC_seq, wpC_blk]
    obtain ⟨tj, htj⟩ : ∃ t, l[j]? = some t := ⟨l[j], List.getElem?_eq_getElem hlt⟩
    have hmw : Mod [Ob] w w1 := hw.nil.trans hgs.mod
    have hNob : ∀ b ∈ [Ob], ¬ b < N := fun b hb => by simp only [List.mem_singleton] at hb; omega
    obtain ⟨cj, hcj, hrj⟩ := (hr.mod (ok' := fun b => b < N) hmw hNob fun _ _ h => h).nth htj
    obtain ⟨pa, pc, ep, -, hcells⟩ := (hl.mod (ok' := fun b => b < N) hmw hNob fun _ _ h => h).flat hr.length hr.five hcj
    refine wpR_step (v := .pointer (some (pa.add (j * 5)))) (by simp [RK.val?, s16, s18, ep, hlt]) ?_
    refine wpR_step (v := .agg cj.toArray) (by simp [RK.val?, hcells]) ?_
    refine wpR_run ?_
    intro Ty
    obtain ⟨q1, q2, q3⟩ := new_put w1 tzero cj Ty (by rw [hrj.five]; rfl) hrj.oneCell
    refine wpR_run ?_
    have ec : (Value.agg cj.toArray).cells = cj.toArray := rfl
    have ec' : (Value.agg cj.toArray).cells.toList = cj := by simp [Value.cells]
    simp only [RK.run, ev, updo, upd]
    simp only [if_true, show (21 : Nat) ≠ 5 by decide, if_false, ec']
    refine ⟨by rw [ec]; simp [hrj.five], q1, ?_⟩
    generalize hw4 : putCells (w1.alloc (.cells tzero.toArray Ty)) ⟨w1.heap.size, 0, none⟩ 0 cj = w4 at q2 q3
    simp only [wpR, thenC]
    -- the region
    have hgs4 := hgs.same q3
    have hrj4 := hrj.mod (ok' := fun b => b < N) q3 (by simp) fun _ _ h => h
    have hN4 : N ≤ w4.heap.size := Nat.le_trans hN (Nat.le_trans hmw.size q3.size)
    have sz4 : w3.heap.size ≤ w4.heap.size := Nat.le_trans hgs.mod.size q3.size
    show wpD P _ _ _ w4.drew _
    refine wpD_of_B (fun jj v w' => if jj = 3 then ∃ cs', v = .agg cs'.toArray ∧ RepT (fun b => b < N ∨ w4.heap.size ≤ b) w' tj cs' else ∃ sb cs', v = .slice (some ⟨sb, 0, none⟩) 1 1 ∧ Blk w' sb cs' ∧ RepT (fun b => b < N ∨ w4.heap.size ≤ b) w' tj cs') ?_ ?_
    · intro jj v w5 w6 h hm
      split at h
      · rename_i hjj; rw [if_pos hjj]
        obtain ⟨cs', g1, g2⟩ := h
        exact ⟨cs', g1, g2.mod hm (by simp) fun _ _ h => h⟩
      · rename_i hjj; rw [if_neg hjj]
        obtain ⟨sb, cs', g1, g2, g3⟩ := h
        exact ⟨sb, cs', g1, g2.mod hm (by simp), g3.mod hm (by simp) fun _ _ h => h⟩
    refine walkB_step (v := .pointer (some ⟨Ob, 3, none⟩)) (by simp [RK.val?, s3, Addr.add_mk]) ?_
    refine walkB_step (v := lv) (by simp [RK.val?]; exact hgs4.ob.cell 3) ?_
    refine walkB_step (v := .agg cj.toArray) (by
      have : cellsAt w4.drew ⟨w1.heap.size, 0, none⟩ 0 5 = some cj := cellsAt_of' (show Cells w4.drew _ _ from q2.cells) hrj.five
      simp [RK.val?, this]) ?_
    refine walkB_node (fun w5 hm5 _ => ?_) fun u hu => ?_
    · have hm45 : Mod [] w4 w5 := (Mod.drew _ _).trans hm5
      have := hf tj (List.mem_of_getElem? htj) N w5 cj (Nat.le_trans hN4 hm45.size) (hrj4.mod hm45 (by simp) fun _ _ h => h)
      simp only [RK.run, List.map_cons, List.map_nil, ev, updo, upd, if_true]
      refine this.mono ?_
      rintro e w6 ⟨cs', rfl, g1, g2⟩
      refine ⟨_, rfl, g2, ?_⟩
      exact ⟨cs', rfl, g1.mod (Mod.refl [] _) (by simp) fun b _ hb => hb.imp id fun h => Nat.le_trans hm45.size h⟩
    obtain ⟨wu, hu⟩ := hu
    obtain ⟨cu, rfl, hcu⟩ := hu
    refine walkB_node (fun w5 hm5 hkn => ?_) fun u2 hu2 => ?_
    · have h3 := hkn 3 (by simp) _ rfl rfl rfl 25 rfl
      dsimp only at h3
      rw [if_pos rfl] at h3
      simp only [updo, upd, if_true] at h3
      obtain ⟨cs', e3, h3⟩ := h3
      have : cu = cs' := by
        have := congrArg (fun v => match v with | Value.agg a => a.toList | _ => []) e3
        simpa using this
      subst this
      refine bslice_run (cs := cu) (n0 := 0) (by simp) h3.five (Nat.zero_le _) fun v w6 hbs hm6 => ?_
      obtain ⟨sb, cs', g1, g2, g3, g4, g5⟩ := hbs
      have : cs' = cu := by
        have := congrArg (fun v => match v with | Value.agg a => a.toList | _ => []) g5
        simpa using this
      subst this
      refine ⟨hm6, ?_⟩
      rw [if_neg (by omega)]
      exact ⟨sb, cs', g1, g3, h3.mod hm6 (by simp) fun _ _ h => h⟩
    simp only [walkB]
    intro w5 hm5 hkn
    have h4 := hkn 4 (by simp) _ rfl rfl rfl 26 rfl
    dsimp only at h4
    rw [if_neg (by omega)] at h4
    simp only [updo, upd, if_true] at h4
    obtain ⟨sb, es, rfl, hblk, htree⟩ := h4
    have hm45 : Mod [] w4 w5 := (Mod.drew _ _).trans hm5
    refine (hgs4.same hm45).step (wr := w4) (t := tj) (by simp) (by simp) hblk htree (by omega) (fun b hb => (hgs4.raw.own hb).2) sz4 (fun v => by simp [s3]) (by decide) fun w6 lv' hgs6 => ?_
    simp only [inBlockC, thenC]
    have hw : IntKind.i64.wrap ((j : Int) + 1) = ((j + 1 : Nat) : Int) := by
      simp only [IntKind.wrap, IntKind.bits, IntKind.signed]; simp; omega
    rw [wpC_blk]
    refine wpR_step (v := .int .i64 ((j + 1 : Nat) : Int)) (by simp [RK.val?, intBin, s18, hw]) ?_
    refine wpR_step (v := .int .i64 ((j + 1 : Nat) : Int)) (by simp [RK.val?]) ?_
    simp only [wpR, thenC]
    refine ⟨⟨j + 1, lv', tcs ++ [es], hlt, by simp [s1], by simp [s2], by simp [s3], by simp [s16], by simp [s17], by simp, ?_, by simp [htl]⟩, ?_⟩
    · rw [List.take_add_one, htj]; simpa using hgs6
    · simp [s18]; show l.length - (j + 1) < l.length - j; omega
  · rw [wpC_cond_f (by simp; omega)]
    have hje : j = l.length := by omega
    subst hje
    rw [List.take_length] at hgs
    simp only [wpC, inBlockC, thenC, if_true]
    exact hQ _ w1 lv tcs (by simp [s1]) (by simp [s2]) (by simp [s3]) hgs htl
end
end Go.Msk

namespace Go.Msk
open Go.RowKit
set_option maxRecDepth 100000
section
variable {P : Program} {F : Nat → Nat}
attribute [local simp] bnd wpC wpR RI.wp gOk RK.run thenC inBlockC updo upd ev args0 postC rvals RV.val tup_one isShift
theorem append_two {σ : Sl} {w : World} {x y : Operand} {lv : Value} {css : List (List Value)} {es : List Value} {n0 sb : Nat} {K : Value → World → Prop} (hx : ev σ x = lv) (hraw : LRaw2 w n0 lv css) (hn0 : n0 ≤ w.heap.size)
    (hy : ev σ y = .slice (some ⟨sb, 0, none⟩) 1 1) (hsb : Blk w sb es) (h5 : es.length = 2) (hone : ∀ v ∈ es, v.oneCell' = true) (hl : css.length ≤ 2147483647)
    (hK : ∀ lv' w', LRaw2 w' n0 lv' (css ++ [es]) → (((own lv' = own lv ∧ Mod (own lv).toList w w') ∧ ∃ BA c, lv = .slice (some ⟨BA, 0, none⟩) css.length c ∧ css.length + 1 ≤ c) ∨ (own lv' = some w.heap.size ∧ Mod [] w w')) → K lv' w') : (RK.append x y 2 32).run P σ w K := by
  have hsrc : srcCells w 2 (.slice (some ⟨sb, 0, none⟩) 1 1) = some (1, es) := by
    simp only [srcCells, cellsAt_of' hsb.cells (n := 1 * 2) (by omega), Option.map_some]
  simp only [RK.run, hx, hy]
  have h5' : ∀ cs ∈ css ++ [es], cs.length = 2 := fun cs hc => by
    rcases List.mem_append.1 hc with hc | hc
    · exact hraw.two cs hc
    · simp only [List.mem_singleton] at hc; subst hc; exact h5
  have hfl : css.flatten.length = css.length * 2 := flatten_length hraw.two
  rcases hraw.sl with ⟨rfl, rfl⟩ | ⟨BA, cap, rest, rfl, h2, h3, h4, hr⟩
  · simp only [hsrc, appendRun]
    rw [if_neg (by omega)]
    refine ⟨by omega, by omega, ?_⟩
    intro T cap rest hc hr
    refine hK _ _ ⟨h5', .inr ⟨w.heap.size, cap, rest, rfl, by simpa using hc, hn0, ?_, by simpa using hr⟩⟩ (.inr ⟨rfl, (Mod.drew _ _).trans (Mod.alloc _ _ _)⟩)
    have := Blk.new w.drew (es ++ rest) T
    simpa using this
  · simp only [hsrc, appendRun]
    by_cases hc : css.length + 1 ≤ cap
    · rw [if_pos hc]
      simp only [Addr.add_mk, Nat.zero_add]
      refine ⟨stOk_many h4 (by simp only [List.length_append]; omega) hone, hK _ _ ⟨h5', .inr ⟨BA, cap, rest.drop 2, by simp, by simpa using hc, h3, ?_, by simp; omega⟩⟩ (.inl ⟨⟨rfl, by simpa [own] using Mod.put (by simp)⟩, BA, cap, rfl, hc⟩)⟩
      have hput := h4.put (o := css.length * 2) (vs := es) (by simp only [List.length_append]; omega)
      have : splice (css.flatten ++ rest) (css.length * 2) es = (css ++ [es]).flatten ++ rest.drop 2 := by
        rw [splice_end hfl, h5, flat_snoc, List.append_assoc]
      rwa [this] at hput
    · rw [if_neg hc]
      refine ⟨by omega, by omega, ?_⟩
      have hco : cellsAt w ⟨BA, 0, none⟩ 0 (css.length * 2) = some css.flatten := by
        have := h4.cells.take css.flatten.length
        rw [List.take_left] at this
        exact cellsAt_of' this hfl
      simp only [hco]
      intro T cap' rest' hc' hr'
      refine hK _ _ ⟨h5', .inr ⟨w.heap.size, cap', rest', by simp, by simpa using hc', hn0, ?_, by simpa using hr'⟩⟩ (.inr ⟨rfl, (Mod.drew _ _).trans (Mod.alloc _ _ _)⟩)
      have := Blk.new w.drew (css.flatten ++ (es ++ rest')) T
      simpa using this
structure GU (w3 w : World) (Ob : Nat) (n : Int) (sv lv uv : Value) (null : Bool) (N : Nat) (us : List (Nat × List UInt8)) (ucs : List (List Value)) : Prop where
  ob : Blk w Ob [.int .i64 n, sv, .bool null, lv, uv]
  raw : LRaw2 w w3.heap.size uv ucs
  rep : RepU (fun b => b < N) w us ucs
  mod : Mod [Ob] w3 w
  lob : Ob < w3.heap.size
  nob : N ≤ Ob
theorem RepU.append {ok : Nat → Prop} {w : World} {l l' : List (Nat × List UInt8)} {css css' : List (List Value)} (h : RepU ok w l css) (h' : RepU ok w l' css') : RepU ok w (l ++ l') (css ++ css') := by
  induction h with
  | nil => exact h'
  | cons h1 _ ih => exact .cons h1 ih
theorem RepU.two {ok : Nat → Prop} {w : World} {l : List (Nat × List UInt8)} {css : List (List Value)} (h : RepU ok w l css) : ∀ c ∈ css, c.length = 2 := by
  induction h with
  | nil => simp
  | cons h1 _ ih =>
    intro c hc
    rcases List.mem_cons.1 hc with rfl | hc
    · rfl
    · exact ih c hc
theorem RepU.length {ok : Nat → Prop} {w : World} {l : List (Nat × List UInt8)} {css : List (List Value)} (h : RepU ok w l css) : l.length = css.length := by
  induction h with
  | nil => rfl
  | cons h1 _ ih => simp [ih]
theorem RepU.nth {ok : Nat → Prop} {w : World} {l : List (Nat × List UInt8)} {css : List (List Value)} (h : RepU ok w l css) {j : Nat} {t : Nat × List UInt8} (ht : l[j]? = some t) : ∃ v, css[j]? = some [.int .u32 t.1, v] ∧ SlC ok w v t.2.length (u8s t.2) := by
  induction h generalizing j with
  | nil => simp at ht
  | cons h1 _ ih =>
    cases j with
    | zero => simp only [List.getElem?_cons_zero, Option.some.injEq] at ht; subst ht; exact ⟨_, rfl, h1⟩
    | succ j => simp only [List.getElem?_cons_succ] at ht ⊢; exact ih ht
def uzero : List Value := [.int .u32 0, .slice none 0 0]
end
end Go.Msk

namespace Go.Msk
open Go.RowKit
set_option maxRecDepth 100000
section
variable {P : Program}
theorem appendNil_big {σ : Sl} {w : World} {x : Operand} {v : Value} {l : List UInt8} {ok : Nat → Prop} {K : Value → World → Prop} (hx : ev σ x = v) (hv : SlC ok w v l.length (u8s l)) (hl : l.length ≤ 70368744177664)
    (hK : ∀ base cap w', IsBytes w' base l.length cap l → base.isNone = l.isEmpty → (∀ a, base = some a → w.heap.size ≤ a.block ∧ a.block < w'.heap.size) → Mod [] w w' → K (.slice base l.length cap) w') : (RK.append (.const (.slice none 0 0)) x 1 1).run P σ w K := by
  obtain ⟨base, cap, rfl, hcap, hb0, hb⟩ := hv
  have hsrc : srcCells w 1 (.slice base l.length cap) = some (l.length, u8s l) := by
    cases base with
    | none => have := hb0 rfl; have : l = [] := List.length_eq_zero_iff.1 (by omega); subst this; simp [srcCells, u8s]
    | some a =>
      by_cases hc0 : 0 < cap
      · obtain ⟨h1, h2, h3⟩ := hb a rfl hc0
        simp only [srcCells, Nat.mul_one]
        rw [cellsAt_of' h3 (u8s_length l)]; rfl
      · have : l = [] := List.length_eq_zero_iff.1 (by omega)
        subst this; simp [srcCells, cellsAt, u8s]
  have e1 : ev σ (.const (.slice none 0 0)) = .slice none 0 0 := rfl
  simp only [RK.run, e1, hx, hsrc, appendRun]
  by_cases h0 : l.length = 0
  · have : l = [] := List.length_eq_zero_iff.1 h0
    subst this
    simp only [List.length_nil, Nat.add_zero, Nat.le_refl, if_true]
    exact hK _ _ _ (IsBytes.nil w) rfl (fun a h => by simp at h) (Mod.refl _ _)
  · rw [if_neg (by omega)]
    refine ⟨by omega, by omega, ?_⟩
    intro T cap' rest hc hr
    have hblk := Blk.new w.drew (u8s l ++ rest) T
    have := hK (some ⟨w.heap.size, 0, none⟩) cap' (w.drew.alloc (.cells (u8s l ++ rest).toArray T)) ⟨rfl, by omega, fun h => by simp at h, fun a ha => by
      simp only [Option.some.injEq] at ha; subst ha
      have := hblk.cells.take (u8s l).length
      simpa using this⟩ (by cases l <;> simp at h0 ⊢) (fun a ha => by
      simp only [Option.some.injEq] at ha; subst ha
      exact ⟨Nat.le_refl _, hblk.lt⟩) ((Mod.drew _ _).trans (Mod.alloc _ _ _))
    simpa using this
theorem appendNil_bytes {σ : Sl} {w : World} {x : Operand} {v : Value} {l : List UInt8} {ok : Nat → Prop} {K : Value → World → Prop} (hx : ev σ x = v) (hv : SlC ok w v l.length (u8s l)) (hl : l.length ≤ 2147483647)
    (hK : ∀ base cap w', IsBytes w' base l.length cap l → base.isNone = l.isEmpty → (∀ a, base = some a → w.heap.size ≤ a.block ∧ a.block < w'.heap.size) → Mod [] w w' → K (.slice base l.length cap) w') : (RK.append (.const (.slice none 0 0)) x 1 1).run P σ w K := appendNil_big hx hv (by omega) hK
theorem IsBytes.slc {ok : Nat → Prop} {w : World} {base : Option Addr} {n cap : Nat} {l : List UInt8} (h : IsBytes w base n cap l) (ho : ∀ a, base = some a → ok a.block ∧ a.block < w.heap.size) : SlC ok w (.slice base n cap) l.length (u8s l) :=
  ⟨base, cap, by rw [h.hlen], by rw [← h.hlen]; exact h.hcap, h.hnone, fun a ha _ => ⟨(ho a ha).1, (ho a ha).2, h.hcells a ha⟩⟩
def cbL : List DI :=
  [⟨⟨some 5, .fad (.tmp 2) 4, none⟩, false, []⟩, ⟨⟨some 6, .ld (.tmp 5), none⟩, false, []⟩, ⟨⟨some 7, .mv (.tmp 0), none⟩, false, []⟩, ⟨⟨some 8, .mv (.tmp 1), none⟩, false, []⟩,
   ⟨⟨some 9, .append (.const (.slice none 0 0)) (.tmp 8) 1 1, none⟩, true, []⟩, ⟨⟨some 10, .build uzero [(0, 1, .tmp 7), (1, 1, .tmp 9)], none⟩, false, [4]⟩,
   ⟨⟨some 11, .bslice 1 uzero [(0, 2, .tmp 10)], none⟩, true, [4]⟩, ⟨⟨some 12, .append (.tmp 6) (.tmp 11) 2 32, none⟩, true, [4, 6]⟩, ⟨⟨some 13, .fad (.tmp 2) 4, none⟩, false, [4, 6, 7]⟩]
def cbCode : IC × List RV × Nat := (.drw cbL [⟨none, .st (.tmp 13) 1 (.tmp 12), none⟩], [], 14)
structure TG (w0 w : World) (Tb : Nat) (lv uv : Value) (us : List (Nat × List UInt8)) (ucs : List (List Value)) : Prop where
  tb : Blk w Tb [.int .i64 0, .slice none 0 0, .bool false, lv, uv]
  raw : LRaw2 w w0.heap.size uv ucs
  rep : RepU (fun b => w0.heap.size ≤ b ∧ own uv ≠ some b) w us ucs
  mod : Mod [Tb] w0 w
  ltb : Tb < w0.heap.size
def BU (n0 k : Nat) (l : List UInt8) (v : Value) (w : World) : Prop := ∃ sb v4, v = .slice (some ⟨sb, 0, none⟩) 1 1 ∧ n0 ≤ sb ∧ Blk w sb [.int .u32 k, v4] ∧ SlC (fun b => n0 ≤ b) w v4 l.length (u8s l)
theorem BU.mod {n0 k : Nat} {l : List UInt8} {v : Value} {w w' : World} {S : List Nat} (h : BU n0 k l v w) (hm : Mod S w w') (hS : ∀ b ∈ S, b < n0) : BU n0 k l v w' := by
  obtain ⟨sb, v4, h1, h2, h3, h4⟩ := h
  exact ⟨sb, v4, h1, h2, h3.mod hm (fun hc => by have := hS _ hc; omega), h4.mod hm (fun b hb hc => by have := hS b hb; omega) fun _ _ h => h⟩
theorem LRaw2.mod {w w' : World} {n0 : Nat} {lv : Value} {css : List (List Value)} {S : List Nat} (h : LRaw2 w n0 lv css) (hm : Mod S w w') (hS : ∀ b, own lv = some b → b ∉ S) : LRaw2 w' n0 lv css :=
  ⟨h.two, h.sl.imp id fun ⟨BA, cap, rest, g1, g2, g3, g4, g5⟩ => ⟨BA, cap, rest, g1, g2, g3, g4.mod hm (hS _ (by rw [g1]; rfl)), g5⟩⟩
theorem LRaw2.own {w : World} {n0 : Nat} {lv : Value} {css : List (List Value)} (h : LRaw2 w n0 lv css) {b : Nat} (hb : own lv = some b) : n0 ≤ b ∧ b < w.heap.size := by
  rcases h.sl with ⟨rfl, -⟩ | ⟨BA, cap, rest, rfl, -, h3, h4, -⟩
  · simp [Msk.own] at hb
  · simp only [Msk.own, Option.some.injEq] at hb; subst hb; exact ⟨h3, h4.lt⟩
theorem LRaw2.one {w : World} {n0 : Nat} {lv : Value} {css : List (List Value)} (h : LRaw2 w n0 lv css) : lv.cells = #[lv] ∧ lv.oneCell' = true := by
  rcases h.sl with ⟨rfl, -⟩ | ⟨BA, cap, rest, rfl, -⟩ <;> exact ⟨rfl, rfl⟩
theorem cb_core {f Tb k : Nat} {lv uv v : Value} {us : List (Nat × List UInt8)} {ucs : List (List Value)} {l : List UInt8} {S : List Nat} {okv : Nat → Prop} {wN w : World} {R : World → World → Prop} {App : Value → World → Prop}
    (hm : P.follows .mixedOrders = true) (h : liftF P f = some cbCode) (hg : TG wN w Tb lv uv us ucs) (hv : SlC okv w v l.length (u8s l)) (hl : l.length ≤ 2147483647) (_hk : k < 4294967296)
    (hvS : ∀ b ∈ S, ¬ okv b) (hS : ∀ b ∈ S, own uv = some b)
    (hRr : ∀ w, R w w) (hRt : ∀ u v w, R u v → R v w → R u w) (hRS : ∀ w1 w2, R w1 w2 → Mod S w1 w2) (hR0 : ∀ w1 w2, Mod [] w1 w2 → R w1 w2) (hAst : ∀ v w1 w2, App v w1 → R w1 w2 → App v w2)
    (happ : ∀ (σ : Sl) (x y : Operand) (w1 : World), R w.drew w1 → ev σ x = uv → BU w.heap.size k l (ev σ y) w1 → (RK.append x y 2 32).run P σ w1 fun v w' => R w1 w' ∧ App v w')
    (hfin : ∀ w1 v, R w.drew w1 → App v w1 → ∃ cs, LRaw2 w1 wN.heap.size v (ucs ++ [cs]) ∧ (∀ b, own v = some b → own uv = some b ∨ w.heap.size ≤ b) ∧ RepU (fun b => wN.heap.size ≤ b ∧ own v ≠ some b) w1 (us ++ [(k, l)]) (ucs ++ [cs])) :
    Calls P f [u32v k, v, .pointer (some ⟨Tb, 0, none⟩)].toArray w fun e w' => e = .returned (.tuple #[]) ∧ (∃ uv' ucs', TG wN w' Tb lv uv' (us ++ [(k, l)]) ucs') ∧ Mod [Tb] wN w' := by
  unfold cbCode at h
  refine call_of h hm (by simp) ?_
  have a0 : args0 [u32v k, v, .pointer (some ⟨Tb, 0, none⟩)] 0 = u32v k := rfl
  have a1 : args0 [u32v k, v, .pointer (some ⟨Tb, 0, none⟩)] 1 = v := rfl
  have a2 : args0 [u32v k, v, .pointer (some ⟨Tb, 0, none⟩)] 2 = .pointer (some ⟨Tb, 0, none⟩) := rfl
  generalize args0 [u32v k, v, .pointer (some ⟨Tb, 0, none⟩)] = σ at a0 a1 a2 ⊢
  have hown : ∀ b ∈ S, wN.heap.size ≤ b ∧ b < w.heap.size := fun b hb => hg.raw.own (hS b hb)
  have hltb := hg.ltb
  have nT : Tb ∉ S := fun hx => by have := hown _ hx; omega
  have htb : ∀ w1, R w.drew w1 → Blk w1 Tb [.int .i64 0, .slice none 0 0, .bool false, lv, uv] := fun w1 hm => (hg.tb.of_heap (w' := w.drew) rfl).mod (hRS _ _ hm) nT
  have hsz : ∀ w1, R w.drew w1 → w.heap.size ≤ w1.heap.size := fun w1 hm => (hRS _ _ hm).size
  show wpD P cbL _ σ w.drew _
  refine ⟨R, fun j v w1 => if j = 4 then SlC (fun b => w.heap.size ≤ b) w1 v l.length (u8s l) else if j = 6 then BU w.heap.size k l v w1 else App v w1, NT, hRr, hRt, fun j v w1 w2 h hm => ?_, fun _ => trivial, ?_⟩
  · dsimp only at h ⊢
    split at h
    · rename_i hj; rw [if_pos hj]
      exact h.mod (hRS _ _ hm) (fun b hb hx => by have := hown _ hb; omega) fun _ _ h => h
    · rename_i hj; rw [if_neg hj]
      split at h
      · rename_i hj2; rw [if_pos hj2]; exact h.mod (hRS _ _ hm) fun b hb => (hown b hb).2
      · rename_i hj2; rw [if_neg hj2]; exact hAst _ _ _ h hm
  generalize hΦ : (fun (j : Nat) (v : Value) (w1 : World) => if j = 4 then SlC (fun b => w.heap.size ≤ b) w1 v l.length (u8s l) else if j = 6 then BU w.heap.size k l v w1 else App v w1) = Φ
  have Φ4 : ∀ v w1, Φ 4 v w1 = SlC (fun b => w.heap.size ≤ b) w1 v l.length (u8s l) := by subst hΦ; intros; rfl
  have Φ6 : ∀ v w1, Φ 6 v w1 = BU w.heap.size k l v w1 := by subst hΦ; intros; rfl
  have Φ7 : ∀ v w1, Φ 7 v w1 = App v w1 := by subst hΦ; intros; rfl
  generalize hE : (fun σ' => ∀ w1, R w.drew w1 → known cbL Φ (List.range cbL.length) σ' w1 → wpR P _ σ' w1 _) = E
  have hend : ∀ σ', σ' 13 = .pointer (some ⟨Tb, 4, none⟩) → E σ' := by
    intro σ' h13; subst hE
    intro w1 hm1 hkn
    have hap := hkn 7 (by simp [cbL]) _ rfl rfl rfl 12 rfl
    rw [Φ7] at hap
    obtain ⟨cs, q1, q2, q3⟩ := hfin w1 _ hm1 hap
    obtain ⟨o1, o2⟩ := q1.one
    have hb := htb w1 hm1
    have hput : Mod [Tb] w1 (putCells w1 ⟨Tb, 4, none⟩ 0 [σ' 12]) := Mod.put (by simp)
    have hp := hb.put (o := 4) (vs := [σ' 12]) (by simp)
    have e1 : splice [Value.int .i64 0, .slice none 0 0, .bool false, lv, uv] 4 [σ' 12] = [.int .i64 0, .slice none 0 0, .bool false, lv, σ' 12] := by simp [splice]
    rw [e1] at hp
    have hge : ∀ b, own (σ' 12) = some b → wN.heap.size ≤ b := fun b hb => (q1.own hb).1
    have m1 : Mod [Tb] wN (putCells w1 ⟨Tb, 4, none⟩ 0 [σ' 12]) := by
      have hm0 : Mod [Tb] wN w.drew := hg.mod.trans (Mod.drew [Tb] w)
      have hmS := hRS _ _ hm1
      refine ⟨hput.os.trans (hmS.os.trans hm0.os), hput.tape.trans (hmS.tape.trans hm0.tape), hput.output.trans (hmS.output.trans hm0.output), Nat.le_trans hm0.size (Nat.le_trans hmS.size hput.size), fun b hb hnb => ?_⟩
      rw [hput.block b (Nat.lt_of_lt_of_le hb (Nat.le_trans hm0.size hmS.size)) hnb, hmS.block b (Nat.lt_of_lt_of_le hb hm0.size) (fun hx => by have := hown _ hx; omega)]
      exact hm0.block b hb hnb
    refine wpR_run ?_
    simp only [RK.run, ev, h13, o1]
    refine ⟨rfl, stOk_one hb (by simp) o2, ?_⟩
    simp only [wpR, postC, rvals, List.mapM_nil, Option.pure_def, tup]
    exact ⟨trivial, ⟨_, _, hp, q1.mod hput (fun b hb => by have := hge b hb; simp; omega), q3.mod hput (fun b hb hc => by simp only [List.mem_singleton] at hb; omega) (fun _ _ h => h), m1, hltb⟩, m1⟩
  unfold cbL
  refine walk_step (v := .pointer (some ⟨Tb, 4, none⟩)) (fun w1 _ => by simp only [RK.val?, ev, a2, Addr.add_mk, Nat.zero_add]) ?_
  refine walk_step (v := uv) (fun w1 hw => by simp only [RK.val?, ev, updo, upd_same]; exact (htb w1 hw).cell 4) ?_
  refine walk_step (v := u32v k) (fun w1 _ => by simp only [RK.val?, ev, updo, upd]; simp [a0]) ?_
  refine walk_step (v := v) (fun w1 _ => by simp only [RK.val?, ev, updo, upd]; simp [a1]) ?_
  refine walk_node (fun w1 hw1 _ => ?_) fun v4 hv4 => ?_
  · refine appendNil_bytes (v := v) (l := l) (ok := okv) (by simp only [ev, updo, upd_same]) ((hv.mod (ok' := okv) (Mod.drew [] w) (by simp) fun _ _ h => h).mod (hRS _ _ hw1) hvS fun _ _ h => h) hl fun base cap w2 hb _ hge hm2 => ⟨hR0 _ _ hm2, ?_⟩
    rw [Φ4]
    exact hb.slc fun a ha => ⟨Nat.le_trans (hsz w1 hw1) (hge a ha).1, (hge a ha).2⟩
  obtain ⟨wv, hv4⟩ := hv4
  rw [Φ4] at hv4
  obtain ⟨b4, c4, rfl, -⟩ := hv4
  refine walk_step (v := .agg #[u32v k, .slice b4 l.length c4]) (fun w1 _ => by
    simp only [RK.val?, List.map_cons, List.map_nil, ev, updo, upd]; simp [uzero, fillL, splice, Value.cells, u32v]) ?_
  refine walk_node (fun w1 hw1 hkn => ?_) fun v6 hv6 => ?_
  · have h4 := hkn 4 (by simp) _ rfl rfl rfl 9 rfl
    rw [Φ4] at h4
    simp only [updo, upd, show (9 : Nat) ≠ 10 by decide, if_false, if_true] at h4
    have hf : fillL (zrep 1 uzero) [(0, 2, Value.agg #[u32v k, .slice b4 l.length c4])] = some [u32v k, .slice b4 l.length c4] := by simp [zrep, uzero, fillL, splice, Value.cells, u32v]
    simp only [RK.run, List.map_cons, List.map_nil, ev, updo, upd_same, hf]
    intro T5
    have hm5 : Mod [] w1 (w1.alloc (.cells [u32v k, .slice b4 l.length c4].toArray T5)) := Mod.alloc _ _ _
    refine ⟨hR0 _ _ hm5, ?_⟩
    rw [Φ6]
    exact ⟨w1.heap.size, _, rfl, hsz w1 hw1, Blk.new _ _ _, h4.mod hm5 (by simp) fun _ _ h => h⟩
  refine walk_node (fun w1 hw1 hkn => ?_) fun v7 hv7 => ?_
  · have h6 := hkn 6 (by simp) _ rfl rfl rfl 11 rfl
    rw [Φ6] at h6
    simp only [updo, upd_same] at h6
    refine run_mono (happ _ (.tmp 6) (.tmp 11) w1 hw1 (by simp only [ev, updo, upd]; simp) (by simpa only [ev, updo, upd_same] using h6)) fun v w2 hh => ⟨hh.1, ?_⟩
    rw [Φ7]; exact hh.2
  refine walk_step (v := .pointer (some ⟨Tb, 4, none⟩)) (fun w1 _ => by simp only [RK.val?, ev, updo, upd]; simp [a2, Addr.add_mk]) ?_
  simp only [walk]
  exact hend _ (by simp only [updo, upd_same])
theorem cb_step {f Tb k : Nat} {lv uv v : Value} {us : List (Nat × List UInt8)} {ucs : List (List Value)} {l : List UInt8} {okv : Nat → Prop} {wN w : World}
    (hm : P.follows .mixedOrders = true) (h : liftF P f = some cbCode) (hg : TG wN w Tb lv uv us ucs) (hv : SlC okv w v l.length (u8s l)) (hl : l.length ≤ 2147483647) (hk : k < 4294967296) (hok : ∀ b, okv b → b < wN.heap.size) (hus : us.length < 2147483647) :
    Calls P f [u32v k, v, .pointer (some ⟨Tb, 0, none⟩)].toArray w fun e w' => e = .returned (.tuple #[]) ∧ (∃ uv' ucs', TG wN w' Tb lv uv' (us ++ [(k, l)]) ucs') ∧ Mod [Tb] wN w' := by
  have hnw : wN.heap.size ≤ w.heap.size := hg.mod.size
  have hul : us.length = ucs.length := hg.rep.length
  have hraw : LRaw2 w.drew wN.heap.size uv ucs := hg.raw.mod (Mod.drew [] w) (by simp)
  have hrep := hg.rep.mod (ok' := fun b => wN.heap.size ≤ b ∧ own uv ≠ some b) (Mod.drew [] w) (by simp) fun _ _ h => h
  have one4 : ∀ {ok : Nat → Prop} {w : World} {v4 : Value}, SlC ok w v4 l.length (u8s l) → ∀ x ∈ [Value.int .u32 k, v4], x.oneCell' = true := fun h x hx => by
    simp only [List.mem_cons, List.not_mem_nil, or_false] at hx
    rcases hx with rfl | rfl
    · rfl
    · exact h.one
  by_cases hin : ∃ BA c, uv = .slice (some ⟨BA, 0, none⟩) ucs.length c ∧ ucs.length + 1 ≤ c
  · obtain ⟨BA, c, rfl, hc1⟩ := hin
    obtain ⟨o1, o2⟩ := hg.raw.own (b := BA) rfl
    generalize hlv2 : Value.slice (some ⟨BA, 0, none⟩) (ucs.length + 1) c = lv2
    let Fin : World → Prop := fun w' => ∃ v4, LRaw2 w' wN.heap.size lv2 (ucs ++ [[.int .u32 k, v4]]) ∧ SlC (fun b => w.heap.size ≤ b) w' v4 l.length (u8s l)
    have finMod : ∀ w1 w2, Fin w1 → Mod [] w1 w2 → Fin w2 := fun w1 w2 ⟨cs, h1, h2⟩ hm => ⟨cs, h1.mod hm (by simp), h2.mod hm (by simp) fun _ _ h => h⟩
    refine cb_core hm h hg hv hl hk (S := [BA]) (R := fun w1 w2 => Mod [] w1 w2 ∨ (Mod [BA] w1 w2 ∧ Fin w2)) (App := fun v w1 => v = lv2 ∧ Fin w1) (fun b hb hx => by simp only [List.mem_singleton] at hb; subst hb; have := hok _ hx; omega)
      (fun b hb => by simp only [List.mem_singleton] at hb; subst hb; rfl) (fun _ => .inl (Mod.refl _ _)) ?_ ?_ (fun _ _ h => .inl h) ?_ ?_ ?_
    · rintro u v w' (h1 | ⟨h1, f1⟩) (h2 | ⟨h2, f2⟩)
      · exact .inl (h1.trans h2)
      · exact .inr ⟨h1.nil.trans h2, f2⟩
      · exact .inr ⟨h1.trans h2.nil, finMod _ _ f1 h2⟩
      · exact .inr ⟨h1.trans h2, f2⟩
    · rintro w1 w2 (h1 | ⟨h1, -⟩)
      · exact h1.nil
      · exact h1
    · rintro v w1 w2 ⟨rfl, f1⟩ (h1 | ⟨h1, f2⟩)
      · exact ⟨rfl, finMod _ _ f1 h1⟩
      · exact ⟨rfl, f2⟩
    · intro σ x y w1 hR hx hy
      obtain ⟨sb, v4, hy, hsb, hblk, htree⟩ := hy
      have hM : Mod [BA] w.drew w1 := hR.elim (·.nil) (·.1)
      have hsz : w.heap.size ≤ w1.heap.size := hM.size
      have hrawblk : ∃ rest, Blk w1 BA (ucs.flatten ++ rest) ∧ rest.length = (c - ucs.length) * 2 := by
        rcases hR with h1 | ⟨-, v4', f1, -⟩
        · rcases (hraw.mod h1 (by simp)).sl with ⟨h, -⟩ | ⟨BA', c', rest, h, -, -, hb, hl⟩
          · simp at h
          · simp only [Value.slice.injEq, Option.some.injEq, Addr.mk.injEq, and_true, true_and] at h
            obtain ⟨rfl, rfl⟩ := h
            exact ⟨rest, hb, hl⟩
        · rcases f1.sl with ⟨h, -⟩ | ⟨BA', c', rest, h, -, -, hb, hl⟩
          · rw [← hlv2] at h; simp at h
          · rw [← hlv2] at h
            simp only [List.length_append, List.length_cons, List.length_nil, Value.slice.injEq, Option.some.injEq, Addr.mk.injEq, and_true, true_and] at h
            obtain ⟨rfl, -, rfl⟩ := h
            refine ⟨[.int .u32 k, v4'] ++ rest, by simpa using hb, ?_⟩
            simp only [List.length_append, List.length_cons, List.length_nil] at hl ⊢
            omega
      obtain ⟨rest, hb, hl⟩ := hrawblk
      have hfl : ucs.flatten.length = ucs.length * 2 := flatten_length hg.raw.two
      have hput : Mod [BA] w1 (putCells w1 ⟨BA, ucs.length * 2, none⟩ 0 [.int .u32 k, v4]) := Mod.put (by simp)
      have hsrc : srcCells w1 2 (.slice (some ⟨sb, 0, none⟩) 1 1) = some (1, [.int .u32 k, v4]) := by
        simp only [srcCells, cellsAt_of' hblk.cells (n := 1 * 2) (by simp), Option.map_some]
      have hfin : Fin (putCells w1 ⟨BA, ucs.length * 2, none⟩ 0 [.int .u32 k, v4]) := by
        refine ⟨v4, ⟨fun d hd => ?_, .inr ⟨BA, c, rest.drop 2, by simp [← hlv2], by simpa using hc1, o1, ?_, by simp; omega⟩⟩, htree.mod hput (fun b hb hx => by simp only [List.mem_singleton] at hb; omega) fun _ _ h => h⟩
        · rcases List.mem_append.1 hd with hd | hd
          · exact hg.raw.two d hd
          · simp only [List.mem_singleton] at hd; subst hd; rfl
        · have hp := hb.put (o := ucs.length * 2) (vs := [.int .u32 k, v4]) (by simp only [List.length_append, List.length_cons, List.length_nil]; omega)
          have hfs : (ucs ++ [[Value.int .u32 k, v4]]).flatten = ucs.flatten ++ [.int .u32 k, v4] := by simp
          rw [hfs, List.append_assoc]
          rwa [splice_end hfl] at hp
      simp only [RK.run, hx, hy, hsrc, appendRun]
      rw [if_pos hc1, hlv2]
      simp only [Addr.add_mk, Nat.zero_add]
      exact ⟨stOk_many hb (by simp only [List.length_append, List.length_cons, List.length_nil]; omega) (one4 htree), .inr ⟨hput, hfin⟩, trivial, hfin⟩
    · rintro w1 v hR ⟨rfl, v4, f1, f2⟩
      have hM : Mod [BA] w.drew w1 := hR.elim (·.nil) (·.1)
      have ho : own v = some BA := by rw [← hlv2]; rfl
      refine ⟨_, f1, fun b hb => .inl (by rw [ho] at hb; exact hb), RepU.append (hrep.mod hM (by
        intro b hb hx
        simp only [List.mem_singleton] at hb; subst hb; exact hx.2 rfl) fun b _ hb => ⟨hb.1, by rw [ho]; exact hb.2⟩) (.cons (f2.mod (Mod.refl [] _) (by simp) fun b _ hb => ⟨by omega, fun e => ?_⟩) .nil)⟩
      rw [ho] at e; simp only [Option.some.injEq] at e; omega
  · refine cb_core hm h hg hv hl hk (S := []) (R := fun w1 w2 => Mod [] w1 w2) (App := fun v w1 => ∃ v4 b, own v = some b ∧ w.heap.size ≤ b ∧ LRaw2 w1 wN.heap.size v (ucs ++ [[.int .u32 k, v4]]) ∧ SlC (fun b => w.heap.size ≤ b ∧ own v ≠ some b) w1 v4 l.length (u8s l))
      (by simp) (by simp) (fun _ => Mod.refl _ _) (fun _ _ _ => Mod.trans) (fun _ _ h => h) (fun _ _ h => h) ?_ ?_ ?_
    · rintro v w1 w2 ⟨v4, b, h1, h2, h3, h4⟩ hm
      exact ⟨v4, b, h1, h2, h3.mod hm (by simp), h4.mod hm (by simp) fun _ _ h => h⟩
    · intro σ x y w1 hR hx hy
      obtain ⟨sb, v4, hy, hsb, hblk, htree⟩ := hy
      refine append_two hx (hraw.mod hR (by simp)) (Nat.le_trans hnw hR.size) hy hblk rfl (one4 htree) (by omega) fun lv' w' hraw' hown => ?_
      rcases hown with ⟨-, h2⟩ | ⟨h1, h2⟩
      · exact absurd h2 hin
      · refine ⟨h2, v4, w1.heap.size, h1, hR.size, hraw', htree.mod h2 (by simp) (by
          intro b hb hx
          refine ⟨hx, fun e => ?_⟩
          rw [h1] at e; simp only [Option.some.injEq] at e; omega)⟩
    · rintro w1 v hR ⟨v4, b, h1, h2, h3, h4⟩
      refine ⟨_, h3, fun b' hb' => .inr (by rw [h1] at hb'; simp only [Option.some.injEq] at hb'; omega), RepU.append (hrep.mod hR (by simp) (by
        intro b' hb' hx
        refine ⟨hx.1, fun e => ?_⟩
        rw [h1] at e; simp only [Option.some.injEq] at e
        have : b' < w.heap.size := hb'
        omega)) (.cons (h4.mod (Mod.refl [] _) (by simp) (by
        intro b' _ hb'
        exact ⟨by omega, hb'.2⟩)) .nil)⟩
def tagBlks (f1 each srt : FuncId) (t off : Nat) : List IC :=
  [.blk [⟨some t, .mv (.tmp 0), none⟩, ⟨some (t + 1), .nilc (.tmp t), none⟩, ⟨some (t + 2), .fad (.tmp (t + 1)) off, none⟩, ⟨some (t + 3), .mkfunc (.func f1) [] [.tmp 3], none⟩, ⟨some (t + 4), .call each [.tmp (t + 2), .tmp (t + 3)], none⟩],
   .blk [⟨some (t + 5), .fad (.tmp 3) 4, none⟩, ⟨some (t + 6), .ld (.tmp (t + 5)), none⟩, ⟨some (t + 7), .call srt [.tmp (t + 6)], none⟩]]
structure TagFs (P : Program) (f1 each srt : FuncId) : Prop where
  mixed : P.follows .mixedOrders = true
  cb : liftF P f1 = some cbCode
  body : hasBody P f1 = true
  each : ∀ {w : World} {S : List Nat} {okv : Nat → Prop} {g : FuncId} {captured : List Value} {I : World → List (Nat × List UInt8) → World → Prop} {m : List (Nat × List UInt8)}, EachCB P w S okv g captured I (sortT m) → hasBody P g = true →
    ∀ {B o : Nat} {v : Value}, w.cell? ⟨B, o, none⟩ = some v → TagM okv w v m → m.length ≤ 2147483647 → (∀ p ∈ m, p.2.length ≤ 2147483647) → B ∉ S → (∀ r, v = .map (some r) → r ∉ S) → (∀ b ∈ S, b < w.heap.size) → (∀ b ∈ S, ¬ okv b) →
    (∀ wN, Mod [] w wN → I wN [] wN) → Calls P each [.pointer (some ⟨B, o, none⟩), .func (.func g) #[] captured.toArray].toArray w fun e w' => e = .returned (.tuple #[]) ∧ ∃ wN, Mod [] w wN ∧ I wN (sortT m) w' ∧ Mod S wN w'
  srt : ∀ {w : World} {ok : Nat → Prop} {v : Value} {ks : List Nat} {css : List (List Value)}, Pairs w ok v ks css → ks.Pairwise (· ≤ ·) → ks.length ≤ 2147483647 → Calls P srt [v].toArray w fun e w' => e = .returned (.tuple #[]) ∧ Mod [] w w'
theorem LRaw2.slcN {w : World} {n0 : Nat} {lv : Value} {css : List (List Value)} (h : LRaw2 w n0 lv css) : SlC (fun b => n0 ≤ b) w lv css.length css.flatten := by
  rcases h.sl with ⟨rfl, rfl⟩ | ⟨BA, cap, rest, rfl, h2, h3, h4, -⟩
  · exact SlC.nil
  · refine ⟨_, cap, rfl, h2, fun h => by simp at h, fun a ha _ => ?_⟩
    simp only [Option.some.injEq] at ha; subst ha
    refine ⟨h3, h4.lt, ?_⟩
    have := h4.cells.take css.flatten.length
    simpa using this
theorem RepU.pairs {ok ok' : Nat → Prop} {w : World} {v : Value} {us : List (Nat × List UInt8)} {ucs : List (List Value)} (h : RepU ok w us ucs) (hs : SlC ok' w v ucs.length ucs.flatten) : Pairs w ok' v (us.map (·.1)) ucs :=
  ⟨hs, by simpa using h.length, h.two, fun j k hk => by
    rw [List.getElem?_map] at hk
    cases hj : us[j]? with
    | none => rw [hj] at hk; simp at hk
    | some p =>
      rw [hj] at hk
      simp only [Option.map_some, Option.some.injEq] at hk
      subst hk
      obtain ⟨x, hx, -⟩ := h.nth hj
      exact ⟨x, hx⟩⟩
theorem tagBlks_wp {f1 each srt : FuncId} (hT : TagFs P f1 each srt) {t off Tb B base : Nat} {lv v : Value} {m : List (Nat × List UInt8)} {okv : Nat → Prop} {σ : Sl} {w : World} {Q : Exit → Sl → World → Prop} (ht : 4 ≤ t)
    (h0 : σ 0 = .pointer (some ⟨B, base, none⟩)) (h3 : σ 3 = .pointer (some ⟨Tb, 0, none⟩)) (htb : Blk w Tb [.int .i64 0, .slice none 0 0, .bool false, lv, .slice none 0 0]) (hc : w.cell? ⟨B, base + off, none⟩ = some v) (hM : TagM okv w v m)
    (hok : ∀ b, okv b → b ≠ Tb) (hBT : B ≠ Tb) (hr : ∀ r, v = .map (some r) → r ≠ Tb) (hlen : m.length ≤ 2147483647) (hmv : ∀ p ∈ m, p.2.length ≤ 2147483647)
    (hQ : ∀ σ' w' uv ucs, Ag t σ σ' → Mod [Tb] w w' → Blk w' Tb [.int .i64 0, .slice none 0 0, .bool false, lv, uv] → SlC (fun b => w.heap.size ≤ b) w' uv (sortT m).length ucs.flatten → RepU (fun b => w.heap.size ≤ b) w' (sortT m) ucs → Q .normal σ' w') :
    wpL P (tagBlks f1 each srt t off) Q σ w := by
  unfold tagBlks
  simp only [wpL]
  rw [wpC_blk]
  refine wpR_step (v := .pointer (some ⟨B, base, none⟩)) (congrArg some h0) ?_
  refine wpR_step (v := .pointer (some ⟨B, base, none⟩)) (by simp only [RK.val?, ev, updo, upd_same]) ?_
  refine wpR_step (v := .pointer (some ⟨B, base + off, none⟩)) (by simp only [RK.val?, ev, updo, upd_same, Addr.add_mk]) ?_
  refine wpR_step (v := .func (.func f1) #[] #[.pointer (some ⟨Tb, 0, none⟩)]) (by
    simp only [RK.val?, List.map_cons, List.map_nil, ev, updo, upd, show (3 : Nat) ≠ t + 2 by omega, show (3 : Nat) ≠ t + 1 by omega, show (3 : Nat) ≠ t by omega, if_false, h3]) ?_
  have hM' : TagM (fun b => okv b ∧ b < w.heap.size) w v m := by
    rcases hM with h | ⟨r, h1, h2⟩
    · exact .inl h
    · exact .inr ⟨r, h1, h2.mod (Mod.refl [] _) (by simp) (by simp) fun b hb hx => ⟨hx, hb⟩⟩
  have hcb : EachCB P w [Tb] (fun b => okv b ∧ b < w.heap.size) f1 [.pointer (some ⟨Tb, 0, none⟩)] (fun wN done w1 => ∃ uv ucs, TG wN w1 Tb lv uv done ucs) (sortT m) := by
    rintro wN done k l w1 v' _ hmN ⟨uv, ucs, hg⟩ hd _ hk hl hv'
    exact cb_step hT.mixed hT.cb hg hv' hl hk (fun b hb => Nat.lt_of_lt_of_le hb.2 hmN.size) hd
  refine wpR_call (vs := [.pointer (some ⟨B, base + off, none⟩), .func (.func f1) #[] [Value.pointer (some ⟨Tb, 0, none⟩)].toArray]) (by
      simp only [List.map_cons, List.map_nil, ev, updo, upd, show t + 2 ≠ t + 3 by omega, if_false, if_true])
    (hT.each hcb hT.body hc hM' hlen hmv (by simpa using hBT) (fun r e => by simpa using hr r e) (fun b hb => by simp only [List.mem_singleton] at hb; subst hb; exact htb.lt) (fun b hb hx => by simp only [List.mem_singleton] at hb; exact hok _ hx.1 hb)
      (fun wN hmN => ⟨.slice none 0 0, [], htb.mod hmN (by simp), ⟨by simp, .inl ⟨rfl, rfl⟩⟩, .nil, Mod.refl _ _, Nat.lt_of_lt_of_le htb.lt hmN.size⟩)) ?_
  rintro e w1 ⟨rfl, wN, hmN, ⟨uv, ucs, hg⟩, hm1⟩
  refine ⟨_, rfl, ?_⟩
  refine wpR_done ?_
  rw [wpC_blk]
  refine wpR_step (v := .pointer (some ⟨Tb, 4, none⟩)) (by
    simp only [RK.val?, ev, updo, upd, show (3 : Nat) ≠ t + 4 by omega, show (3 : Nat) ≠ t + 3 by omega, show (3 : Nat) ≠ t + 2 by omega, show (3 : Nat) ≠ t + 1 by omega, show (3 : Nat) ≠ t by omega, if_false, h3, Addr.add_mk, Nat.zero_add]) ?_
  refine wpR_step (v := uv) (by simp only [RK.val?, ev, updo, upd_same]; exact hg.tb.cell 4) ?_
  have hul := hg.rep.length
  have hsl : SlC (fun b => w.heap.size ≤ b) w1 uv (sortT m).length ucs.flatten := by
    rw [hul]; exact hg.raw.slcN.mod (Mod.refl [] _) (by simp) fun b _ hb => Nat.le_trans hmN.size hb
  refine wpR_call (vs := [uv]) (by simp only [List.map_cons, List.map_nil, ev, updo, upd_same]) (hT.srt (hg.rep.pairs (by rw [hul] at hsl; exact hsl)) (by rw [List.pairwise_map]; exact sortT_sorted m) (by
    have := (sortT_perm m).length_eq; simp; omega)) ?_
  rintro e w2 ⟨rfl, hm2⟩
  refine ⟨_, rfl, ?_⟩
  refine wpR_done ?_
  refine hQ _ w2 uv ucs (fun j hj => ?_) ((hmN.nil.trans hm1).trans hm2.nil) (hg.tb.mod hm2 (by simp)) (hsl.mod hm2 (by simp) fun _ _ h => h) (hg.rep.mod hm2 (by simp) fun b _ hb => Nat.le_trans hmN.size hb.1)
  simp only [updo, upd, show j ≠ t + 7 by omega, show j ≠ t + 6 by omega, show j ≠ t + 5 by omega, show j ≠ t + 4 by omega, show j ≠ t + 3 by omega, show j ≠ t + 2 by omega, show j ≠ t + 1 by omega, show j ≠ t by omega, if_false]
end
end Go.Msk

namespace Go.Msk
open Go.RowKit
set_option maxRecDepth 100000
def headC (t off : Nat) : List DI :=
  [nd ⟨some t, .fad (.tmp 3) 3, none⟩, nd ⟨some (t + 1), .ld (.tmp t), none⟩, nd ⟨some (t + 2), .mv (.tmp 0), none⟩, nd ⟨some (t + 3), .nilc (.tmp (t + 2)), none⟩, nd ⟨some (t + 4), .fad (.tmp (t + 3)) off, none⟩]
def subF (f : FuncId) (i t off : Nat) : IC :=
  .drw (headC t off ++ [⟨⟨some (t + 5), .call f [.tmp (t + 4)], none⟩, true, []⟩, ⟨⟨some (t + 6), .iad (.tmp (t + 1)) (.const (.int .i64 i)) 5, none⟩, false, [5]⟩])
    [⟨none, .st (.tmp (t + 6)) 5 (.tmp (t + 5)), none⟩]
def uidF (i t off : Nat) : IC :=
  .drw (headC t off ++ [nd ⟨some (t + 5), .slicea (.tmp (t + 4)) 16, none⟩, ⟨⟨some (t + 6), .append (.const (.slice none 0 0)) (.tmp (t + 5)) 1 1, none⟩, true, []⟩, ⟨⟨some (t + 7), .build tzero [(1, 1, .tmp (t + 6))], none⟩, false, [6]⟩,
      ⟨⟨some (t + 8), .iad (.tmp (t + 1)) (.const (.int .i64 i)) 5, none⟩, false, [6]⟩])
    [⟨none, .st (.tmp (t + 8)) 5 (.tmp (t + 7)), none⟩]
section
variable {P : Program}
theorem headC_walkB {t off Tb Lb n B base : Nat} {σ : Sl} {w : World} {r l : List DI} {Φ : Nat → Value → World → Prop} {E : Sl → Prop} (ht : 4 ≤ t)
    (h0 : σ 0 = .pointer (some ⟨B, base, none⟩)) (h3 : σ 3 = .pointer (some ⟨Tb, 0, none⟩)) (c3 : w.cell? ⟨Tb, 3, none⟩ = some (.slice (some ⟨Lb, 0, none⟩) n n))
    (h : ∀ σ', Ag t σ σ' → σ' (t + 1) = .slice (some ⟨Lb, 0, none⟩) n n → σ' (t + 4) = .pointer (some ⟨B, base + off, none⟩) → walkB P l Φ w E 5 r σ') : walkB P l Φ w E 0 (headC t off ++ r) σ := by
  simp only [headC, nd, List.cons_append, List.nil_append]
  refine walkB_step (v := .pointer (some ⟨Tb, 3, none⟩)) (by simp only [RK.val?, ev, h3, Addr.add_mk, Nat.zero_add]) ?_
  refine walkB_step (v := .slice (some ⟨Lb, 0, none⟩) n n) (by simp only [RK.val?, ev, updo, upd_same, c3]) ?_
  refine walkB_step (v := .pointer (some ⟨B, base, none⟩)) (by simp only [RK.val?, ev, updo, upd, show (0 : Nat) ≠ t by omega, show (0 : Nat) ≠ t + 1 by omega, if_false, h0]) ?_
  refine walkB_step (v := .pointer (some ⟨B, base, none⟩)) (by simp only [RK.val?, ev, updo, upd_same]) ?_
  refine walkB_step (v := .pointer (some ⟨B, base + off, none⟩)) (by simp only [RK.val?, ev, updo, upd_same, Addr.add_mk]) ?_
  refine h _ (fun j hj => ?_) ?_ ?_
  · simp only [updo, upd, show j ≠ t by omega, show j ≠ t + 1 by omega, show j ≠ t + 2 by omega, show j ≠ t + 3 by omega, show j ≠ t + 4 by omega, if_false]
  · simp only [updo, upd, show t + 1 ≠ t + 4 by omega, show t + 1 ≠ t + 3 by omega, show t + 1 ≠ t + 2 by omega, if_false, if_true]
  · simp only [updo, upd_same]
theorem putTree {i t Tb Lb n : Nat} {pre post : List Value} {tr : TR} {σ : Sl} {w w1 : World} {cs : List Value} {Q : Exit → Sl → World → Prop} {x y : Nat} {σ1 : Sl} (hw : TW w Tb Lb n (pre ++ (tzero ++ post))) (hpre : pre.length = i * 5)
    (hm : Mod [] w w1) (hrep : RepT (fun b => w.heap.size ≤ b) w1 tr cs) (ha : Ag t σ σ1) (hx : σ1 x = .pointer (some ⟨Lb, i * 5, none⟩)) (hy : σ1 y = .agg cs.toArray)
    (hQ : ∀ σ' w' cs, Ag t σ σ' → Mod [Lb] w w' → RepT (fun b => w.heap.size ≤ b) w' tr cs → TW w' Tb Lb n (pre ++ (cs ++ post)) → Q .normal σ' w') : wpR P [⟨none, .st (.tmp x) 5 (.tmp y), none⟩] σ1 w1 (Q .normal) := by
  have hlb1 : Blk w1 Lb (pre ++ (tzero ++ post)) := hw.lb.mod hm (by simp)
  have h5 := hrep.five
  have hput : Mod [Lb] w1 (putCells w1 ⟨Lb, i * 5, none⟩ 0 cs) := Mod.put (by simp)
  have ec : (Value.agg cs.toArray).cells = cs.toArray := rfl
  refine wpR_run ?_
  simp only [RK.run, ev, hx, hy, ec]
  refine ⟨by simp [h5], stOk_many hlb1 (by simp [tzero]; omega) (by simpa using hrep.oneCell), ?_⟩
  simp only [wpR]
  refine hQ _ _ cs (fun j hj => ha j hj) (hm.nil.trans hput) (hrep.mod hput (fun b hb => ?_) fun _ _ h => h) ⟨?_, ?_, hw.ne⟩
  · simp only [List.mem_singleton] at hb; subst hb; have := hw.lb.lt; omega
  · exact (hw.tb.mod hm (by simp)).mod hput (by simpa using hw.ne)
  · have := hlb1.put (o := i * 5) (vs := cs) (by simp [tzero]; omega)
    rwa [splice_mid hpre (by simp [h5, tzero])] at this
theorem subF_wp {f : FuncId} {T : List GV → Prop} (hf : TellS P f T) {i t off Tb Lb n B base : Nat} {O : List Nat} {pre post : List Value} {gl : List GV} {css : List (List Value)} {σ : Sl} {w : World} {Q : Exit → Sl → World → Prop} (ht : 4 ≤ t)
    (h0 : σ 0 = .pointer (some ⟨B, base, none⟩)) (h3 : σ 3 = .pointer (some ⟨Tb, 0, none⟩)) (hw : TW w Tb Lb n (pre ++ (tzero ++ post))) (hpre : pre.length = i * 5) (hi : i < n)
    (hg : T gl) (hr : RepL O w gl css) (hc : Cells w ⟨B, base + off, none⟩ css.flatten)
    (hQ : ∀ σ' w' cs, Ag t σ σ' → Mod [Lb] w w' → RepT (fun b => w.heap.size ≤ b) w' (GV.rcd gl).told cs → TW w' Tb Lb n (pre ++ (cs ++ post)) → Q .normal σ' w') : wpC P (subF f i t off) Q σ w := by
  have c3' : w.drew.cell? ⟨Tb, 3, none⟩ = some (.slice (some ⟨Lb, 0, none⟩) n n) := hw.tb.cell 3
  unfold subF
  simp only [wpC]
  refine wpD_of_B (fun _ v w1 => ∃ cs, v = .agg cs.toArray ∧ RepT (fun b => w.heap.size ≤ b) w1 (GV.rcd gl).told cs) (fun _ v w1 w2 h hm => ?_) (headC_walkB ht h0 h3 c3' fun σ1 a1 s1 s4 => ?_)
  · obtain ⟨cs, h1, h2⟩ := h
    exact ⟨cs, h1, h2.mod hm (by simp) fun _ _ h => h⟩
  refine walkB_node (fun w1 hm1 _ => ?_) fun u hu => ?_
  · simp only [RK.run, ev, s4, List.map_cons, List.map_nil]
    have hm1' : Mod [] w w1 := (Mod.drew _ _).trans hm1
    refine (hf O w1 B (base + off) gl css hg (hr.fresh hm1' (by simp) (fun x hx => .inl hx)) (hc.mod hm1' (.inr (by simp)))).mono ?_
    rintro e w2 ⟨cs, rfl, hrep, hm2⟩
    exact ⟨_, rfl, hm2, cs, rfl, hrep.mod (Mod.refl [] _) (by simp) fun b _ hb => Nat.le_trans hm1'.size hb⟩
  refine walkB_step (v := .pointer (some ⟨Lb, i * 5, none⟩)) (by
      simp only [RK.val?, ev, updo, upd, show t + 1 ≠ t + 5 by omega, if_false, s1]
      rw [if_pos (by omega)]; simp [Addr.add_mk]) ?_
  simp only [walkB]
  intro w1 hm1 hkn
  have h6 := hkn 5 (by simp [headC]) ⟨⟨some (t + 5), .call f [.tmp (t + 4)], none⟩, true, []⟩ (by simp [headC]) rfl rfl (t + 5) rfl
  obtain ⟨cs, e1, h6⟩ := h6
  refine putTree hw hpre ((Mod.drew [] w).trans hm1) h6 (fun j hj => ?_) (by simp only [updo, upd_same]) e1 hQ
  simp only [updo, upd, show j ≠ t + 6 by omega, show j ≠ t + 5 by omega, if_false]
  exact a1 j hj
theorem uidF_wp {i t off Tb Lb n B base : Nat} {pre post : List Value} {l : List UInt8} {σ : Sl} {w : World} {Q : Exit → Sl → World → Prop} (ht : 4 ≤ t)
    (h0 : σ 0 = .pointer (some ⟨B, base, none⟩)) (h3 : σ 3 = .pointer (some ⟨Tb, 0, none⟩)) (hw : TW w Tb Lb n (pre ++ (tzero ++ post))) (hpre : pre.length = i * 5) (hi : i < n)
    (hl : l.length = 16) (hc : Cells w ⟨B, base + off, none⟩ (u8s l)) (hB : B < w.heap.size)
    (hQ : ∀ σ' w' cs, Ag t σ σ' → Mod [Lb] w w' → RepT (fun b => w.heap.size ≤ b) w' (GV.arr l).told cs → TW w' Tb Lb n (pre ++ (cs ++ post)) → Q .normal σ' w') : wpC P (uidF i t off) Q σ w := by
  have c3' : w.drew.cell? ⟨Tb, 3, none⟩ = some (.slice (some ⟨Lb, 0, none⟩) n n) := hw.tb.cell 3
  unfold uidF
  simp only [wpC]
  refine wpD_of_B (fun _ v w1 => SlC (fun b => w.heap.size ≤ b) w1 v l.length (u8s l)) (fun _ v w1 w2 h hm => h.mod hm (by simp) fun _ _ h => h) (headC_walkB ht h0 h3 c3' fun σ1 a1 s1 s4 => ?_)
  refine walkB_step (v := .slice (some ⟨B, base + off, none⟩) 16 16) (by simp only [RK.val?, ev, s4]) ?_
  refine walkB_node (fun w1 hm1 _ => ?_) fun u hu => ?_
  · have hm1' : Mod [] w w1 := (Mod.drew _ _).trans hm1
    refine appendNil_bytes (v := .slice (some ⟨B, base + off, none⟩) 16 16) (l := l) (ok := fun _ => True) (by simp only [ev, updo, upd_same])
      ⟨_, 16, by rw [hl], by omega, fun h => by simp at h, fun a ha _ => by
        simp only [Option.some.injEq] at ha; subst ha
        exact ⟨trivial, Nat.lt_of_lt_of_le hB hm1'.size, hc.mod hm1' (.inr (by simp))⟩⟩ (by omega) fun b c w2 hb _ hge hm2 => ⟨hm2, ?_⟩
    exact hb.slc fun a ha => ⟨Nat.le_trans hm1'.size (hge a ha).1, (hge a ha).2⟩
  obtain ⟨wu, b4, c4, rfl, -⟩ := hu
  refine walkB_step (v := .agg #[.int .i64 0, .slice b4 l.length c4, .bool false, .slice none 0 0, .slice none 0 0]) (by
    simp only [RK.val?, ev, updo, upd_same, tzero, fillL, List.map_cons, List.map_nil, Value.cells]; simp [splice]) ?_
  refine walkB_step (v := .pointer (some ⟨Lb, i * 5, none⟩)) (by
      simp only [RK.val?, ev, updo, upd, show t + 1 ≠ t + 5 by omega, show t + 1 ≠ t + 6 by omega, show t + 1 ≠ t + 7 by omega, if_false, s1]
      rw [if_pos (by omega)]; simp [Addr.add_mk]) ?_
  simp only [walkB]
  intro w1 hm1 hkn
  have h6 := hkn 6 (by simp [headC]) ⟨⟨some (t + 6), .append (.const (.slice none 0 0)) (.tmp (t + 5)) 1 1, none⟩, true, []⟩ (by simp [headC]) rfl rfl (t + 6) rfl
  simp only [updo, upd, show t + 6 ≠ t + 8 by omega, show t + 6 ≠ t + 7 by omega, if_false, if_true] at h6
  refine putTree (cs := [.int .i64 0, .slice b4 l.length c4, .bool false, .slice none 0 0, .slice none 0 0]) hw hpre ((Mod.drew [] w).trans hm1) (by simpa only [GV.told] using RepT.oct false h6) (fun j hj => ?_) (by simp only [updo, upd_same]) (by
    simp only [updo, upd, show t + 7 ≠ t + 8 by omega, if_false, if_true]) hQ
  simp only [updo, upd, show j ≠ t + 8 by omega, show j ≠ t + 7 by omega, show j ≠ t + 6 by omega, show j ≠ t + 5 by omega, if_false]
  exact a1 j hj
end
end Go.Msk
