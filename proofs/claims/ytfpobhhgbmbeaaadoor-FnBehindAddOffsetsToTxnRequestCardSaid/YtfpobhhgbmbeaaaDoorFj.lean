/- A small language of resolved operations, and what the generic and the generated functions do in it (part 10). -/
import Derived.Test.YtfpobhhgbmbeaaaDoorFi

/-! Functions of the laws, the thin package and the reference: what they do. -/
namespace Go.Msk
open Go.RowKit
set_option maxRecDepth 100000

section
variable {P : Program} {F : Nat → Nat}
attribute [local simp] bnd wpC wpR RI.wp gOk RK.run thenC inBlockC updo upd ev args0 postC rvals RV.val tup_one isShift

/-- Octets copied behind nothing. -/
theorem appendNil_run {σ : Sl} {w : World} {x : Operand} {v : Value} {l : List UInt8} {ok : Nat → Prop} {K : Value → World → Prop} (hx : ev σ x = v) (hv : SlC ok w v l.length (u8s l)) (hl : l.length ≤ 2147483647)
    (hK : ∀ v' w', SlC (fun b => w.heap.size ≤ b) w' v' l.length (u8s l) → Mod [] w w' → K v' w') : (RK.append (.const (.slice none 0 0)) x 1 1).run P σ w K := by
  obtain ⟨base, cap, rfl, hcap, hb0, hb⟩ := hv
  have hsrc : srcCells w 1 (.slice base l.length cap) = some (l.length, u8s l) := by
    cases base with
    | none => have := hb0 rfl; have : l = [] := List.length_eq_zero_iff.1 (by omega); subst this; simp [srcCells, u8s]
    | some a =>
      by_cases hc0 : 0 < cap
      · obtain ⟨h1, h2, h3⟩ := hb a rfl hc0
        simp only [srcCells, Nat.mul_one]
        rw [cellsAt_of' h3 (u8s_length l)]; rfl
      · have : l = [] := List.length_eq_zero_iff.1 (by omega)
        subst this; simp [srcCells, cellsAt, u8s]
  have e1 : ev σ (.const (.slice none 0 0)) = .slice none 0 0 := rfl
  simp only [RK.run, e1, hx, hsrc, appendRun]
  by_cases h0 : l.length = 0
  · have : l = [] := List.length_eq_zero_iff.1 h0
    subst this
    simp only [List.length_nil, Nat.add_zero, Nat.le_refl, if_true]
    exact hK _ _ SlC.nil (Mod.refl _ _)
  · rw [if_neg (by omega)]
    refine ⟨by omega, by omega, ?_⟩
    intro T cap' rest hc hr
    refine hK _ _ ⟨some ⟨w.heap.size, 0, none⟩, cap', by simp, by simpa using hc, fun h => by simp at h, fun a ha _ => ?_⟩ ((Mod.drew _ _).trans (Mod.alloc _ _ _))
    simp only [Option.some.injEq] at ha; subst ha
    have hblk := Blk.new w.drew (u8s l ++ rest) T
    refine ⟨Nat.le_refl _, hblk.lt, ?_⟩
    have := hblk.cells.take (u8s l).length
    simpa using this

/-- Octets that may be nil, as a slice that reads. -/
theorem OctX.slc {O : List Nat} {w : World} {v : Value} {o : Option (List UInt8)} (h : OctX O w v o) : SlC (fun _ => True) w v (o.getD []).length (u8s (o.getD [])) ∧ ∃ b n c, v = .slice b n c ∧ b.isNone = o.isNone := by
  obtain ⟨h1, h2⟩ := h
  cases o with
  | none => simp only [IsOct] at h1; subst h1; exact ⟨SlC.nil, _, _, _, rfl, rfl⟩
  | some l =>
    obtain ⟨a, n, c, rfl, hb⟩ := h1
    refine ⟨⟨some a, c, by rw [hb.hlen]; rfl, by have := hb.hcap; have := hb.hlen; simp only [Option.getD_some]; omega, fun h => by simp at h, fun a' e _ => ?_⟩, _, _, _, rfl, rfl⟩
    simp only [Option.some.injEq] at e; subst e
    exact ⟨trivial, (h2 a n c rfl).2, hb.hcells a rfl⟩


/-- A tree is handed back. -/
theorem treeRet {σ : Sl} {w w0 : World} {t b2 : Nat} {cs : List Value} {tr : TR} (h2 : σ 2 = .pointer (some ⟨b2, 0, none⟩)) (hb : Blk w b2 tzero) (ht : σ t = .agg cs.toArray) (hrep : RepT (fun b => w0.heap.size ≤ b ∧ b ≠ b2) w tr cs)
    (hm : Mod [b2] w0 w) (hw0 : w0.heap.size ≤ b2) : wpR P [⟨none, .st (.tmp 2) 5 (.tmp t), none⟩] σ w (fun σ' w' => postC [.cells 2 5] (fun e w' => ∃ cs, e = .returned (.agg cs.toArray) ∧ RepT (fun b => w0.heap.size ≤ b) w' tr cs ∧ Mod [] w0 w') .ret σ' w') := by
  have h5 := hrep.five
  have hput : Mod [b2] w (putCells w ⟨b2, 0, none⟩ 0 cs) := Mod.put (by simp)
  have hp := hb.put (o := 0) (vs := cs) (by simp [h5, tzero])
  rw [splice_all (by rw [h5]; rfl)] at hp
  have ec : (Value.agg cs.toArray).cells = cs.toArray := rfl
  simp only [wpR, RI.wp, gOk, if_true, RK.run, ev, h2, ht, ec, updo]
  refine ⟨by simp [h5], stOk_many hb (by simp [h5, tzero]) (by simpa using hrep.oneCell), ?_⟩
  simp only [postC, rvals, List.mapM_cons, List.mapM_nil, RV.val, h2, cellsAt_of' hp.cells h5, Option.bind_eq_bind, Option.map_some, Option.bind_some, Option.pure_def, tup_one]
  exact ⟨cs, rfl, hrep.mod hput (fun b hb hx => by simp only [List.mem_singleton] at hb; exact hx.2 hb) (fun b _ hb => hb.1), Mod.drop (b := b2) (S := []) (hm.trans hput) hw0⟩

theorem octetsTree_ok (hm : P.follows .mixedOrders = true) (h : liftF P (F iOctetsTree) = some (ir_iOctetsTree F)) : (TK.oct (F iOctetsTree)).Ok P := by
  intro O w g v hg hr
  obtain ⟨o, rfl, hl⟩ := hg
  have ho : OctX O w v o := by cases hr with | byt h => exact h
  obtain ⟨hs, b, n, c, rfl, hbn⟩ := ho.slc
  refine call_of h hm (by simp) ?_
  rw [wpC_seq, wpC_blk]
  refine wpR_run ?_
  intro T
  have hb2 : Blk (w.alloc (.cells tzero.toArray T)) w.heap.size tzero := Blk.new w tzero T
  have hm1 : Mod [] w (w.alloc (.cells tzero.toArray T)) := Mod.alloc _ _ _
  have hs1 := hs.mod (ok' := fun _ => True) hm1 (by simp) fun _ _ h => h
  have hz : ([Value.int .i64 0, .slice none 0 0, .bool false, .slice none 0 0, .slice none 0 0] : List Value) = tzero := rfl
  rw [hz]
  have hsz : (w.alloc (.cells tzero.toArray T)).heap.size = w.heap.size + 1 := by simp
  generalize w.alloc (.cells tzero.toArray T) = w1 at hb2 hm1 hs1 hsz ⊢
  have a0 : args0 [.slice b n c] 0 = .slice b n c := rfl
  generalize args0 [.slice b n c] = σ0 at a0 ⊢
  show wpC P (.seq _ _) _ _ _
  rw [wpC_seq, wpC_blk]
  refine wpR_step (v := .slice b n c) (by simp [RK.val?, a0]) ?_
  refine wpR_run ?_
  refine appendNil_run (v := .slice b n c) (by simp) hs1 (by cases o with | none => simp | some l => exact hl l rfl) fun v' w2 hv' hm2 => ?_
  have ht : GV.told (.byt o) = .mk 0 (o.getD []) o.isNone [] [] := by cases o <;> rfl
  rw [ht]
  obtain ⟨b', c', rfl, -⟩ := id hv'
  refine wpR_step (v := .slice b n c) (by simp [RK.val?, a0]) ?_
  refine wpR_step (v := .bool o.isNone) (by simp [RK.val?, hbn]) ?_
  refine wpR_step (v := .agg [.int .i64 0, .slice b' (o.getD []).length c', .bool o.isNone, .slice none 0 0, .slice none 0 0].toArray) (by simp [RK.val?, fillL, tzero, splice, Value.cells]) ?_
  refine treeRet (by simp) (hb2.mod hm2 (by simp)) (by simp) (RepT.oct _ (hv'.mod (Mod.refl [] _) (by simp) fun x _ hx => ⟨by omega, by omega⟩)) ((hm1.trans hm2).nil) (Nat.le_refl _)

theorem textTree_ok (hm : P.follows .mixedOrders = true) (h : liftF P (F iTextTree) = some (ir_iTextTree F)) : (TK.txt (F iTextTree)).Ok P := by
  intro O w g v hg hr
  obtain ⟨o, rfl⟩ := hg
  refine call_of h hm (by simp) ?_
  rw [wpC_seq, wpC_blk]
  refine wpR_run ?_
  intro T
  have hb2 : Blk (w.alloc (.cells tzero.toArray T)) w.heap.size tzero := Blk.new w tzero T
  have hm1 : Mod [] w (w.alloc (.cells tzero.toArray T)) := Mod.alloc _ _ _
  have hr1 := hr.mod hm1 (by simp)
  have hz : ([Value.int .i64 0, .slice none 0 0, .bool false, .slice none 0 0, .slice none 0 0] : List Value) = tzero := rfl
  rw [hz]
  have hsz : (w.alloc (.cells tzero.toArray T)).heap.size = w.heap.size + 1 := by simp
  generalize w.alloc (.cells tzero.toArray T) = w1 at hb2 hm1 hr1 hsz ⊢
  have a0 : args0 [v] 0 = v := rfl
  generalize args0 [v] = σ0 at a0 ⊢
  show wpC P (.seq (.seq _ _) _) _ _ _
  rw [wpC_seq, wpC_seq, wpC_blk]
  refine wpR_step (v := v) (by simp [RK.val?, a0]) ?_
  cases o with
  | none =>
    have hv : v = .pointer none := by cases hr with | nstr0 => rfl
    subst hv
    refine wpR_step (v := .bool true) (by simp [RK.val?]) ?_
    simp only [wpR, thenC]
    rw [wpC_cond_t (by simp), wpC_seq, wpC_blk]
    refine wpR_step (v := .agg [.int .i64 0, .slice none 0 0, .bool true, .slice none 0 0, .slice none 0 0].toArray) (by simp [RK.val?, fillL, tzero, splice, Value.cells]) ?_
    exact treeRet (by simp) hb2 (by simp) (RepT.num 0 true) hm1.nil (Nat.le_refl _)
  | some l =>
    obtain ⟨b, rfl, hcell⟩ : ∃ b, v = .pointer (some ⟨b, 0, none⟩) ∧ w1.cell? ⟨b, 0, none⟩ = some (str l) := by
      cases hr1 with | nstr1 h1 h2 => exact ⟨_, rfl, h2⟩
    refine wpR_step (v := .bool false) (by simp [RK.val?]) ?_
    simp only [wpR, thenC]
    rw [wpC_cond_f (by simp), wpC_skip]
    simp only [thenC]
    rw [wpC_seq, wpC_blk]
    refine wpR_step (v := .pointer (some ⟨b, 0, none⟩)) (by simp [RK.val?, a0]) ?_
    refine wpR_step (v := .pointer (some ⟨b, 0, none⟩)) (by simp [RK.val?]) ?_
    refine wpR_step (v := str l) (by simp [RK.val?, hcell]) ?_
    refine wpR_run ?_
    simp only [RK.run, ev, updo, upd_same, str]
    intro T2 cap rest hcap hrest
    have hsz2 : (⟨l.toArray⟩ : ByteArray).size = l.length := by simp [ByteArray.size]
    rw [hsz2] at hcap hrest ⊢
    have hblk := Blk.new' w1.drew (u8s l ++ rest) T2 (cap, cap + 1) (by simp only [List.length_append, u8s_length]; omega)
    have hm2 : Mod [] w1 (w1.drew.alloc (.cells (u8s l ++ rest).toArray T2 (cap, cap + 1))) := (Mod.drew _ _).trans (Mod.alloc _ _ _)
    have hs : SlC (fun x => w.heap.size ≤ x ∧ x ≠ w.heap.size) (w1.drew.alloc (.cells (u8s l ++ rest).toArray T2 (cap, cap + 1))) (.slice (some ⟨w1.heap.size, 0, none⟩) l.length cap) l.length (u8s l) := by
      refine ⟨some ⟨w1.heap.size, 0, none⟩, cap, rfl, hcap, fun h => by simp at h, fun a ha _ => ?_⟩
      simp only [Option.some.injEq] at ha; subst ha
      refine ⟨⟨show w.heap.size ≤ w1.heap.size by omega, show w1.heap.size ≠ w.heap.size by omega⟩, hblk.lt, ?_⟩
      have := hblk.cells.take (u8s l).length
      simpa using this
    refine wpR_step (v := .agg [.int .i64 0, .slice (some ⟨w1.heap.size, 0, none⟩) l.length cap, .bool false, .slice none 0 0, .slice none 0 0].toArray) (by simp [RK.val?, fillL, tzero, splice, Value.cells]) ?_
    exact treeRet (by simp) (hb2.mod hm2 (by simp)) (by simp) (RepT.oct _ hs) ((hm1.trans hm2).nil) (Nat.le_refl _)

theorem version_call (hm : P.follows .mixedOrders = true) (h : liftF P (F lVersion) = some (ir_lVersion F)) {w : World} {n m : Int} (hn : 0 ≤ n ∧ n < 256) (hm0 : 0 ≤ m ∧ m < 32768) :
    Calls P (F lVersion) [.int .u8 n, .int .i64 m].toArray w fun e w' => e = .returned (.int .i64 (n % (m + 1))) ∧ w' = w := by
  refine call_of h hm (by simp) ?_
  have e1 : IntKind.i64.wrap n = n := by simp [IntKind.wrap, IntKind.bits, IntKind.signed]; omega
  have e2 : IntKind.i64.wrap (m + 1) = m + 1 := by simp [IntKind.wrap, IntKind.bits, IntKind.signed]; omega
  have e3 : IntKind.i64.wrap (n.tmod (m + 1)) = n % (m + 1) := by
    have h1 : n.tmod (m + 1) = n % (m + 1) := Int.tmod_eq_emod_of_nonneg hn.1
    have h2 : 0 ≤ n % (m + 1) := Int.emod_nonneg _ (by omega)
    have h3 : n % (m + 1) < m + 1 := Int.emod_lt_of_pos _ (by omega)
    rw [h1]
    simp only [IntKind.wrap, IntKind.bits, IntKind.signed]; simp; omega
  have e4 : n.tmod (m + 1) = n % (m + 1) := Int.tmod_eq_emod_of_nonneg hn.1
  have e0 : m + 1 ≠ 0 := by omega
  simp [e1, e2, intBin, e0, e4]

end
end Go.Msk

/-! Octets held against octets. -/
namespace Go.Msk
open Go.RowKit
set_option maxRecDepth 100000

theorem SlC.get {ok : Nat → Prop} {w : World} {v : Value} {l : List UInt8} (h : SlC ok w v l.length (u8s l)) {i : Nat} (hi : i < l.length) :
    ∃ a c b, v = .slice (some a) l.length c ∧ l[i]? = some b ∧ w.cell? (a.add (i * 1)) = some (.int .u8 b.toNat) := by
  obtain ⟨base, cap, rfl, h2, h3, h4⟩ := h
  cases base with
  | none => have := h3 rfl; omega
  | some a =>
    obtain ⟨-, -, hc⟩ := h4 a rfl (by omega)
    have hb : l[i]? = some l[i] := List.getElem?_eq_getElem hi
    exact ⟨a, cap, l[i], rfl, hb, by rw [Nat.mul_one]; exact hc.nth (by rw [u8s_get, hb]; rfl)⟩

theorem SlC.shape {ok : Nat → Prop} {w : World} {v : Value} {n : Nat} {cs : List Value} (h : SlC ok w v n cs) : ∃ b c, v = .slice b n c := by
  obtain ⟨base, cap, rfl, -⟩ := h; exact ⟨_, _, rfl⟩

theorem u8_ne (a b : UInt8) : ((a.toNat : Int) != b.toNat) = (a != b) := by
  by_cases h : a = b
  · subst h; simp
  · have h1 : (a != b) = true := by simpa using h
    have h2 : ((a.toNat : Int) != b.toNat) = true := by
      simp only [bne_iff_ne, ne_eq, Int.natCast_inj]
      exact fun e => h (UInt8.toNat_inj.1 e)
    rw [h1, h2]

section
variable {P : Program} {F : Nat → Nat}
attribute [local simp] bnd wpC wpR RI.wp gOk RK.run thenC inBlockC updo upd ev args0 postC rvals RV.val tup_one isShift

theorem same_call (hm : P.follows .mixedOrders = true) (h : liftF P (F sSame) = some (ir_sSame F)) {ok : Nat → Prop} {w : World} {v1 v2 : Value} {l1 l2 : List UInt8} (h1 : SlC ok w v1 l1.length (u8s l1)) (h2 : SlC ok w v2 l2.length (u8s l2))
    (hl : l1.length ≤ 4611686018427387904) : Calls P (F sSame) [v1, v2].toArray w fun e w' => e = .returned (.bool (decide (l1 = l2))) ∧ Mod [] w w' := by
  refine call_of h hm (by simp) ?_
  obtain ⟨b1, c1, e1⟩ := h1.shape
  obtain ⟨b2, c2, e2⟩ := h2.shape
  have a0 : args0 [v1, v2] 0 = v1 := rfl
  have a1 : args0 [v1, v2] 1 = v2 := rfl
  generalize args0 [v1, v2] = σ0 at a0 a1 ⊢
  rw [wpC_seq, wpC_blk]
  refine wpR_step (v := .bool false) (by simp [RK.val?]) ?_
  simp only [wpR, thenC]
  rw [wpC_seq, wpC_seq, wpC_blk]
  refine wpR_step (v := v1) (by simp [RK.val?, a0]) ?_
  refine wpR_step (v := .int .i64 l1.length) (by simp [RK.val?, e1]) ?_
  refine wpR_step (v := v2) (by simp [RK.val?, a1]) ?_
  refine wpR_step (v := .int .i64 l2.length) (by simp [RK.val?, e2]) ?_
  refine wpR_step (v := .bool ((l1.length : Int) != l2.length)) (by simp [RK.val?, intBin]) ?_
  simp only [wpR, thenC]
  by_cases hlen : l1.length = l2.length
  · have hb : ((l1.length : Int) != l2.length) = false := by simp [hlen]
    rw [wpC_cond_f (by simp [hb]), wpC_skip]
    simp only [thenC]
    rw [wpC_seq, wpC_seq, wpC_blk]
    refine wpR_step (v := v1) (by simp [RK.val?, a0]) ?_
    refine wpR_step (v := .int .i64 l1.length) (by simp [RK.val?, e1]) ?_
    refine wpR_step (v := .int .i64 0) (by simp [RK.val?]) ?_
    simp only [wpR, thenC]
    rw [wpC_block, wpC_loop]
    refine ⟨fun σ1 w1 => ∃ i, i ≤ l1.length ∧ σ1 13 = .int .i64 i ∧ σ1 12 = .int .i64 l1.length ∧ σ1 0 = v1 ∧ σ1 1 = v2 ∧ Mod [] w w1 ∧ ∀ k, k < i → l1[k]? = l2[k]?,
      fun σ1 _ => l1.length - (match σ1 13 with | .int _ j => j.toNat | _ => 0), ⟨0, Nat.zero_le _, by simp, by simp, by simp [a0], by simp [a1], Mod.refl _ _, by simp⟩, ?_⟩
    rintro σ1 w1 ⟨i, hi, h13, h12, hv1, hv2, hm1, hpre⟩
    rw [wpC_seq, wpC_blk]
    refine wpR_step (v := .bool (decide ((i : Int) < l1.length))) (by simp [RK.val?, h13, h12, intBin]) ?_
    simp only [wpR, thenC]
    rw [wpC_seq]
    by_cases hlt : i < l1.length
    · rw [wpC_cond_t (by simp [hlt]), wpC_skip]
      simp only [thenC]
      rw [wpC_seq, wpC_block, wpC_seq, wpC_blk]
      refine wpR_step (v := .int .i64 i) (by simp [RK.val?, h13]) ?_
      refine wpR_step (v := .int .i64 i) (by simp [RK.val?]) ?_
      simp only [wpR, thenC]
      have hm2 : Mod [] w w1.drew := hm1.trans (Mod.drew _ _)
      obtain ⟨p1, d1, x1, f1, f2, f3⟩ := (h1.mod (ok' := ok) hm2 (by simp) fun _ _ h => h).get hlt
      obtain ⟨p2, d2, x2, f4, f5, f6⟩ := (h2.mod (ok' := ok) hm2 (by simp) fun _ _ h => h).get (hlen ▸ hlt)
      rw [wpC_seq]
      show wpD P _ _ _ _ _
      refine wpD_pure rfl ?_
      simp only [List.map_cons, List.map_nil, List.append_nil]
      refine wpR_step (v := v1) (by simp [RK.val?, hv1]) ?_
      refine wpR_step (v := .int .i64 i) (by simp [RK.val?]) ?_
      refine wpR_step (v := .pointer (some (p1.add (i * 1)))) (by simp [RK.val?, f1, hlt]) ?_
      refine wpR_step (v := .int .u8 x1.toNat) (by simp [RK.val?]; simpa using f3) ?_
      refine wpR_step (v := v2) (by simp [RK.val?, hv2]) ?_
      refine wpR_step (v := .int .i64 i) (by simp [RK.val?]) ?_
      refine wpR_step (v := .pointer (some (p2.add (i * 1)))) (by simp [RK.val?, f4, ← hlen, hlt]) ?_
      refine wpR_step (v := .int .u8 x2.toNat) (by simp [RK.val?]; simpa using f6) ?_
      refine wpR_step (v := .bool (x1 != x2)) (by simp [RK.val?, intBin, u8_ne]) ?_
      simp only [wpR, thenC]
      by_cases hx : x1 = x2
      · subst hx
        rw [wpC_cond_f (by simp), wpC_skip]
        have hw : IntKind.i64.wrap ((i : Int) + 1) = ((i + 1 : Nat) : Int) := by
          simp only [IntKind.wrap, IntKind.bits, IntKind.signed]; simp; omega
        simp only [inBlockC, thenC]
        rw [wpC_blk]
        refine wpR_step (v := .int .i64 ((i + 1 : Nat) : Int)) (by simp [RK.val?, intBin, h13, hw]) ?_
        refine wpR_step (v := .int .i64 ((i + 1 : Nat) : Int)) (by simp [RK.val?]) ?_
        simp only [wpR, thenC]
        refine ⟨⟨i + 1, hlt, by simp, by simp [h12], by simp [hv1], by simp [hv2], hm2, fun k hk => ?_⟩, ?_⟩
        · rcases Nat.lt_or_ge k i with hk' | hk'
          · exact hpre k hk'
          · have : k = i := by omega
            subst this; rw [f2, f5]
        · simp [h13]; show l1.length - (i + 1) < l1.length - i; omega
      · rw [wpC_cond_t (by simp [hx]), wpC_seq, wpC_blk]
        refine wpR_step (v := .bool false) (by simp [RK.val?]) ?_
        have hne : l1 ≠ l2 := fun e => by subst e; rw [f2] at f5; simp at f5; exact hx f5
        simp [hne, hm2]
    · rw [wpC_cond_f (by simp; omega)]
      have hie : i = l1.length := by omega
      have heq : l1 = l2 := by
        apply List.ext_getElem? ; intro k
        rcases Nat.lt_or_ge k l1.length with hk | hk
        · exact hpre k (by omega)
        · rw [List.getElem?_eq_none hk, List.getElem?_eq_none (by omega)]
      simp [heq, hm1]
  · have hb : ((l1.length : Int) != l2.length) = true := by simp; omega
    rw [wpC_cond_t (by simp [hb]), wpC_seq, wpC_blk]
    refine wpR_step (v := .bool false) (by simp [RK.val?]) ?_
    have hne : l1 ≠ l2 := fun e => hlen (by rw [e])
    simp [hne, Mod.refl]

end
end Go.Msk

/-! laws.got: a tree of the thin package as one of the reference. -/
namespace Go.Msk
open Go.RowKit
set_option maxRecDepth 100000

/-- What is asked of got at a tree. -/
def GotAt (P : Program) (f : FuncId) (t : TR) : Prop :=
  ∀ (N : Nat) (w : World) (cs : List Value), N ≤ w.heap.size → RepT (fun b => b < N) w t cs →
    Calls P f [.agg cs.toArray].toArray w fun e w' => ∃ cs', e = .returned (.agg cs'.toArray) ∧ RepT (fun b => b < N ∨ w.heap.size ≤ b) w' t cs' ∧ Mod [] w w'

/-- A slice of new things of n cells each that grows (as LRaw, for any size). -/
structure LRaw2 (w : World) (n0 : Nat) (lv : Value) (css : List (List Value)) : Prop where
  two : ∀ cs ∈ css, cs.length = 2
  sl : (lv = .slice none 0 0 ∧ css = []) ∨ ∃ BA cap rest, lv = .slice (some ⟨BA, 0, none⟩) css.length cap ∧ css.length ≤ cap ∧ n0 ≤ BA ∧ Blk w BA (css.flatten ++ rest) ∧ rest.length = (cap - css.length) * 2

section
variable {P : Program} {F : Nat → Nat}
attribute [local simp] bnd wpC wpR RI.wp gOk RK.run thenC inBlockC updo upd ev args0 postC rvals RV.val tup_one isShift

/-- What the loops of got keep. -/
structure GS (w3 w : World) (Ob : Nat) (n : Int) (sv lv uv : Value) (null : Bool) (N : Nat) (ts : List TR) (tcs : List (List Value)) : Prop where
  ob : Blk w Ob [.int .i64 n, sv, .bool null, lv, uv]
  raw : LRaw w w3.heap.size lv tcs
  rep : RepTL (fun b => b < N ∨ (w3.heap.size ≤ b ∧ own lv ≠ some b)) w ts tcs
  mod : Mod [Ob] w3 w
  lob : Ob < w3.heap.size
  nob : N ≤ Ob

theorem GS.same {w3 w w' : World} {Ob : Nat} {n : Int} {sv lv uv : Value} {null : Bool} {N : Nat} {ts : List TR} {tcs : List (List Value)} (h : GS w3 w Ob n sv lv uv null N ts tcs) (hm : Mod [] w w') : GS w3 w' Ob n sv lv uv null N ts tcs :=
  ⟨h.ob.mod hm (by simp), h.raw.mod hm (by simp), h.rep.mod hm (by simp) (fun _ _ h => h), h.mod.trans hm.nil, h.lob, h.nob⟩

/-- One more tree behind the others. -/
theorem GS.step {w3 w wr : World} {Ob : Nat} {n : Int} {sv lv uv : Value} {null : Bool} {N : Nat} {ts : List TR} {tcs : List (List Value)} {t : TR} {es : List Value} {sb : Nat} {σ : Sl} {x y a : Operand} {d1 d2 : Nat} {Q : Sl → World → Prop} (h : GS w3 w Ob n sv lv uv null N ts tcs)
    (hx : ev σ x = lv) (hy : ev σ y = .slice (some ⟨sb, 0, none⟩) 1 1) (hsb : Blk w sb es) (ht : RepT (fun b => b < N ∨ wr.heap.size ≤ b) w t es) (hlen : tcs.length ≤ 2147483647)
    (hwr : ∀ b, own lv = some b → b < wr.heap.size) (hwr3 : w3.heap.size ≤ wr.heap.size) (ha : ∀ v, ev (upd σ d1 v) a = .pointer (some ⟨Ob, 0, none⟩)) (hd : d1 ≠ d2)
    (hQ : ∀ w' lv', GS w3 w' Ob n sv lv' uv null N (ts ++ [t]) (tcs ++ [es]) → Q (upd (upd σ d1 lv') d2 (.pointer (some ⟨Ob, 3, none⟩))) w') :
    wpR P [⟨some d1, .append x y 5 88, none⟩, ⟨some d2, .fad a 3, none⟩, ⟨none, .st (.tmp d2) 1 (.tmp d1), none⟩] σ w Q := by
  have hlob := h.lob
  have hnob := h.nob
  refine wpR_run ?_
  refine append_tree hx h.raw h.mod.size hy hsb ht.five ht.oneCell hlen fun lv' w1 hraw1 hown => ?_
  refine wpR_step (v := .pointer (some ⟨Ob, 3, none⟩)) (by
    show (RK.fad a 3).val? (upd σ d1 lv') w1 = _
    simp only [RK.val?, ha lv', Addr.add_mk, Nat.zero_add]) ?_
  obtain ⟨o1, o2⟩ := hraw1.one
  have hge : ∀ b, own lv = some b → w3.heap.size ≤ b := fun b hb => (h.raw.own hb).1
  have hge' : ∀ b, own lv' = some b → w3.heap.size ≤ b := fun b hb => (hraw1.own hb).1
  -- the world behind the append
  have key : Blk w1 Ob [.int .i64 n, sv, .bool null, lv, uv] ∧ Mod [Ob] w3 w1 ∧ RepTL (fun b => b < N ∨ (w3.heap.size ≤ b ∧ own lv' ≠ some b)) w1 (ts ++ [t]) (tcs ++ [es]) := by
    rcases hown with ⟨⟨ho, hm⟩, -⟩ | ⟨ho, hm⟩
    · have hS : ∀ b ∈ (own lv).toList, own lv = some b := fun b hb => by simpa using hb
      refine ⟨h.ob.mod hm (fun hc => by have := hge _ (hS _ hc); omega), ?_, (h.rep.mod hm (fun b hb hc => ?_) (fun b _ hb => by rw [ho]; exact hb)).append (.cons (ht.mod hm (fun b hb hc => ?_) fun b _ hb => ?_) .nil)⟩
      · refine ⟨hm.os.trans h.mod.os, hm.tape.trans h.mod.tape, hm.output.trans h.mod.output, Nat.le_trans h.mod.size hm.size, fun k hk hn => ?_⟩
        rw [hm.block k (Nat.lt_of_lt_of_le hk h.mod.size) (fun hc => by have := hge _ (hS _ hc); omega)]
        exact h.mod.block k hk hn
      · have := hge _ (hS _ hb)
        rcases hc with hc | hc
        · omega
        · exact hc.2 (hS b hb)
      · have := hge _ (hS _ hb); have := hwr _ (hS _ hb)
        rcases hc with hc | hc <;> omega
      · rcases hb with hb | hb
        · exact .inl hb
        · refine .inr ⟨by omega, fun e => ?_⟩
          rw [ho] at e
          have := hwr _ e; omega
    · refine ⟨h.ob.mod hm (by simp), h.mod.trans hm.nil, (h.rep.mod hm (by simp) fun b hlt hb => ?_).append (.cons (ht.mod hm (by simp) fun b hlt hb => ?_) .nil)⟩
      · rcases hb with hb | hb
        · exact .inl hb
        · exact .inr ⟨hb.1, fun e => by rw [ho] at e; simp only [Option.some.injEq] at e; omega⟩
      · rcases hb with hb | hb
        · exact .inl hb
        · exact .inr ⟨by omega, fun e => by rw [ho] at e; simp only [Option.some.injEq] at e; omega⟩
  obtain ⟨k1, k2, k3⟩ := key
  have hput : Mod [Ob] w1 (putCells w1 ⟨Ob, 3, none⟩ 0 [lv']) := Mod.put (by simp)
  have hp := k1.put (o := 3) (vs := [lv']) (by simp)
  have e1 : splice [Value.int .i64 n, sv, .bool null, lv, uv] 3 [lv'] = [.int .i64 n, sv, .bool null, lv', uv] := by simp [splice]
  rw [e1] at hp
  have s1 : (updo (updo σ (some d1) lv') (some d2) (.pointer (some ⟨Ob, 3, none⟩))) d1 = lv' := by simp only [updo, upd, hd, if_false, if_true]
  have s2 : (updo (updo σ (some d1) lv') (some d2) (.pointer (some ⟨Ob, 3, none⟩))) d2 = .pointer (some ⟨Ob, 3, none⟩) := by simp only [updo, upd, if_true]
  refine wpR_run ?_
  simp only [RK.run, ev, s1, s2, o1]
  refine ⟨rfl, stOk_one k1 (by simp) o2, ?_⟩
  exact hQ _ lv' ⟨hp, hraw1.mod hput (fun b hb => by have := hge' b hb; simp; omega), k3.mod hput (fun b hb hc => by
    simp only [List.mem_singleton] at hb
    rcases hc with hc | hc <;> omega) (fun _ _ h => h), k2.trans hput, hlob, hnob⟩

theorem SlC.flat {ok : Nat → Prop} {w : World} {v : Value} {n sz j : Nat} {css : List (List Value)} {cs : List Value} (h : SlC ok w v n css.flatten) (hn : n = css.length) (hsz : ∀ c ∈ css, c.length = sz) (hj : css[j]? = some cs) :
    ∃ a c, v = .slice (some a) n c ∧ j < n ∧ cellsAt w (a.add (j * sz)) 0 sz = some cs := by
  have hjl : j < css.length := by
    rcases Nat.lt_or_ge j css.length with h | h
    · exact h
    · rw [List.getElem?_eq_none h] at hj; simp at hj
  obtain ⟨base, cap, rfl, h2, h3, h4⟩ := h
  cases base with
  | none => have := h3 rfl; omega
  | some a =>
    obtain ⟨-, -, hc⟩ := h4 a rfl (by omega)
    refine ⟨a, cap, rfl, by omega, ?_⟩
    have := flat_cells hc hsz hj
    rw [Addr.add_of hc.1]
    exact cellsAt_of' this (hsz _ (List.mem_of_getElem? hj))

theorem SlC.pair {ok : Nat → Prop} {w : World} {v : Value} {n j : Nat} {css : List (List Value)} {a b : Value} (h : SlC ok w v n css.flatten) (hn : n = css.length) (hsz : ∀ c ∈ css, c.length = 2) (hj : css[j]? = some [a, b]) :
    ∃ p c, v = .slice (some p) n c ∧ j < n ∧ w.cell? ((p.add (j * 2)).add 0) = some a ∧ w.cell? ((p.add (j * 2)).add 1) = some b := by
  have hjl : j < css.length := by
    rcases Nat.lt_or_ge j css.length with h | h
    · exact h
    · rw [List.getElem?_eq_none h] at hj; simp at hj
  obtain ⟨base, cap, rfl, h2, h3, h4⟩ := h
  cases base with
  | none => have := h3 rfl; omega
  | some p =>
    obtain ⟨-, -, hc⟩ := h4 p rfl (by omega)
    have hcl := flat_cells hc hsz hj
    refine ⟨p, cap, rfl, by omega, ?_, ?_⟩
    · rw [Addr.add_of hc.1]; exact hcl.nth (i := 0) rfl
    · rw [Addr.add_of hc.1]; exact hcl.nth (i := 1) rfl

theorem RepTL.nth {ok : Nat → Prop} {w : World} {l : List TR} {css : List (List Value)} (h : RepTL ok w l css) {j : Nat} {t : TR} (ht : l[j]? = some t) : ∃ cs, css[j]? = some cs ∧ RepT ok w t cs := by
  induction l generalizing css j with
  | nil => simp at ht
  | cons a l ih =>
    cases h with
    | cons h1 h2 =>
      cases j with
      | zero => simp only [List.getElem?_cons_zero, Option.some.injEq] at ht; subst ht; exact ⟨_, rfl, h1⟩
      | succ j => simp only [List.getElem?_cons_succ] at ht ⊢; exact ih h2 ht

/-- The first loop of got. -/
theorem got_loop1 {N : Nat} {w w3 : World} {Pb b2 Ob : Nat} {n : Int} {sv lv0 : Value} {null : Bool} {l : List TR} {css : List (List Value)} {σ : Sl} {Q : Exit → Sl → World → Prop} (hf : ∀ t ∈ l, GotAt P (F lGot) t)
    (hw : Mod [] w w3) (hN : N ≤ w.heap.size) (hl : SlC (fun b => b < N) w lv0 l.length css.flatten) (hr : RepTL (fun b => b < N) w l css) (hlen : l.length ≤ 2147483647)
    (hob : Blk w3 Ob [.int .i64 n, sv, .bool null, .slice none 0 0, .slice none 0 0]) (hoN : N ≤ Ob)
    (h1 : σ 1 = .pointer (some ⟨Pb, 0, none⟩)) (h2 : σ 2 = .pointer (some ⟨b2, 0, none⟩)) (h3 : σ 3 = .pointer (some ⟨Ob, 0, none⟩)) (hpb : w3.cell? ⟨Pb, 3, none⟩ = some lv0)
    (hQ : ∀ σ' w' lv tcs, σ' 1 = .pointer (some ⟨Pb, 0, none⟩) → σ' 2 = .pointer (some ⟨b2, 0, none⟩) → σ' 3 = .pointer (some ⟨Ob, 0, none⟩) → GS w3 w' Ob n sv lv (.slice none 0 0) null N l tcs → tcs.length = l.length → Q .normal σ' w') :
    wpC P (.seq (.blk [⟨some 15, .fad (.tmp 1) 3, none⟩, ⟨some 16, .ld (.tmp 15), none⟩, ⟨some 17, .len (.tmp 16), none⟩, ⟨some 18, .mv (.const (.int .i64 0)), none⟩])
      (.block 0 (.loop (.seq (.blk [⟨some 19, .bin .lss (.tmp 18) (.tmp 17), none⟩]) (.seq (.cond (.tmp 19) .skip (.exit 0))
        (.seq (.block 1 (.seq (.blk [⟨some 20, .iad (.tmp 16) (.tmp 18) 5, none⟩, ⟨some 21, .ldn (.tmp 20) 5, none⟩, ⟨some 5, .alloc tzero, none⟩, ⟨none, .st (.tmp 5) 5 (.tmp 21), none⟩])
            (.drw [⟨⟨some 22, .fad (.tmp 3) 3, none⟩, false, []⟩, ⟨⟨some 23, .ld (.tmp 22), none⟩, false, []⟩, ⟨⟨some 24, .ldn (.tmp 5) 5, none⟩, false, []⟩, ⟨⟨some 25, .call (F lGot) [.tmp 24], none⟩, true, []⟩,
                ⟨⟨some 26, .bslice 1 tzero [(0, 5, .tmp 25)], none⟩, true, [3]⟩]
              [⟨some 27, .append (.tmp 23) (.tmp 26) 5 88, none⟩, ⟨some 28, .fad (.tmp 3) 3, none⟩, ⟨none, .st (.tmp 28) 1 (.tmp 27), none⟩])))
          (.blk [⟨some 29, .bin .add (.tmp 18) (.const (.int .i64 1)), none⟩, ⟨some 18, .mv (.tmp 29), none⟩])))))))
      Q σ w3 := by
  obtain ⟨lb, lc, elv⟩ := hl.shape
  have hol := hob.lt
  rw [wpC_seq, wpC_blk]
  refine wpR_step (v := .pointer (some ⟨Pb, 3, none⟩)) (by simp [RK.val?, h1, Addr.add_mk]) ?_
  refine wpR_step (v := lv0) (by simp [RK.val?, hpb]) ?_
  refine wpR_step (v := .int .i64 l.length) (by simp [RK.val?, elv]) ?_
  refine wpR_step (v := .int .i64 0) (by simp [RK.val?]) ?_
  simp only [wpR, thenC]
  rw [wpC_block, wpC_loop]
  refine ⟨fun σ1 w1 => ∃ j lv tcs, j ≤ l.length ∧ σ1 1 = .pointer (some ⟨Pb, 0, none⟩) ∧ σ1 2 = .pointer (some ⟨b2, 0, none⟩) ∧ σ1 3 = .pointer (some ⟨Ob, 0, none⟩) ∧ σ1 16 = lv0 ∧ σ1 17 = .int .i64 l.length ∧ σ1 18 = .int .i64 j ∧
      GS w3 w1 Ob n sv lv (.slice none 0 0) null N (l.take j) tcs ∧ tcs.length = j,
    fun σ1 _ => l.length - (match σ1 18 with | .int _ j => j.toNat | _ => 0), ⟨0, .slice none 0 0, [], Nat.zero_le _, by simp [h1], by simp [h2], by simp [h3], by simp, by simp, by simp, ⟨hob, ⟨by simp, .inl ⟨rfl, rfl⟩⟩, by simpa using .nil, Mod.refl _ _, hol, hoN⟩, rfl⟩, ?_⟩
  rintro σ1 w1 ⟨j, lv, tcs, hj, s1, s2, s3, s16, s17, s18, hgs, htl⟩
  rw [wpC_seq, wpC_blk]
  refine wpR_step (v := .bool (decide ((j : Int) < l.length))) (by simp [RK.val?, s17, s18, intBin]) ?_
  simp only [wpR, thenC]
  rw [wpC_seq]
  by_cases hlt : j < l.length
  · rw [wpC_cond_t (by simp [hlt]), wpC_skip]
    simp only [thenC]
    rw [wpC_seq, wpC_block, wpC_seq, wpC_blk]
    obtain ⟨tj, htj⟩ : ∃ t, l[j]? = some t := ⟨l[j], List.getElem?_eq_getElem hlt⟩
    have hmw : Mod [Ob] w w1 := hw.nil.trans hgs.mod
    have hNob : ∀ b ∈ [Ob], ¬ b < N := fun b hb => by simp only [List.mem_singleton] at hb; omega
    obtain ⟨cj, hcj, hrj⟩ := (hr.mod (ok' := fun b => b < N) hmw hNob fun _ _ h => h).nth htj
    obtain ⟨pa, pc, ep, -, hcells⟩ := (hl.mod (ok' := fun b => b < N) hmw hNob fun _ _ h => h).flat hr.length hr.five hcj
    refine wpR_step (v := .pointer (some (pa.add (j * 5)))) (by simp [RK.val?, s16, s18, ep, hlt]) ?_
    refine wpR_step (v := .agg cj.toArray) (by simp [RK.val?, hcells]) ?_
    refine wpR_run ?_
    intro Ty
    obtain ⟨q1, q2, q3⟩ := new_put w1 tzero cj Ty (by rw [hrj.five]; rfl) hrj.oneCell
    refine wpR_run ?_
    have ec : (Value.agg cj.toArray).cells = cj.toArray := rfl
    have ec' : (Value.agg cj.toArray).cells.toList = cj := by simp [Value.cells]
    simp only [RK.run, ev, updo, upd]
    simp only [if_true, show (21 : Nat) ≠ 5 by decide, if_false, ec']
    refine ⟨by rw [ec]; simp [hrj.five], q1, ?_⟩
    generalize hw4 : putCells (w1.alloc (.cells tzero.toArray Ty)) ⟨w1.heap.size, 0, none⟩ 0 cj = w4 at q2 q3
    simp only [wpR, thenC]
    -- the region
    have hgs4 := hgs.same q3
    have hrj4 := hrj.mod (ok' := fun b => b < N) q3 (by simp) fun _ _ h => h
    have hN4 : N ≤ w4.heap.size := Nat.le_trans hN (Nat.le_trans hmw.size q3.size)
    have sz4 : w3.heap.size ≤ w4.heap.size := Nat.le_trans hgs.mod.size q3.size
    show wpD P _ _ _ w4.drew _
    refine wpD_of_B (fun jj v w' => if jj = 3 then ∃ cs', v = .agg cs'.toArray ∧ RepT (fun b => b < N ∨ w4.heap.size ≤ b) w' tj cs' else ∃ sb cs', v = .slice (some ⟨sb, 0, none⟩) 1 1 ∧ Blk w' sb cs' ∧ RepT (fun b => b < N ∨ w4.heap.size ≤ b) w' tj cs') ?_ ?_
    · intro jj v w5 w6 h hm
      split at h
      · rename_i hjj; rw [if_pos hjj]
        obtain ⟨cs', g1, g2⟩ := h
        exact ⟨cs', g1, g2.mod hm (by simp) fun _ _ h => h⟩
      · rename_i hjj; rw [if_neg hjj]
        obtain ⟨sb, cs', g1, g2, g3⟩ := h
        exact ⟨sb, cs', g1, g2.mod hm (by simp), g3.mod hm (by simp) fun _ _ h => h⟩
    refine walkB_step (v := .pointer (some ⟨Ob, 3, none⟩)) (by simp [RK.val?, s3, Addr.add_mk]) ?_
    refine walkB_step (v := lv) (by simp [RK.val?]; exact hgs4.ob.cell 3) ?_
    refine walkB_step (v := .agg cj.toArray) (by
      have : cellsAt w4.drew ⟨w1.heap.size, 0, none⟩ 0 5 = some cj := cellsAt_of' (show Cells w4.drew _ _ from q2.cells) hrj.five
      simp [RK.val?, this]) ?_
    refine walkB_node (fun w5 hm5 _ => ?_) fun u hu => ?_
    · have hm45 : Mod [] w4 w5 := (Mod.drew _ _).trans hm5
      have := hf tj (List.mem_of_getElem? htj) N w5 cj (Nat.le_trans hN4 hm45.size) (hrj4.mod hm45 (by simp) fun _ _ h => h)
      simp only [RK.run, List.map_cons, List.map_nil, ev, updo, upd, if_true]
      refine this.mono ?_
      rintro e w6 ⟨cs', rfl, g1, g2⟩
      refine ⟨_, rfl, g2, ?_⟩
      exact ⟨cs', rfl, g1.mod (Mod.refl [] _) (by simp) fun b _ hb => hb.imp id fun h => Nat.le_trans hm45.size h⟩
    obtain ⟨wu, hu⟩ := hu
    obtain ⟨cu, rfl, hcu⟩ := hu
    refine walkB_node (fun w5 hm5 hkn => ?_) fun u2 hu2 => ?_
    · have h3 := hkn 3 (by simp) _ rfl rfl rfl 25 rfl
      dsimp only at h3
      rw [if_pos rfl] at h3
      simp only [updo, upd, if_true] at h3
      obtain ⟨cs', e3, h3⟩ := h3
      have : cu = cs' := by
        have := congrArg (fun v => match v with | Value.agg a => a.toList | _ => []) e3
        simpa using this
      subst this
      refine bslice_run (cs := cu) (n0 := 0) (by simp) h3.five (Nat.zero_le _) fun v w6 hbs hm6 => ?_
      obtain ⟨sb, cs', g1, g2, g3, g4, g5⟩ := hbs
      have : cs' = cu := by
        have := congrArg (fun v => match v with | Value.agg a => a.toList | _ => []) g5
        simpa using this
      subst this
      refine ⟨hm6, ?_⟩
      rw [if_neg (by omega)]
      exact ⟨sb, cs', g1, g3, h3.mod hm6 (by simp) fun _ _ h => h⟩
    simp only [walkB]
    intro w5 hm5 hkn
    have h4 := hkn 4 (by simp) _ rfl rfl rfl 26 rfl
    dsimp only at h4
    rw [if_neg (by omega)] at h4
    simp only [updo, upd, if_true] at h4
    obtain ⟨sb, es, rfl, hblk, htree⟩ := h4
    have hm45 : Mod [] w4 w5 := (Mod.drew _ _).trans hm5
    refine (hgs4.same hm45).step (wr := w4) (t := tj) (by simp) (by simp) hblk htree (by omega) (fun b hb => (hgs4.raw.own hb).2) sz4 (fun v => by simp [s3]) (by decide) fun w6 lv' hgs6 => ?_
    simp only [inBlockC, thenC]
    have hw : IntKind.i64.wrap ((j : Int) + 1) = ((j + 1 : Nat) : Int) := by
      simp only [IntKind.wrap, IntKind.bits, IntKind.signed]; simp; omega
    rw [wpC_blk]
    refine wpR_step (v := .int .i64 ((j + 1 : Nat) : Int)) (by simp [RK.val?, intBin, s18, hw]) ?_
    refine wpR_step (v := .int .i64 ((j + 1 : Nat) : Int)) (by simp [RK.val?]) ?_
    simp only [wpR, thenC]
    refine ⟨⟨j + 1, lv', tcs ++ [es], hlt, by simp [s1], by simp [s2], by simp [s3], by simp [s16], by simp [s17], by simp, ?_, by simp [htl]⟩, ?_⟩
    · rw [List.take_add_one, htj]; simpa using hgs6
    · simp [s18]; show l.length - (j + 1) < l.length - j; omega
  · rw [wpC_cond_f (by simp; omega)]
    have hje : j = l.length := by omega
    subst hje
    rw [List.take_length] at hgs
    simp only [wpC, inBlockC, thenC, if_true]
    exact hQ _ w1 lv tcs (by simp [s1]) (by simp [s2]) (by simp [s3]) hgs htl

end
end Go.Msk

/-! The forms of the functions that append, as printed (checked by the kernel at each seat). -/
namespace Go.Msk
open Go.RowKit
set_option maxRecDepth 100000

/-- How many octets a number of so many bits takes. -/
def tabU : ByteArray := ⟨#[1, 1, 1, 1, 1, 1, 1, 1, 2, 2, 2, 2, 2, 2, 2, 3, 3, 3, 3, 3, 3, 3, 4, 4, 4, 4, 4, 4, 4, 5, 5, 5, 5, 5, 5, 5, 6, 6, 6, 6, 6, 6, 6, 7, 7, 7, 7, 7, 7, 7, 8, 8, 8, 8, 8, 8, 8, 9, 9, 9, 9, 9, 9, 9, 10, 0, 0, 0, 0, 0, 0, 0, 0, 0, 0, 0, 0, 0, 0, 0, 0, 0, 0, 0, 0, 0, 0, 0, 0, 0, 0, 0, 0, 0, 0, 0, 0, 0, 0, 0, 0, 0, 0, 0, 0, 0, 0, 0, 0, 0, 0, 0, 0, 0, 0, 0, 0, 0, 0, 0, 0, 0, 0, 0, 0, 0, 0, 0, 0, 0, 0, 0, 0, 0, 0, 0, 0, 0, 0, 0, 0, 0, 0, 0, 0, 0, 0, 0, 0, 0, 0, 0, 0, 0, 0, 0, 0, 0, 0, 0, 0, 0, 0, 0, 0, 0, 0, 0, 0, 0, 0, 0, 0, 0, 0, 0, 0, 0, 0, 0, 0, 0, 0, 0, 0, 0, 0, 0, 0, 0, 0, 0, 0, 0, 0, 0, 0, 0, 0, 0, 0, 0, 0, 0, 0, 0, 0, 0, 0, 0, 0, 0, 0, 0, 0, 0, 0, 0, 0, 0, 0, 0, 0, 0, 0, 0, 0, 0, 0, 0, 0, 0, 0, 0, 0, 0, 0, 0, 0, 0, 0, 0, 0, 0, 0, 0, 0, 0, 0, 0, 0, 0, 0, 0, 0, 0]⟩
/-- How many bits a small number has. -/
def tab8 : ByteArray := ⟨#[0, 1, 2, 2, 3, 3, 3, 3, 4, 4, 4, 4, 4, 4, 4, 4, 5, 5, 5, 5, 5, 5, 5, 5, 5, 5, 5, 5, 5, 5, 5, 5, 6, 6, 6, 6, 6, 6, 6, 6, 6, 6, 6, 6, 6, 6, 6, 6, 6, 6, 6, 6, 6, 6, 6, 6, 6, 6, 6, 6, 6, 6, 6, 6, 7, 7, 7, 7, 7, 7, 7, 7, 7, 7, 7, 7, 7, 7, 7, 7, 7, 7, 7, 7, 7, 7, 7, 7, 7, 7, 7, 7, 7, 7, 7, 7, 7, 7, 7, 7, 7, 7, 7, 7, 7, 7, 7, 7, 7, 7, 7, 7, 7, 7, 7, 7, 7, 7, 7, 7, 7, 7, 7, 7, 7, 7, 7, 7, 8, 8, 8, 8, 8, 8, 8, 8, 8, 8, 8, 8, 8, 8, 8, 8, 8, 8, 8, 8, 8, 8, 8, 8, 8, 8, 8, 8, 8, 8, 8, 8, 8, 8, 8, 8, 8, 8, 8, 8, 8, 8, 8, 8, 8, 8, 8, 8, 8, 8, 8, 8, 8, 8, 8, 8, 8, 8, 8, 8, 8, 8, 8, 8, 8, 8, 8, 8, 8, 8, 8, 8, 8, 8, 8, 8, 8, 8, 8, 8, 8, 8, 8, 8, 8, 8, 8, 8, 8, 8, 8, 8, 8, 8, 8, 8, 8, 8, 8, 8, 8, 8, 8, 8, 8, 8, 8, 8, 8, 8, 8, 8, 8, 8, 8, 8, 8, 8, 8, 8, 8, 8, 8, 8, 8, 8, 8, 8]⟩

/-- pub-mailsack/pub/kmsg/inner/kbin.AppendBool -/
def ir_kAppendBool (_F : Nat → Nat) : IC × List RV × Nat := (.seq (.blk [⟨some 4, .mv (.const (.slice none 0 0)), none⟩])
 (.seq (.seq (.blk [⟨some 5, .mv (.tmp 1), none⟩])
 (.cond (.tmp 5)
 (.seq (.blk [⟨some 6, .mv (.tmp 0), none⟩,
 ⟨some 7, .bslice 1 [.int .u8 0] [(0, 1, .const (.int .u8 1))], none⟩,
 ⟨some 8, .append (.tmp 6) (.tmp 7) 1 1, none⟩,
 ⟨some 4, .mv (.tmp 8), none⟩])
 (.ret))
 (.skip)))
 (.seq (.blk [⟨some 9, .mv (.tmp 0), none⟩,
 ⟨some 10, .bslice 1 [.int .u8 0] [(0, 1, .const (.int .u8 0))], none⟩,
 ⟨some 11, .append (.tmp 9) (.tmp 10) 1 1, none⟩,
 ⟨some 4, .mv (.tmp 11), none⟩])
 (.ret))),
 [.tmp 4], 12)

/-- pub-mailsack/pub/kmsg/inner/kbin.AppendInt8 -/
def ir_kAppendInt8 (_F : Nat → Nat) : IC × List RV × Nat := (.seq (.blk [⟨some 4, .mv (.const (.slice none 0 0)), none⟩])
 (.seq (.blk [⟨some 5, .mv (.tmp 0), none⟩,
 ⟨some 6, .mv (.tmp 1), none⟩,
 ⟨some 7, .conv .u8 (.tmp 6), none⟩,
 ⟨some 8, .bslice 1 [.int .u8 0] [(0, 1, .tmp 7)], none⟩,
 ⟨some 9, .append (.tmp 5) (.tmp 8) 1 1, none⟩,
 ⟨some 4, .mv (.tmp 9), none⟩])
 (.ret)),
 [.tmp 4], 10)

/-- pub-mailsack/pub/kmsg/inner/kbin.AppendInt16 -/
def ir_kAppendInt16 (F : Nat → Nat) : IC × List RV × Nat := (.seq (.blk [⟨some 4, .mv (.const (.slice none 0 0)), none⟩])
 (.seq (.blk [⟨some 5, .mv (.tmp 0), none⟩,
 ⟨some 6, .mv (.tmp 1), none⟩,
 ⟨some 7, .conv .u16 (.tmp 6), none⟩,
 ⟨some 8, .call (F kAppendUint16) [.tmp 5, .tmp 7], none⟩,
 ⟨some 4, .mv (.tmp 8), none⟩])
 (.ret)),
 [.tmp 4], 9)

/-- pub-mailsack/pub/kmsg/inner/kbin.AppendUint16 -/
def ir_kAppendUint16 (_F : Nat → Nat) : IC × List RV × Nat := (.seq (.blk [⟨some 4, .mv (.const (.slice none 0 0)), none⟩])
 (.seq (.blk [⟨some 5, .mv (.tmp 0), none⟩,
 ⟨some 6, .mv (.tmp 1), none⟩,
 ⟨some 7, .bin .shr (.tmp 6) (.const (.int .u64 8)), none⟩,
 ⟨some 8, .conv .u8 (.tmp 7), none⟩,
 ⟨some 9, .mv (.tmp 1), none⟩,
 ⟨some 10, .conv .u8 (.tmp 9), none⟩,
 ⟨some 11, .bslice 2 [.int .u8 0] [(0, 1, .tmp 8), (1, 1, .tmp 10)], none⟩,
 ⟨some 12, .append (.tmp 5) (.tmp 11) 1 1, none⟩,
 ⟨some 4, .mv (.tmp 12), none⟩])
 (.ret)),
 [.tmp 4], 13)

/-- pub-mailsack/pub/kmsg/inner/kbin.AppendInt32 -/
def ir_kAppendInt32 (F : Nat → Nat) : IC × List RV × Nat := (.seq (.blk [⟨some 4, .mv (.const (.slice none 0 0)), none⟩])
 (.seq (.blk [⟨some 5, .mv (.tmp 0), none⟩,
 ⟨some 6, .mv (.tmp 1), none⟩,
 ⟨some 7, .conv .u32 (.tmp 6), none⟩,
 ⟨some 8, .call (F kAppendUint32) [.tmp 5, .tmp 7], none⟩,
 ⟨some 4, .mv (.tmp 8), none⟩])
 (.ret)),
 [.tmp 4], 9)

/-- pub-mailsack/pub/kmsg/inner/kbin.AppendUint32 -/
def ir_kAppendUint32 (_F : Nat → Nat) : IC × List RV × Nat := (.seq (.blk [⟨some 4, .mv (.const (.slice none 0 0)), none⟩])
 (.seq (.blk [⟨some 5, .mv (.tmp 0), none⟩,
 ⟨some 6, .mv (.tmp 1), none⟩,
 ⟨some 7, .bin .shr (.tmp 6) (.const (.int .u64 24)), none⟩,
 ⟨some 8, .conv .u8 (.tmp 7), none⟩,
 ⟨some 9, .mv (.tmp 1), none⟩,
 ⟨some 10, .bin .shr (.tmp 9) (.const (.int .u64 16)), none⟩,
 ⟨some 11, .conv .u8 (.tmp 10), none⟩,
 ⟨some 12, .mv (.tmp 1), none⟩,
 ⟨some 13, .bin .shr (.tmp 12) (.const (.int .u64 8)), none⟩,
 ⟨some 14, .conv .u8 (.tmp 13), none⟩,
 ⟨some 15, .mv (.tmp 1), none⟩,
 ⟨some 16, .conv .u8 (.tmp 15), none⟩,
 ⟨some 17, .bslice 4 [.int .u8 0] [(0, 1, .tmp 8), (1, 1, .tmp 11), (2, 1, .tmp 14), (3, 1, .tmp 16)], none⟩,
 ⟨some 18, .append (.tmp 5) (.tmp 17) 1 1, none⟩,
 ⟨some 4, .mv (.tmp 18), none⟩])
 (.ret)),
 [.tmp 4], 19)

/-- pub-mailsack/pub/kmsg/inner/kbin.AppendInt64 -/
def ir_kAppendInt64 (F : Nat → Nat) : IC × List RV × Nat := (.seq (.blk [⟨some 4, .mv (.const (.slice none 0 0)), none⟩])
 (.seq (.blk [⟨some 5, .mv (.tmp 0), none⟩,
 ⟨some 6, .mv (.tmp 1), none⟩,
 ⟨some 7, .conv .u64 (.tmp 6), none⟩,
 ⟨some 8, .call (F kAppendUint64) [.tmp 5, .tmp 7], none⟩,
 ⟨some 4, .mv (.tmp 8), none⟩])
 (.ret)),
 [.tmp 4], 9)

/-- pub-mailsack/pub/kmsg/inner/kbin.appendUint64 -/
def ir_kAppendUint64 (_F : Nat → Nat) : IC × List RV × Nat := (.seq (.blk [⟨some 4, .mv (.const (.slice none 0 0)), none⟩])
 (.seq (.blk [⟨some 5, .mv (.tmp 0), none⟩,
 ⟨some 6, .mv (.tmp 1), none⟩,
 ⟨some 7, .bin .shr (.tmp 6) (.const (.int .u64 56)), none⟩,
 ⟨some 8, .conv .u8 (.tmp 7), none⟩,
 ⟨some 9, .mv (.tmp 1), none⟩,
 ⟨some 10, .bin .shr (.tmp 9) (.const (.int .u64 48)), none⟩,
 ⟨some 11, .conv .u8 (.tmp 10), none⟩,
 ⟨some 12, .mv (.tmp 1), none⟩,
 ⟨some 13, .bin .shr (.tmp 12) (.const (.int .u64 40)), none⟩,
 ⟨some 14, .conv .u8 (.tmp 13), none⟩,
 ⟨some 15, .mv (.tmp 1), none⟩,
 ⟨some 16, .bin .shr (.tmp 15) (.const (.int .u64 32)), none⟩,
 ⟨some 17, .conv .u8 (.tmp 16), none⟩,
 ⟨some 18, .mv (.tmp 1), none⟩,
 ⟨some 19, .bin .shr (.tmp 18) (.const (.int .u64 24)), none⟩,
 ⟨some 20, .conv .u8 (.tmp 19), none⟩,
 ⟨some 21, .mv (.tmp 1), none⟩,
 ⟨some 22, .bin .shr (.tmp 21) (.const (.int .u64 16)), none⟩,
 ⟨some 23, .conv .u8 (.tmp 22), none⟩,
 ⟨some 24, .mv (.tmp 1), none⟩,
 ⟨some 25, .bin .shr (.tmp 24) (.const (.int .u64 8)), none⟩,
 ⟨some 26, .conv .u8 (.tmp 25), none⟩,
 ⟨some 27, .mv (.tmp 1), none⟩,
 ⟨some 28, .conv .u8 (.tmp 27), none⟩,
 ⟨some 29, .bslice 8 [.int .u8 0] [(0, 1, .tmp 8), (1, 1, .tmp 11), (2, 1, .tmp 14), (3, 1, .tmp 17), (4, 1, .tmp 20), (5, 1, .tmp 23), (6, 1, .tmp 26), (7, 1, .tmp 28)], none⟩,
 ⟨some 30, .append (.tmp 5) (.tmp 29) 1 1, none⟩,
 ⟨some 4, .mv (.tmp 30), none⟩])
 (.ret)),
 [.tmp 4], 31)

/-- pub-mailsack/pub/kmsg/inner/kbin.AppendUuid -/
def ir_kAppendUuid (_F : Nat → Nat) : IC × List RV × Nat := (.seq (.blk [⟨some 3, .box (.tmp 1), none⟩,
 ⟨some 4, .mv (.const (.slice none 0 0)), none⟩])
 (.seq (.blk [⟨some 5, .mv (.tmp 0), none⟩,
 ⟨some 6, .slicea (.tmp 3) 16, none⟩,
 ⟨some 7, .append (.tmp 5) (.tmp 6) 1 1, none⟩,
 ⟨some 4, .mv (.tmp 7), none⟩])
 (.ret)),
 [.tmp 4], 8)

/-- pub-mailsack/pub/kmsg/inner/kbin.AppendUvarint -/
def ir_kAppendUvarint (F : Nat → Nat) : IC × List RV × Nat := (.seq (.blk [⟨some 4, .mv (.const (.slice none 0 0)), none⟩])
 (.seq (.seq (.blk [⟨some 5, .mv (.tmp 1), none⟩,
 ⟨some 6, .call (F kUvarintLen) [.tmp 5], none⟩])
 (.block 0 (.seq (.blk [⟨some 8, .bin .eql (.tmp 6) (.const (.int .i64 5)), none⟩,
 ⟨some 7, .mv (.tmp 8), none⟩])
 (.cond (.tmp 7)
 (.seq (.blk [⟨some 9, .mv (.tmp 0), none⟩,
 ⟨some 10, .mv (.tmp 1), none⟩,
 ⟨some 11, .bin .and (.tmp 10) (.const (.int .u32 127)), none⟩,
 ⟨some 12, .bin .or (.tmp 11) (.const (.int .u32 128)), none⟩,
 ⟨some 13, .conv .u8 (.tmp 12), none⟩,
 ⟨some 14, .mv (.tmp 1), none⟩,
 ⟨some 15, .bin .shr (.tmp 14) (.const (.int .u64 7)), none⟩,
 ⟨some 16, .bin .and (.tmp 15) (.const (.int .u32 127)), none⟩,
 ⟨some 17, .bin .or (.tmp 16) (.const (.int .u32 128)), none⟩,
 ⟨some 18, .conv .u8 (.tmp 17), none⟩,
 ⟨some 19, .mv (.tmp 1), none⟩,
 ⟨some 20, .bin .shr (.tmp 19) (.const (.int .u64 14)), none⟩,
 ⟨some 21, .bin .and (.tmp 20) (.const (.int .u32 127)), none⟩,
 ⟨some 22, .bin .or (.tmp 21) (.const (.int .u32 128)), none⟩,
 ⟨some 23, .conv .u8 (.tmp 22), none⟩,
 ⟨some 24, .mv (.tmp 1), none⟩,
 ⟨some 25, .bin .shr (.tmp 24) (.const (.int .u64 21)), none⟩,
 ⟨some 26, .bin .and (.tmp 25) (.const (.int .u32 127)), none⟩,
 ⟨some 27, .bin .or (.tmp 26) (.const (.int .u32 128)), none⟩,
 ⟨some 28, .conv .u8 (.tmp 27), none⟩,
 ⟨some 29, .mv (.tmp 1), none⟩,
 ⟨some 30, .bin .shr (.tmp 29) (.const (.int .u64 28)), none⟩,
 ⟨some 31, .conv .u8 (.tmp 30), none⟩,
 ⟨some 32, .bslice 5 [.int .u8 0] [(0, 1, .tmp 13), (1, 1, .tmp 18), (2, 1, .tmp 23), (3, 1, .tmp 28), (4, 1, .tmp 31)], none⟩,
 ⟨some 33, .append (.tmp 9) (.tmp 32) 1 1, none⟩,
 ⟨some 4, .mv (.tmp 33), none⟩])
 (.ret))
 (.seq (.blk [⟨some 35, .bin .eql (.tmp 6) (.const (.int .i64 4)), none⟩,
 ⟨some 34, .mv (.tmp 35), none⟩])
 (.cond (.tmp 34)
 (.seq (.blk [⟨some 36, .mv (.tmp 0), none⟩,
 ⟨some 37, .mv (.tmp 1), none⟩,
 ⟨some 38, .bin .and (.tmp 37) (.const (.int .u32 127)), none⟩,
 ⟨some 39, .bin .or (.tmp 38) (.const (.int .u32 128)), none⟩,
 ⟨some 40, .conv .u8 (.tmp 39), none⟩,
 ⟨some 41, .mv (.tmp 1), none⟩,
 ⟨some 42, .bin .shr (.tmp 41) (.const (.int .u64 7)), none⟩,
 ⟨some 43, .bin .and (.tmp 42) (.const (.int .u32 127)), none⟩,
 ⟨some 44, .bin .or (.tmp 43) (.const (.int .u32 128)), none⟩,
 ⟨some 45, .conv .u8 (.tmp 44), none⟩,
 ⟨some 46, .mv (.tmp 1), none⟩,
 ⟨some 47, .bin .shr (.tmp 46) (.const (.int .u64 14)), none⟩,
 ⟨some 48, .bin .and (.tmp 47) (.const (.int .u32 127)), none⟩,
 ⟨some 49, .bin .or (.tmp 48) (.const (.int .u32 128)), none⟩,
 ⟨some 50, .conv .u8 (.tmp 49), none⟩,
 ⟨some 51, .mv (.tmp 1), none⟩,
 ⟨some 52, .bin .shr (.tmp 51) (.const (.int .u64 21)), none⟩,
 ⟨some 53, .conv .u8 (.tmp 52), none⟩,
 ⟨some 54, .bslice 4 [.int .u8 0] [(0, 1, .tmp 40), (1, 1, .tmp 45), (2, 1, .tmp 50), (3, 1, .tmp 53)], none⟩,
 ⟨some 55, .append (.tmp 36) (.tmp 54) 1 1, none⟩,
 ⟨some 4, .mv (.tmp 55), none⟩])
 (.ret))
 (.seq (.blk [⟨some 57, .bin .eql (.tmp 6) (.const (.int .i64 3)), none⟩,
 ⟨some 56, .mv (.tmp 57), none⟩])
 (.cond (.tmp 56)
 (.seq (.blk [⟨some 58, .mv (.tmp 0), none⟩,
 ⟨some 59, .mv (.tmp 1), none⟩,
 ⟨some 60, .bin .and (.tmp 59) (.const (.int .u32 127)), none⟩,
 ⟨some 61, .bin .or (.tmp 60) (.const (.int .u32 128)), none⟩,
 ⟨some 62, .conv .u8 (.tmp 61), none⟩,
 ⟨some 63, .mv (.tmp 1), none⟩,
 ⟨some 64, .bin .shr (.tmp 63) (.const (.int .u64 7)), none⟩,
 ⟨some 65, .bin .and (.tmp 64) (.const (.int .u32 127)), none⟩,
 ⟨some 66, .bin .or (.tmp 65) (.const (.int .u32 128)), none⟩,
 ⟨some 67, .conv .u8 (.tmp 66), none⟩,
 ⟨some 68, .mv (.tmp 1), none⟩,
 ⟨some 69, .bin .shr (.tmp 68) (.const (.int .u64 14)), none⟩,
 ⟨some 70, .conv .u8 (.tmp 69), none⟩,
 ⟨some 71, .bslice 3 [.int .u8 0] [(0, 1, .tmp 62), (1, 1, .tmp 67), (2, 1, .tmp 70)], none⟩,
 ⟨some 72, .append (.tmp 58) (.tmp 71) 1 1, none⟩,
 ⟨some 4, .mv (.tmp 72), none⟩])
 (.ret))
 (.seq (.blk [⟨some 74, .bin .eql (.tmp 6) (.const (.int .i64 2)), none⟩,
 ⟨some 73, .mv (.tmp 74), none⟩])
 (.cond (.tmp 73)
 (.seq (.blk [⟨some 75, .mv (.tmp 0), none⟩,
 ⟨some 76, .mv (.tmp 1), none⟩,
 ⟨some 77, .bin .and (.tmp 76) (.const (.int .u32 127)), none⟩,
 ⟨some 78, .bin .or (.tmp 77) (.const (.int .u32 128)), none⟩,
 ⟨some 79, .conv .u8 (.tmp 78), none⟩,
 ⟨some 80, .mv (.tmp 1), none⟩,
 ⟨some 81, .bin .shr (.tmp 80) (.const (.int .u64 7)), none⟩,
 ⟨some 82, .conv .u8 (.tmp 81), none⟩,
 ⟨some 83, .bslice 2 [.int .u8 0] [(0, 1, .tmp 79), (1, 1, .tmp 82)], none⟩,
 ⟨some 84, .append (.tmp 75) (.tmp 83) 1 1, none⟩,
 ⟨some 4, .mv (.tmp 84), none⟩])
 (.ret))
 (.seq (.blk [⟨some 86, .bin .eql (.tmp 6) (.const (.int .i64 1)), none⟩,
 ⟨some 85, .mv (.tmp 86), none⟩])
 (.cond (.tmp 85)
 (.seq (.blk [⟨some 87, .mv (.tmp 0), none⟩,
 ⟨some 88, .mv (.tmp 1), none⟩,
 ⟨some 89, .conv .u8 (.tmp 88), none⟩,
 ⟨some 90, .bslice 1 [.int .u8 0] [(0, 1, .tmp 89)], none⟩,
 ⟨some 91, .append (.tmp 87) (.tmp 90) 1 1, none⟩,
 ⟨some 4, .mv (.tmp 91), none⟩])
 (.ret))
 (.skip)))))))))))))
 (.seq (.blk [⟨some 92, .mv (.tmp 0), none⟩,
 ⟨some 4, .mv (.tmp 92), none⟩])
 (.ret))),
 [.tmp 4], 93)

/-- pub-mailsack/pub/kmsg/inner/kbin.UvarintLen -/
def ir_kUvarintLen (F : Nat → Nat) : IC × List RV × Nat := (.seq (.blk [⟨some 2, .mv (.const (.int .i64 0)), none⟩])
 (.seq (.blk [⟨some 3, .mv (.tmp 0), none⟩,
 ⟨some 4, .call (F bLen32) [.tmp 3], none⟩,
 ⟨some 5, .conv .u8 (.tmp 4), none⟩,
 ⟨some 6, .idx (.const (.string tabU)) (.tmp 5), none⟩,
 ⟨some 7, .conv .i64 (.tmp 6), none⟩,
 ⟨some 2, .mv (.tmp 7), none⟩])
 (.ret)),
 [.tmp 2], 8)

/-- pub-mailsack/pub/kmsg/inner/kbin.AppendString -/
def ir_kAppendString (F : Nat → Nat) : IC × List RV × Nat := (.seq (.blk [⟨some 4, .mv (.const (.slice none 0 0)), none⟩])
 (.seq (.blk [⟨some 5, .mv (.tmp 0), none⟩,
 ⟨some 6, .mv (.tmp 1), none⟩,
 ⟨some 7, .slen (.tmp 6), none⟩,
 ⟨some 8, .conv .i16 (.tmp 7), none⟩,
 ⟨some 9, .call (F kAppendInt16) [.tmp 5, .tmp 8], none⟩,
 ⟨some 0, .mv (.tmp 9), none⟩])
 (.seq (.blk [⟨some 10, .mv (.tmp 0), none⟩,
 ⟨some 11, .mv (.tmp 1), none⟩,
 ⟨some 12, .append (.tmp 10) (.tmp 11) 1 1, none⟩,
 ⟨some 4, .mv (.tmp 12), none⟩])
 (.ret))),
 [.tmp 4], 13)

/-- pub-mailsack/pub/kmsg/inner/kbin.AppendCompactString -/
def ir_kAppendCompactString (F : Nat → Nat) : IC × List RV × Nat := (.seq (.blk [⟨some 4, .mv (.const (.slice none 0 0)), none⟩])
 (.seq (.blk [⟨some 5, .mv (.tmp 0), none⟩,
 ⟨some 6, .mv (.tmp 1), none⟩,
 ⟨some 7, .slen (.tmp 6), none⟩,
 ⟨some 8, .conv .u32 (.tmp 7), none⟩,
 ⟨some 9, .bin .add (.const (.int .u32 1)) (.tmp 8), none⟩,
 ⟨some 10, .call (F kAppendUvarint) [.tmp 5, .tmp 9], none⟩,
 ⟨some 0, .mv (.tmp 10), none⟩])
 (.seq (.blk [⟨some 11, .mv (.tmp 0), none⟩,
 ⟨some 12, .mv (.tmp 1), none⟩,
 ⟨some 13, .append (.tmp 11) (.tmp 12) 1 1, none⟩,
 ⟨some 4, .mv (.tmp 13), none⟩])
 (.ret))),
 [.tmp 4], 14)

/-- pub-mailsack/pub/kmsg/inner/kbin.AppendNullableString -/
def ir_kAppendNullableString (F : Nat → Nat) : IC × List RV × Nat := (.seq (.blk [⟨some 4, .mv (.const (.slice none 0 0)), none⟩])
 (.seq (.seq (.blk [⟨some 5, .mv (.tmp 1), none⟩,
 ⟨some 6, .isnil .pt false (.tmp 5), none⟩])
 (.cond (.tmp 6)
 (.seq (.blk [⟨some 7, .mv (.tmp 0), none⟩,
 ⟨some 8, .call (F kAppendInt16) [.tmp 7, .const (.int .i16 (-1))], none⟩,
 ⟨some 4, .mv (.tmp 8), none⟩])
 (.ret))
 (.skip)))
 (.seq (.blk [⟨some 9, .mv (.tmp 0), none⟩,
 ⟨some 10, .mv (.tmp 1), none⟩,
 ⟨some 11, .nilc (.tmp 10), none⟩,
 ⟨some 12, .ld (.tmp 11), none⟩,
 ⟨some 13, .call (F kAppendString) [.tmp 9, .tmp 12], none⟩,
 ⟨some 4, .mv (.tmp 13), none⟩])
 (.ret))),
 [.tmp 4], 14)

/-- pub-mailsack/pub/kmsg/inner/kbin.AppendCompactNullableString -/
def ir_kAppendCompactNullableString (F : Nat → Nat) : IC × List RV × Nat := (.seq (.blk [⟨some 4, .mv (.const (.slice none 0 0)), none⟩])
 (.seq (.seq (.blk [⟨some 5, .mv (.tmp 1), none⟩,
 ⟨some 6, .isnil .pt false (.tmp 5), none⟩])
 (.cond (.tmp 6)
 (.seq (.blk [⟨some 7, .mv (.tmp 0), none⟩,
 ⟨some 8, .call (F kAppendUvarint) [.tmp 7, .const (.int .u32 0)], none⟩,
 ⟨some 4, .mv (.tmp 8), none⟩])
 (.ret))
 (.skip)))
 (.seq (.blk [⟨some 9, .mv (.tmp 0), none⟩,
 ⟨some 10, .mv (.tmp 1), none⟩,
 ⟨some 11, .nilc (.tmp 10), none⟩,
 ⟨some 12, .ld (.tmp 11), none⟩,
 ⟨some 13, .call (F kAppendCompactString) [.tmp 9, .tmp 12], none⟩,
 ⟨some 4, .mv (.tmp 13), none⟩])
 (.ret))),
 [.tmp 4], 14)

/-- pub-mailsack/pub/kmsg/inner/kbin.AppendBytes -/
def ir_kAppendBytes (F : Nat → Nat) : IC × List RV × Nat := (.seq (.blk [⟨some 4, .mv (.const (.slice none 0 0)), none⟩])
 (.seq (.blk [⟨some 5, .mv (.tmp 0), none⟩,
 ⟨some 6, .mv (.tmp 1), none⟩,
 ⟨some 7, .len (.tmp 6), none⟩,
 ⟨some 8, .conv .i32 (.tmp 7), none⟩,
 ⟨some 9, .call (F kAppendInt32) [.tmp 5, .tmp 8], none⟩,
 ⟨some 0, .mv (.tmp 9), none⟩])
 (.seq (.blk [⟨some 10, .mv (.tmp 0), none⟩,
 ⟨some 11, .mv (.tmp 1), none⟩,
 ⟨some 12, .append (.tmp 10) (.tmp 11) 1 1, none⟩,
 ⟨some 4, .mv (.tmp 12), none⟩])
 (.ret))),
 [.tmp 4], 13)

/-- pub-mailsack/pub/kmsg/inner/kbin.AppendCompactBytes -/
def ir_kAppendCompactBytes (F : Nat → Nat) : IC × List RV × Nat := (.seq (.blk [⟨some 4, .mv (.const (.slice none 0 0)), none⟩])
 (.seq (.blk [⟨some 5, .mv (.tmp 0), none⟩,
 ⟨some 6, .mv (.tmp 1), none⟩,
 ⟨some 7, .len (.tmp 6), none⟩,
 ⟨some 8, .conv .u32 (.tmp 7), none⟩,
 ⟨some 9, .bin .add (.const (.int .u32 1)) (.tmp 8), none⟩,
 ⟨some 10, .call (F kAppendUvarint) [.tmp 5, .tmp 9], none⟩,
 ⟨some 0, .mv (.tmp 10), none⟩])
 (.seq (.blk [⟨some 11, .mv (.tmp 0), none⟩,
 ⟨some 12, .mv (.tmp 1), none⟩,
 ⟨some 13, .append (.tmp 11) (.tmp 12) 1 1, none⟩,
 ⟨some 4, .mv (.tmp 13), none⟩])
 (.ret))),
 [.tmp 4], 14)

/-- pub-mailsack/pub/kmsg/inner/kbin.AppendArrayLen -/
def ir_kAppendArrayLen (F : Nat → Nat) : IC × List RV × Nat := (.seq (.blk [⟨some 4, .mv (.const (.slice none 0 0)), none⟩])
 (.seq (.blk [⟨some 5, .mv (.tmp 0), none⟩,
 ⟨some 6, .mv (.tmp 1), none⟩,
 ⟨some 7, .conv .i32 (.tmp 6), none⟩,
 ⟨some 8, .call (F kAppendInt32) [.tmp 5, .tmp 7], none⟩,
 ⟨some 4, .mv (.tmp 8), none⟩])
 (.ret)),
 [.tmp 4], 9)

/-- pub-mailsack/pub/kmsg/inner/kbin.AppendCompactArrayLen -/
def ir_kAppendCompactArrayLen (F : Nat → Nat) : IC × List RV × Nat := (.seq (.blk [⟨some 4, .mv (.const (.slice none 0 0)), none⟩])
 (.seq (.blk [⟨some 5, .mv (.tmp 0), none⟩,
 ⟨some 6, .mv (.tmp 1), none⟩,
 ⟨some 7, .conv .u32 (.tmp 6), none⟩,
 ⟨some 8, .bin .add (.const (.int .u32 1)) (.tmp 7), none⟩,
 ⟨some 9, .call (F kAppendUvarint) [.tmp 5, .tmp 8], none⟩,
 ⟨some 4, .mv (.tmp 9), none⟩])
 (.ret)),
 [.tmp 4], 10)

/-- pub-mailsack/pub/kmsg/inner/kbin.AppendNullableArrayLen -/
def ir_kAppendNullableArrayLen (F : Nat → Nat) : IC × List RV × Nat := (.seq (.blk [⟨some 6, .mv (.const (.slice none 0 0)), none⟩])
 (.seq (.seq (.blk [⟨some 7, .mv (.tmp 2), none⟩])
 (.cond (.tmp 7)
 (.seq (.blk [⟨some 8, .mv (.tmp 0), none⟩,
 ⟨some 9, .call (F kAppendInt32) [.tmp 8, .const (.int .i32 (-1))], none⟩,
 ⟨some 6, .mv (.tmp 9), none⟩])
 (.ret))
 (.skip)))
 (.seq (.blk [⟨some 10, .mv (.tmp 0), none⟩,
 ⟨some 11, .mv (.tmp 1), none⟩,
 ⟨some 12, .conv .i32 (.tmp 11), none⟩,
 ⟨some 13, .call (F kAppendInt32) [.tmp 10, .tmp 12], none⟩,
 ⟨some 6, .mv (.tmp 13), none⟩])
 (.ret))),
 [.tmp 6], 14)

/-- pub-mailsack/pub/kmsg/inner/kbin.AppendCompactNullableArrayLen -/
def ir_kAppendCompactNullableArrayLen (F : Nat → Nat) : IC × List RV × Nat := (.seq (.blk [⟨some 6, .mv (.const (.slice none 0 0)), none⟩])
 (.seq (.seq (.blk [⟨some 7, .mv (.tmp 2), none⟩])
 (.cond (.tmp 7)
 (.seq (.blk [⟨some 8, .mv (.tmp 0), none⟩,
 ⟨some 9, .call (F kAppendUvarint) [.tmp 8, .const (.int .u32 0)], none⟩,
 ⟨some 6, .mv (.tmp 9), none⟩])
 (.ret))
 (.skip)))
 (.seq (.blk [⟨some 10, .mv (.tmp 0), none⟩,
 ⟨some 11, .mv (.tmp 1), none⟩,
 ⟨some 12, .conv .u32 (.tmp 11), none⟩,
 ⟨some 13, .bin .add (.const (.int .u32 1)) (.tmp 12), none⟩,
 ⟨some 14, .call (F kAppendUvarint) [.tmp 10, .tmp 13], none⟩,
 ⟨some 6, .mv (.tmp 14), none⟩])
 (.ret))),
 [.tmp 6], 15)

/-- (*pub-mailsack/pub/kmsg.Tags).AppendEach -/
def ir_tAppendEach (F : Nat → Nat) : IC × List RV × Nat := (.seq (.blk [⟨some 3, .box (.tmp 1), none⟩,
 ⟨some 4, .mv (.const (.slice none 0 0)), none⟩])
 (.seq (.blk [⟨some 5, .mv (.tmp 0), none⟩,
 ⟨some 6, .mkfunc (.func (F tAppendEach1)) [] [.tmp 3], none⟩,
 ⟨some 7, .call (F tEach) [.tmp 5, .tmp 6], none⟩])
 (.seq (.blk [⟨some 8, .ld (.tmp 3), none⟩,
 ⟨some 4, .mv (.tmp 8), none⟩])
 (.ret))),
 [.tmp 4], 9)

/-- (*pub-mailsack/pub/kmsg.Tags).AppendEach$1 -/
def ir_tAppendEach1 (F : Nat → Nat) : IC × List RV × Nat := (.seq (.blk [⟨some 5, .ld (.tmp 2), none⟩,
 ⟨some 6, .mv (.tmp 0), none⟩,
 ⟨some 7, .call (F kAppendUvarint) [.tmp 5, .tmp 6], none⟩,
 ⟨none, .st (.tmp 2) 1 (.tmp 7), none⟩])
 (.seq (.blk [⟨some 8, .ld (.tmp 2), none⟩,
 ⟨some 9, .mv (.tmp 1), none⟩,
 ⟨some 10, .len (.tmp 9), none⟩,
 ⟨some 11, .conv .u32 (.tmp 10), none⟩,
 ⟨some 12, .call (F kAppendUvarint) [.tmp 8, .tmp 11], none⟩,
 ⟨none, .st (.tmp 2) 1 (.tmp 12), none⟩])
 (.blk [⟨some 13, .ld (.tmp 2), none⟩,
 ⟨some 14, .mv (.tmp 1), none⟩,
 ⟨some 15, .append (.tmp 13) (.tmp 14) 1 1, none⟩,
 ⟨none, .st (.tmp 2) 1 (.tmp 15), none⟩])),
 [], 16)

/-- math/bits.Len32 -/
def ir_bLen32 (_F : Nat → Nat) : IC × List RV × Nat := (.seq (.blk [⟨some 2, .mv (.const (.int .i64 0)), none⟩])
 (.seq (.seq (.blk [⟨some 3, .mv (.tmp 0), none⟩,
 ⟨some 4, .bin .geq (.tmp 3) (.const (.int .u32 65536)), none⟩])
 (.cond (.tmp 4)
 (.seq (.blk [⟨some 5, .mv (.tmp 0), none⟩,
 ⟨some 6, .bin .shr (.tmp 5) (.const (.int .u64 16)), none⟩,
 ⟨some 0, .mv (.tmp 6), none⟩])
 (.blk [⟨some 2, .mv (.const (.int .i64 16)), none⟩]))
 (.skip)))
 (.seq (.seq (.blk [⟨some 7, .mv (.tmp 0), none⟩,
 ⟨some 8, .bin .geq (.tmp 7) (.const (.int .u32 256)), none⟩])
 (.cond (.tmp 8)
 (.seq (.blk [⟨some 9, .mv (.tmp 0), none⟩,
 ⟨some 10, .bin .shr (.tmp 9) (.const (.int .u64 8)), none⟩,
 ⟨some 0, .mv (.tmp 10), none⟩])
 (.blk [⟨some 11, .mv (.tmp 2), none⟩,
 ⟨some 12, .bin .add (.tmp 11) (.const (.int .i64 8)), none⟩,
 ⟨some 2, .mv (.tmp 12), none⟩]))
 (.skip)))
 (.seq (.blk [⟨some 13, .mv (.tmp 2), none⟩,
 ⟨some 14, .mv (.tmp 0), none⟩,
 ⟨some 15, .conv .u8 (.tmp 14), none⟩,
 ⟨some 16, .idx (.const (.string tab8)) (.tmp 15), none⟩,
 ⟨some 17, .conv .i64 (.tmp 16), none⟩,
 ⟨some 18, .bin .add (.tmp 13) (.tmp 17), none⟩,
 ⟨some 2, .mv (.tmp 18), none⟩])
 (.ret)))),
 [.tmp 2], 19)

end Go.Msk

/-! Appending octets: what grows, and the kbin functions that append numbers. -/
namespace Go.Msk
open Go.RowKit
set_option maxRecDepth 100000

/-- How many octets are appended at most. -/
def lim : Nat := 70368744177664

/-- The block that a slice stands in. -/
def ownB : Value → Option Nat
  | .slice (some a) _ _ => some a.block
  | _ => none

/-- Octets that grow; their block is one of the new ones. -/
structure DRaw (w : World) (n0 : Nat) (v : Value) (l : List UInt8) : Prop where
  sl : (v = .slice none 0 0 ∧ l = []) ∨ ∃ B cap rest, v = .slice (some ⟨B, 0, none⟩) l.length cap ∧ l.length ≤ cap ∧ n0 ≤ B ∧ Blk w B (u8s l ++ rest) ∧ rest.length = cap - l.length

theorem DRaw.mod {w w' : World} {n0 : Nat} {v : Value} {l : List UInt8} {S : List Nat} (h : DRaw w n0 v l) (hm : Mod S w w') (hS : ∀ b, ownB v = some b → b ∉ S) : DRaw w' n0 v l :=
  ⟨h.sl.imp id fun ⟨B, cap, rest, h1, h2, h3, h4, h5⟩ => ⟨B, cap, rest, h1, h2, h3, h4.mod hm (hS _ (by rw [h1]; rfl)), h5⟩⟩

theorem DRaw.own {w : World} {n0 : Nat} {v : Value} {l : List UInt8} (h : DRaw w n0 v l) {b : Nat} (hb : ownB v = some b) : n0 ≤ b ∧ b < w.heap.size := by
  rcases h.sl with ⟨rfl, -⟩ | ⟨B, cap, rest, rfl, -, h3, h4, -⟩
  · simp [ownB] at hb
  · simp only [ownB, Option.some.injEq] at hb; subst hb; exact ⟨h3, h4.lt⟩

theorem DRaw.slc {w : World} {n0 : Nat} {v : Value} {l : List UInt8} (h : DRaw w n0 v l) : SlC (fun b => n0 ≤ b) w v l.length (u8s l) := by
  rcases h.sl with ⟨rfl, rfl⟩ | ⟨B, cap, rest, rfl, h2, h3, h4, -⟩
  · exact SlC.nil
  · refine ⟨_, cap, rfl, h2, fun h => by simp at h, fun a ha _ => ?_⟩
    simp only [Option.some.injEq] at ha; subst ha
    refine ⟨h3, h4.lt, ?_⟩
    have := h4.cells.take (u8s l).length
    simpa using this

theorem DRaw.one {w : World} {n0 : Nat} {v : Value} {l : List UInt8} (h : DRaw w n0 v l) : v.cells = #[v] ∧ v.oneCell' = true := by
  rcases h.sl with ⟨rfl, -⟩ | ⟨B, cap, rest, rfl, -⟩ <;> exact ⟨rfl, rfl⟩

/-- What appending leaves. -/
structure AppD (n0 : Nat) (w : World) (v : Value) (w' : World) (v' : Value) (l : List UInt8) : Prop where
  raw : DRaw w' n0 v' l
  mod : Mod (ownB v).toList w w'
  own : ∀ b, ownB v' = some b → ownB v = some b ∨ w.heap.size ≤ b

theorem AppD.refl {n0 : Nat} {w : World} {v : Value} {l : List UInt8} (h : DRaw w n0 v l) : AppD n0 w v w v l := ⟨h, Mod.refl _ _, fun _ h => .inl h⟩

theorem AppD.trans {n0 : Nat} {w w1 w2 : World} {v v1 v2 : Value} {l1 l2 : List UInt8} (h : AppD n0 w v w1 v1 l1) (k : AppD n0 w1 v1 w2 v2 l2) : AppD n0 w v w2 v2 l2 := by
  refine ⟨k.raw, ?_, fun b hb => ?_⟩
  · cases ho : ownB v1 with
    | none => have := k.mod; rw [ho] at this; exact h.mod.trans this.nil
    | some b =>
      have km := k.mod
      rw [ho] at km
      rcases h.own b ho with h1 | h1
      · have hm := h.mod
        rw [h1] at hm ⊢
        exact hm.trans km
      · refine Mod.drop (b := b) (S := (ownB v).toList) ?_ h1
        exact (h.mod.mono (by intro x hx; exact List.mem_cons_of_mem _ hx)).trans (km.mono (by simp))
  · rcases k.own b hb with h1 | h1
    · exact h.own b h1
    · exact .inr (Nat.le_trans h.mod.size h1)

/-- Something happens beside the octets. -/
theorem AppD.side {n0 : Nat} {w w1 w2 : World} {v v1 : Value} {l : List UInt8} (h : AppD n0 w v w1 v1 l) (hm : Mod [] w1 w2) : AppD n0 w v w2 v1 l :=
  ⟨h.raw.mod hm (by simp), h.mod.trans hm.nil, h.own⟩

theorem AppD.pre {n0 : Nat} {w w1 w2 : World} {v v1 : Value} {l : List UInt8} (hm : Mod [] w w1) (h : AppD n0 w1 v w2 v1 l) : AppD n0 w v w2 v1 l :=
  ⟨h.raw, hm.nil.trans h.mod, fun b hb => (h.own b hb).imp id fun h => Nat.le_trans hm.size h⟩

section
variable {P : Program}

/-- Octets are appended. -/
theorem append_run {σ : Sl} {w : World} {x y : Operand} {v : Value} {l k : List UInt8} {n0 : Nat} {K : Value → World → Prop} (hx : ev σ x = v) (hv : DRaw w n0 v l) (hn0 : n0 ≤ w.heap.size) (hy : srcCells w 1 (ev σ y) = some (k.length, u8s k))
    (hl : l.length + k.length ≤ lim) (hK : ∀ v' w', AppD n0 w v w' v' (l ++ k) → K v' w') : (RK.append x y 1 1).run P σ w K := by
  unfold lim at hl
  simp only [RK.run, hx]
  rcases hv.sl with ⟨rfl, rfl⟩ | ⟨B, cap, rest, rfl, h2, h3, h4, hr⟩
  · simp only [hy, appendRun]
    by_cases hk : k.length = 0
    · have : k = [] := List.length_eq_zero_iff.1 hk
      subst this
      simp only [List.length_nil, Nat.add_zero, Nat.le_refl, if_true]
      exact hK _ _ (AppD.refl ⟨.inl ⟨rfl, rfl⟩⟩)
    · rw [if_neg (by omega)]
      refine ⟨by omega, by omega, ?_⟩
      intro T cap rest hc hr
      have hb := Blk.new w.drew (u8s k ++ rest) T
      refine hK _ _ ⟨⟨.inr ⟨w.heap.size, cap, rest, by simp, by simpa using hc, hn0, by simpa using hb, by simpa using hr⟩⟩, (Mod.drew _ _).trans (Mod.alloc _ _ _), fun b hb => ?_⟩
      simp only [ownB, Option.some.injEq] at hb; subst hb; exact .inr (Nat.le_refl _)
  · simp only [hy, appendRun]
    by_cases hc : l.length + k.length ≤ cap
    · rw [if_pos hc]
      simp only [Addr.add_mk, Nat.zero_add, Nat.mul_one]
      have hone : ∀ v ∈ u8s k, v.oneCell' = true := fun v hv => by simp only [u8s, List.mem_map] at hv; obtain ⟨b, -, rfl⟩ := hv; rfl
      refine ⟨stOk_many h4 (by simp only [List.length_append, u8s_length]; omega) hone, hK _ _ ⟨⟨.inr ⟨B, cap, rest.drop k.length, by simp, by simpa using hc, h3, ?_, by simp; omega⟩⟩, by simpa [ownB] using Mod.put (by simp), fun b hb => .inl (by simpa [ownB] using hb)⟩⟩
      have hput := h4.put (o := l.length) (vs := u8s k) (by simp only [List.length_append, u8s_length]; omega)
      have e : splice (u8s l ++ rest) l.length (u8s k) = u8s (l ++ k) ++ rest.drop k.length := by
        rw [splice_end (u8s_length l), u8s_length, show u8s (l ++ k) = u8s l ++ u8s k by simp [u8s], List.append_assoc]
      rwa [e] at hput
    · rw [if_neg hc]
      refine ⟨by omega, by omega, ?_⟩
      have hco : cellsAt w ⟨B, 0, none⟩ 0 (l.length * 1) = some (u8s l) := by
        have := h4.cells.take (u8s l).length
        rw [List.take_left] at this
        exact cellsAt_of' this (by rw [u8s_length, Nat.mul_one])
      simp only [hco]
      intro T cap' rest' hc' hr'
      have hb := Blk.new w.drew (u8s l ++ (u8s k ++ rest')) T
      refine hK _ _ ⟨⟨.inr ⟨w.heap.size, cap', rest', by simp, by simpa using hc', hn0, ?_, by simp; omega⟩⟩, ((Mod.drew [] _).trans (Mod.alloc _ _ _)).nil, fun b hb => ?_⟩
      · have e : u8s (l ++ k) = u8s l ++ u8s k := by simp [u8s]
        rw [e, List.append_assoc]; exact hb
      · simp only [ownB, Option.some.injEq] at hb; subst hb; exact .inr (Nat.le_refl _)

/-- A function that appends what a value says. V: what the value says. -/
def AppC (P : Program) (f : FuncId) (V : World → Value → Prop) (enc : List UInt8) : Prop :=
  ∀ (n0 : Nat) (w : World) (dv v : Value) (l : List UInt8), DRaw w n0 dv l → n0 ≤ w.heap.size → l.length + enc.length ≤ lim → V w v →
    Calls P f [dv, v].toArray w fun e w' => ∃ dv', e = .returned dv' ∧ AppD n0 w dv w' dv' (l ++ enc)

end
end Go.Msk

/-! Numbers are appended. -/
namespace Go.Msk
open Go.RowKit
set_option maxRecDepth 100000

/-- A number in k octets, the highest first. -/
def beI : Nat → Int → List UInt8
  | 0, _ => []
  | k + 1, n => UInt8.ofNat ((n / 256 ^ k) % 256).toNat :: beI k n

theorem beI_length : ∀ (k : Nat) (n : Int), (beI k n).length = k
  | 0, _ => rfl
  | k + 1, n => by simp [beI, beI_length k n]

theorem u8v (n : Int) (_h : 0 ≤ n) : Value.int .u8 (IntKind.u8.wrap n) = Value.int .u8 ((UInt8.ofNat (n % 256).toNat).toNat : Int) := by
  have e : IntKind.u8.wrap n = n % 256 := by
    simp only [IntKind.wrap, IntKind.bits, IntKind.signed]; simp
  have h2 : 0 ≤ n % 256 := Int.emod_nonneg _ (by omega)
  have h3 : n % 256 < 256 := Int.emod_lt_of_pos _ (by omega)
  rw [e, Value.int.injEq]
  refine ⟨rfl, ?_⟩
  have : (UInt8.ofNat (n % 256).toNat).toNat = (n % 256).toNat := by simp; omega
  rw [this]; omega

theorem u8vz (n : Int) : Value.int .u8 (IntKind.u8.wrap n) = Value.int .u8 ((UInt8.ofNat (n % 256).toNat).toNat : Int) := by
  have e : IntKind.u8.wrap n = n % 256 := by
    simp only [IntKind.wrap, IntKind.bits, IntKind.signed]; simp
  have h2 : 0 ≤ n % 256 := Int.emod_nonneg _ (by omega)
  have h3 : n % 256 < 256 := Int.emod_lt_of_pos _ (by omega)
  rw [e, Value.int.injEq]
  refine ⟨rfl, ?_⟩
  have : (UInt8.ofNat (n % 256).toNat).toNat = (n % 256).toNat := by simp; omega
  rw [this]; omega

theorem ediv_emod_256 (p x : Int) (hp : 0 < p) : (x / p) % 256 = (x % (p * 256)) / p := by
  have a : x % (p * 256) = x + p * (-(256 * (x / p / 256))) := by
    rw [Int.emod_def, ← Int.ediv_ediv_of_nonneg (by omega), Int.mul_neg, ← Int.sub_eq_add_neg, Int.mul_assoc]
  rw [a, Int.add_mul_ediv_left _ _ (by omega), Int.emod_def (x / p)]
  omega

/-- What is ahead of the octets does not count. -/
theorem beI_mod : ∀ (k : Nat) (n m : Int), n % 256 ^ k = m % 256 ^ k → beI k n = beI k m
  | 0, _, _, _ => rfl
  | k + 1, n, m, h => by
    have hp : (0 : Int) < 256 ^ k := Int.pow_pos (by omega)
    rw [Int.pow_succ] at h
    have e1 : (n / 256 ^ k) % 256 = (m / 256 ^ k) % 256 := by
      have q := fun x => ediv_emod_256 (256 ^ k) x hp
      rw [q n, q m, h]
    have e2 : n % 256 ^ k = m % 256 ^ k := by
      have q : ∀ x : Int, (x % (256 ^ k * 256)) % 256 ^ k = x % 256 ^ k := fun x => Int.emod_emod_of_dvd x ⟨256, rfl⟩
      rw [← q n, ← q m, h]
    simp only [beI, e1, beI_mod k n m e2]

section
variable {P : Program} {F : Nat → Nat}

/-- New octets are laid down. -/
theorem bsliceB_run {σ : Sl} {w : World} {n : Nat} {l : List (Nat × Nat × Operand)} {bs : List UInt8} {K : Value → World → Prop} (hf : fillL (zrep n [.int .u8 0]) (l.map fun (o, k, x) => (o, k, ev σ x)) = some (u8s bs)) (hn : bs.length = n)
    (hK : ∀ v w', srcCells w' 1 v = some (bs.length, u8s bs) → Mod [] w w' → K v w') : (RK.bslice n [.int .u8 0] l).run P σ w K := by
  simp only [RK.run]
  rw [hf]
  intro T
  have hb := Blk.new w (u8s bs) T
  refine hK _ _ ?_ (Mod.alloc _ _ _)
  simp only [srcCells, Nat.mul_one]
  rw [cellsAt_of' hb.cells (by rw [u8s_length, hn])]
  simp [hn]

/-- The end of these functions: new octets behind the old ones. -/
theorem app_tail {x t n : Nat} {σ : Sl} {w : World} {l : List (Nat × Nat × Operand)} {bs : List UInt8} {v : Value} {k : List UInt8} {n0 : Nat} {R : Ending → World → Prop}
    (hx : σ x = v) (hxt : x < t) (hv : DRaw w n0 v k) (hn0 : n0 ≤ w.heap.size) (hl : k.length + bs.length ≤ lim) (hf : fillL (zrep n [.int .u8 0]) (l.map fun (o, k, x) => (o, k, ev σ x)) = some (u8s bs)) (hn : bs.length = n) (_h4 : 4 < t)
    (hR : ∀ v' w', AppD n0 w v w' v' (k ++ bs) → R (.returned v') w') :
    wpR P [⟨some t, .bslice n [.int .u8 0] l, none⟩, ⟨some (t + 1), .append (.tmp x) (.tmp t) 1 1, none⟩, ⟨some 4, .mv (.tmp (t + 1)), none⟩] σ w
      (thenC (wpC P .ret (postC [.tmp 4] R)) (postC [.tmp 4] R) .normal) := by
  refine wpR_run ?_
  refine bsliceB_run hf hn fun u w1 hu hm1 => ?_
  refine wpR_run ?_
  refine append_run (v := v) (by simp only [ev, updo, upd, show x ≠ t by omega, if_false, hx]) (hv.mod hm1 (by simp)) (Nat.le_trans hn0 hm1.size) (by simpa only [ev, updo, upd, if_true] using hu) hl fun v' w2 hA => ?_
  refine wpR_step (v := v') (by simp only [RK.val?, ev, updo, upd, if_true]) ?_
  refine wpR_done ?_
  simp only [wpC, postC, rvals, List.mapM_cons, List.mapM_nil, RV.val, updo, upd, if_true, Option.bind_eq_bind, Option.bind_some, Option.pure_def, tup_one]
  exact hR v' w2 (hA.pre hm1)

theorem kAppendUint16_call (hm : P.follows .mixedOrders = true) (h : liftF P (F kAppendUint16) = some (ir_kAppendUint16 F)) {n : Int} (hn : 0 ≤ n ∧ n < 65536) : AppC P (F kAppendUint16) (fun _ v => v = .int .u16 n) (beI 2 n) := by
  intro n0 w dv v l hd hn0 hl hv
  subst hv
  unfold ir_kAppendUint16 at h
  refine call_of h hm (by simp) ?_
  have a0 : args0 [dv, .int .u16 n] 0 = dv := rfl
  have a1 : args0 [dv, .int .u16 n] 1 = .int .u16 n := rfl
  generalize args0 [dv, .int .u16 n] = σ at a0 a1 ⊢
  rw [wpC_seq, wpC_blk]
  refine wpR_step (v := .slice none 0 0) rfl ?_
  refine wpR_done ?_
  rw [wpC_seq, wpC_blk]
  refine wpR_step (v := dv) (by simp only [RK.val?, ev, updo, upd]; simp [a0]) ?_
  refine wpR_step (v := .int .u16 n) (by simp only [RK.val?, ev, updo, upd]; simp [a1]) ?_
  refine wpR_step (v := .int .u16 (n / 256)) (by simp only [RK.val?, ev, updo, upd, if_true, isShift, Bool.true_or, intBin]; simp [IntKind.bits, Int.fdiv_eq_ediv_of_nonneg]) ?_
  refine wpR_step (v := .int .u8 (IntKind.u8.wrap (n / 256))) (by simp only [RK.val?, ev, updo, upd, if_true]) ?_
  refine wpR_step (v := .int .u16 n) (by simp only [RK.val?, ev, updo, upd]; simp [a1]) ?_
  refine wpR_step (v := .int .u8 (IntKind.u8.wrap n)) (by simp only [RK.val?, ev, updo, upd, if_true]) ?_
  refine app_tail (v := dv) (k := l) (bs := beI 2 n) (by simp only [updo, upd]; simp) (by omega) hd hn0 hl ?_ (beI_length _ _) (by omega) fun v' w' hA => ⟨v', rfl, hA⟩
  simp only [List.map_cons, List.map_nil, ev, updo, upd]
  simp [zrep, fillL, splice, Value.cells, beI, u8s, u8v n hn.1, u8v (n / 256) (by omega)]

theorem kAppendUint32_call (hm : P.follows .mixedOrders = true) (h : liftF P (F kAppendUint32) = some (ir_kAppendUint32 F)) {n : Int} (hn : 0 ≤ n ∧ n < 4294967296) : AppC P (F kAppendUint32) (fun _ v => v = .int .u32 n) (beI 4 n) := by
  intro n0 w dv v l hd hn0 hl hv
  subst hv
  unfold ir_kAppendUint32 at h
  refine call_of h hm (by simp) ?_
  have a0 : args0 [dv, .int .u32 n] 0 = dv := rfl
  have a1 : args0 [dv, .int .u32 n] 1 = .int .u32 n := rfl
  generalize args0 [dv, .int .u32 n] = σ at a0 a1 ⊢
  rw [wpC_seq, wpC_blk]
  refine wpR_step (v := .slice none 0 0) rfl ?_
  refine wpR_done ?_
  rw [wpC_seq, wpC_blk]
  refine wpR_step (v := dv) (by simp only [RK.val?, ev, updo, upd]; simp [a0]) ?_
  refine wpR_step (v := .int .u32 n) (by simp only [RK.val?, ev, updo, upd]; simp [a1]) ?_
  refine wpR_step (v := .int .u32 (n / 16777216)) (by simp only [RK.val?, ev, updo, upd, if_true, isShift, Bool.true_or, intBin]; simp [IntKind.bits, Int.fdiv_eq_ediv_of_nonneg]) ?_
  refine wpR_step (v := .int .u8 (IntKind.u8.wrap (n / 16777216))) (by simp only [RK.val?, ev, updo, upd, if_true]) ?_
  refine wpR_step (v := .int .u32 n) (by simp only [RK.val?, ev, updo, upd]; simp [a1]) ?_
  refine wpR_step (v := .int .u32 (n / 65536)) (by simp only [RK.val?, ev, updo, upd, if_true, isShift, Bool.true_or, intBin]; simp [IntKind.bits, Int.fdiv_eq_ediv_of_nonneg]) ?_
  refine wpR_step (v := .int .u8 (IntKind.u8.wrap (n / 65536))) (by simp only [RK.val?, ev, updo, upd, if_true]) ?_
  refine wpR_step (v := .int .u32 n) (by simp only [RK.val?, ev, updo, upd]; simp [a1]) ?_
  refine wpR_step (v := .int .u32 (n / 256)) (by simp only [RK.val?, ev, updo, upd, if_true, isShift, Bool.true_or, intBin]; simp [IntKind.bits, Int.fdiv_eq_ediv_of_nonneg]) ?_
  refine wpR_step (v := .int .u8 (IntKind.u8.wrap (n / 256))) (by simp only [RK.val?, ev, updo, upd, if_true]) ?_
  refine wpR_step (v := .int .u32 n) (by simp only [RK.val?, ev, updo, upd]; simp [a1]) ?_
  refine wpR_step (v := .int .u8 (IntKind.u8.wrap n)) (by simp only [RK.val?, ev, updo, upd, if_true]) ?_
  refine app_tail (v := dv) (k := l) (bs := beI 4 n) (by simp only [updo, upd]; simp) (by omega) hd hn0 hl ?_ (beI_length _ _) (by omega) fun v' w' hA => ⟨v', rfl, hA⟩
  simp only [List.map_cons, List.map_nil, ev, updo, upd]
  simp [zrep, fillL, splice, Value.cells, beI, u8s, u8v (n / 16777216) (by omega), u8v (n / 65536) (by omega), u8v (n / 256) (by omega), u8v n hn.1]

/-- One octet of the number. -/
theorem byte3 {t sh : Nat} {kk : IntKind} {n d : Int} {σ : Sl} {w : World} {rest : List RI} {Q : Sl → World → Prop} (h1 : σ 1 = .int kk n) (_hn : 0 ≤ n) (_hd : 0 < d) (_ht : 4 < t) (hs : intBin .shr kk n sh = some (.int kk (n / d)))
    (hQ : ∀ σ', Ag t σ σ' → σ' (t + 2) = .int .u8 ((UInt8.ofNat (n / d % 256).toNat).toNat : Int) → wpR P rest σ' w Q) :
    wpR P (⟨some t, .mv (.tmp 1), none⟩ :: ⟨some (t + 1), .bin .shr (.tmp t) (.const (.int .u64 sh)), none⟩ :: ⟨some (t + 2), .conv .u8 (.tmp (t + 1)), none⟩ :: rest) σ w Q := by
  refine wpR_step (v := .int kk n) (congrArg some h1) ?_
  refine wpR_step (v := .int kk (n / d)) (by simp only [RK.val?, ev, updo, upd, if_true, isShift, Bool.true_or, hs]) ?_
  refine wpR_step (v := .int .u8 (IntKind.u8.wrap (n / d))) (by simp only [RK.val?, ev, updo, upd, if_true]) ?_
  refine hQ _ (fun j hj => ?_) ?_
  · simp only [updo, upd, show j ≠ t by omega, show j ≠ t + 1 by omega, show j ≠ t + 2 by omega, if_false]
  · simp only [updo, upd, if_true]; exact u8vz _

theorem kAppendUint64_call (hm : P.follows .mixedOrders = true) (h : liftF P (F kAppendUint64) = some (ir_kAppendUint64 F)) {n : Int} (hn : 0 ≤ n ∧ n < 18446744073709551616) : AppC P (F kAppendUint64) (fun _ v => v = .int .u64 n) (beI 8 n) := by
  intro n0 w dv v l hd hn0 hl hv
  subst hv
  unfold ir_kAppendUint64 at h
  refine call_of h hm (by simp) ?_
  have a0 : args0 [dv, .int .u64 n] 0 = dv := rfl
  have a1 : args0 [dv, .int .u64 n] 1 = .int .u64 n := rfl
  generalize args0 [dv, .int .u64 n] = σ at a0 a1 ⊢
  rw [wpC_seq, wpC_blk]
  refine wpR_step (v := .slice none 0 0) rfl ?_
  refine wpR_done ?_
  rw [wpC_seq, wpC_blk]
  refine wpR_step (v := dv) (by simp only [RK.val?, ev, updo, upd]; simp [a0]) ?_
  have b5 : updo (updo σ (some 4) (.slice none 0 0)) (some 5) dv 5 = dv := by simp only [updo, upd, if_true]
  have b1 : updo (updo σ (some 4) (.slice none 0 0)) (some 5) dv 1 = .int .u64 n := by simp only [updo, upd]; simp [a1]
  generalize updo (updo σ (some 4) (.slice none 0 0)) (some 5) dv = σ0 at b5 b1 ⊢
  have sh : ∀ (k : Nat), k < 64 → intBin .shr .u64 n k = some (.int .u64 (n / 2 ^ k)) := fun k hk => by
    simp only [intBin]
    rw [if_neg (by omega)]
    have : min (k : Int).toNat IntKind.u64.bits = k := by show min (k : Int).toNat 64 = k; omega
    rw [this, Int.fdiv_eq_ediv_of_nonneg _ (by exact Int.le_of_lt (Int.pow_pos (by omega)))]
  refine byte3 (t := 6) (d := 72057594037927936) (b1) hn.1 (by omega) (by omega) (sh 56 (by omega)) fun σ1 k1 v1 => ?_
  have c1 : Ag 6 σ0 σ1 := k1
  refine byte3 (t := 9) (d := 281474976710656) ((c1 1 (by omega)).trans b1) hn.1 (by omega) (by omega) (sh 48 (by omega)) fun σ2 k2 v2 => ?_
  have c2 : Ag 6 σ0 σ2 := fun q hq => (k2 q (by omega)).trans (c1 q hq)
  refine byte3 (t := 12) (d := 1099511627776) ((c2 1 (by omega)).trans b1) hn.1 (by omega) (by omega) (sh 40 (by omega)) fun σ3 k3 v3 => ?_
  have c3 : Ag 6 σ0 σ3 := fun q hq => (k3 q (by omega)).trans (c2 q hq)
  refine byte3 (t := 15) (d := 4294967296) ((c3 1 (by omega)).trans b1) hn.1 (by omega) (by omega) (sh 32 (by omega)) fun σ4 k4 v4 => ?_
  have c4 : Ag 6 σ0 σ4 := fun q hq => (k4 q (by omega)).trans (c3 q hq)
  refine byte3 (t := 18) (d := 16777216) ((c4 1 (by omega)).trans b1) hn.1 (by omega) (by omega) (sh 24 (by omega)) fun σ5 k5 v5 => ?_
  have c5 : Ag 6 σ0 σ5 := fun q hq => (k5 q (by omega)).trans (c4 q hq)
  refine byte3 (t := 21) (d := 65536) ((c5 1 (by omega)).trans b1) hn.1 (by omega) (by omega) (sh 16 (by omega)) fun σ6 k6 v6 => ?_
  have c6 : Ag 6 σ0 σ6 := fun q hq => (k6 q (by omega)).trans (c5 q hq)
  refine byte3 (t := 24) (d := 256) ((c6 1 (by omega)).trans b1) hn.1 (by omega) (by omega) (sh 8 (by omega)) fun σ7 k7 v7 => ?_
  have c7 : Ag 6 σ0 σ7 := fun q hq => (k7 q (by omega)).trans (c6 q hq)
  refine wpR_step (v := .int .u64 n) (congrArg some ((c7 1 (by omega)).trans b1)) ?_
  refine wpR_step (v := .int .u8 (IntKind.u8.wrap n)) (by simp only [RK.val?, ev, updo, upd, if_true]) ?_
  have e8 : σ7 8 = .int .u8 ((UInt8.ofNat (n / 72057594037927936 % 256).toNat).toNat : Int) := (k7 8 (by omega)).trans ((k6 8 (by omega)).trans ((k5 8 (by omega)).trans ((k4 8 (by omega)).trans ((k3 8 (by omega)).trans ((k2 8 (by omega)).trans (v1))))))
  have e11 : σ7 11 = .int .u8 ((UInt8.ofNat (n / 281474976710656 % 256).toNat).toNat : Int) := (k7 11 (by omega)).trans ((k6 11 (by omega)).trans ((k5 11 (by omega)).trans ((k4 11 (by omega)).trans ((k3 11 (by omega)).trans (v2)))))
  have e14 : σ7 14 = .int .u8 ((UInt8.ofNat (n / 1099511627776 % 256).toNat).toNat : Int) := (k7 14 (by omega)).trans ((k6 14 (by omega)).trans ((k5 14 (by omega)).trans ((k4 14 (by omega)).trans (v3))))
  have e17 : σ7 17 = .int .u8 ((UInt8.ofNat (n / 4294967296 % 256).toNat).toNat : Int) := (k7 17 (by omega)).trans ((k6 17 (by omega)).trans ((k5 17 (by omega)).trans (v4)))
  have e20 : σ7 20 = .int .u8 ((UInt8.ofNat (n / 16777216 % 256).toNat).toNat : Int) := (k7 20 (by omega)).trans ((k6 20 (by omega)).trans (v5))
  have e23 : σ7 23 = .int .u8 ((UInt8.ofNat (n / 65536 % 256).toNat).toNat : Int) := (k7 23 (by omega)).trans (v6)
  have e26 : σ7 26 = .int .u8 ((UInt8.ofNat (n / 256 % 256).toNat).toNat : Int) := v7
  refine app_tail (v := dv) (k := l) (bs := beI 8 n) (by simp only [updo, upd]; simp; exact (c7 5 (by omega)).trans b5) (by omega) hd hn0 hl ?_ (beI_length _ _) (by omega) fun v' w' hA => ⟨v', rfl, hA⟩
  simp only [List.map_cons, List.map_nil, ev, updo, upd]
  simp [zrep, fillL, splice, Value.cells, beI, u8s, e8, e11, e14, e17, e20, e23, e26, u8vz n]

theorem kAppendInt8_call (hm : P.follows .mixedOrders = true) (h : liftF P (F kAppendInt8) = some (ir_kAppendInt8 F)) {n : Int} : AppC P (F kAppendInt8) (fun _ v => v = .int .i8 n) (beI 1 n) := by
  intro n0 w dv v l hd hn0 hl hv
  subst hv
  unfold ir_kAppendInt8 at h
  refine call_of h hm (by simp) ?_
  have a0 : args0 [dv, .int .i8 n] 0 = dv := rfl
  have a1 : args0 [dv, .int .i8 n] 1 = .int .i8 n := rfl
  generalize args0 [dv, .int .i8 n] = σ at a0 a1 ⊢
  rw [wpC_seq, wpC_blk]
  refine wpR_step (v := .slice none 0 0) rfl ?_
  refine wpR_done ?_
  rw [wpC_seq, wpC_blk]
  refine wpR_step (v := dv) (by simp only [RK.val?, ev, updo, upd]; simp [a0]) ?_
  refine wpR_step (v := .int .i8 n) (by simp only [RK.val?, ev, updo, upd]; simp [a1]) ?_
  refine wpR_step (v := .int .u8 (IntKind.u8.wrap n)) (by simp only [RK.val?, ev, updo, upd, if_true]) ?_
  refine app_tail (v := dv) (k := l) (bs := beI 1 n) (by simp only [updo, upd]; simp) (by omega) hd hn0 hl ?_ (beI_length _ _) (by omega) fun v' w' hA => ⟨v', rfl, hA⟩
  simp only [List.map_cons, List.map_nil, ev, updo, upd]
  simp [zrep, fillL, splice, Value.cells, beI, u8s, u8vz n]

theorem kAppendBool_call (hm : P.follows .mixedOrders = true) (h : liftF P (F kAppendBool) = some (ir_kAppendBool F)) {b : Bool} : AppC P (F kAppendBool) (fun _ v => v = .bool b) [if b then 1 else 0] := by
  intro n0 w dv v l hd hn0 hl hv
  subst hv
  unfold ir_kAppendBool at h
  refine call_of h hm (by simp) ?_
  have a0 : args0 [dv, .bool b] 0 = dv := rfl
  have a1 : args0 [dv, .bool b] 1 = .bool b := rfl
  generalize args0 [dv, .bool b] = σ at a0 a1 ⊢
  rw [wpC_seq, wpC_blk]
  refine wpR_step (v := .slice none 0 0) rfl ?_
  refine wpR_done ?_
  rw [wpC_seq, wpC_seq, wpC_blk]
  refine wpR_step (v := .bool b) (by simp only [RK.val?, ev, updo, upd]; simp [a1]) ?_
  refine wpR_done ?_
  have fin : ∀ (c : UInt8) (x : Nat) (y : Int), 6 ≤ x → Value.int .u8 y = .int .u8 (c.toNat : Int) → [if b then 1 else 0] = [c] → ∀ σ1 : Sl, σ1 (x - 1) = dv → wpR P [⟨some x, .bslice 1 [.int .u8 0] [(0, 1, .const (.int .u8 y))], none⟩, ⟨some (x + 1), .append (.tmp (x - 1)) (.tmp x) 1 1, none⟩, ⟨some 4, .mv (.tmp (x + 1)), none⟩] σ1 w
      (thenC (wpC P .ret (postC [.tmp 4] fun e w' => ∃ dv', e = .returned dv' ∧ AppD n0 w dv w' dv' (l ++ [if b then 1 else 0]))) (postC [.tmp 4] fun e w' => ∃ dv', e = .returned dv' ∧ AppD n0 w dv w' dv' (l ++ [if b then 1 else 0])) .normal) := by
    intro c x y hx hy hc σ1 h1
    rw [hc]
    refine app_tail (v := dv) (k := l) (bs := [c]) h1 (by omega) hd hn0 (by rw [hc] at hl; exact hl) ?_ rfl (by omega) fun v' w' hA => ⟨v', rfl, hA⟩
    simp only [List.map_cons, List.map_nil, ev, hy]
    simp [zrep, fillL, splice, Value.cells, u8s]
  cases b with
  | true =>
    rw [wpC_cond_t rfl, wpC_seq, wpC_blk]
    refine wpR_step (v := dv) (by simp only [RK.val?, ev, updo, upd]; simp [a0]) ?_
    exact fin 1 7 1 (by omega) rfl rfl _ rfl
  | false =>
    rw [wpC_cond_f rfl, wpC_skip]
    simp only [thenC]
    rw [wpC_seq, wpC_blk]
    refine wpR_step (v := dv) (by simp only [RK.val?, ev, updo, upd]; simp [a0]) ?_
    exact fin 0 10 0 (by omega) rfl rfl _ rfl

end
end Go.Msk

/-! Signed numbers and counts are appended. -/
namespace Go.Msk
open Go.RowKit
set_option maxRecDepth 100000

def convCode (k : IntKind) (g : FuncId) : IC × List RV × Nat :=
  (.seq (.blk [⟨some 4, .mv (.const (.slice none 0 0)), none⟩])
    (.seq (.blk [⟨some 5, .mv (.tmp 0), none⟩, ⟨some 6, .mv (.tmp 1), none⟩, ⟨some 7, .conv k (.tmp 6), none⟩, ⟨some 8, .call g [.tmp 5, .tmp 7], none⟩, ⟨some 4, .mv (.tmp 8), none⟩]) .ret), [.tmp 4], 9)

section
variable {P : Program} {F : Nat → Nat}

theorem conv_app (hm : P.follows .mixedOrders = true) {f g : FuncId} {k kk : IntKind} {n : Int} {enc : List UInt8} (h : liftF P f = some (convCode k g)) (hg : AppC P g (fun _ v => v = .int k (k.wrap n)) enc) : AppC P f (fun _ v => v = .int kk n) enc := by
  intro n0 w dv v l hd hn0 hl hv
  subst hv
  unfold convCode at h
  refine call_of h hm (by simp) ?_
  have a0 : args0 [dv, .int kk n] 0 = dv := rfl
  have a1 : args0 [dv, .int kk n] 1 = .int kk n := rfl
  generalize args0 [dv, .int kk n] = σ at a0 a1 ⊢
  rw [wpC_seq, wpC_blk]
  refine wpR_step (v := .slice none 0 0) rfl ?_
  refine wpR_done ?_
  rw [wpC_seq, wpC_blk]
  refine wpR_step (v := dv) (by simp only [RK.val?, ev, updo, upd]; simp [a0]) ?_
  refine wpR_step (v := .int kk n) (by simp only [RK.val?, ev, updo, upd]; simp [a1]) ?_
  refine wpR_step (v := .int k (k.wrap n)) (by simp only [RK.val?, ev, updo, upd, if_true]) ?_
  refine wpR_call (vs := [dv, .int k (k.wrap n)]) (by simp only [List.map_cons, List.map_nil, ev, updo, upd]; simp) (hg n0 w dv _ l hd hn0 hl rfl) ?_
  rintro e w' ⟨dv', rfl, hA⟩
  refine ⟨_, rfl, ?_⟩
  refine wpR_step (v := dv') (by simp only [RK.val?, ev, updo, upd, if_true]) ?_
  refine wpR_done ?_
  simp only [wpC, postC, rvals, List.mapM_cons, List.mapM_nil, RV.val, updo, upd, if_true, Option.bind_eq_bind, Option.bind_some, Option.pure_def, tup_one]
  exact ⟨dv', rfl, hA⟩

theorem AppC.enc {f : FuncId} {V : World → Value → Prop} {e e' : List UInt8} (h : AppC P f V e) (he : e = e') : AppC P f V e' := he ▸ h

theorem wrap_u (n : Int) : IntKind.u16.wrap n = n % 65536 ∧ IntKind.u32.wrap n = n % 4294967296 ∧ IntKind.u64.wrap n = n % 18446744073709551616 := by
  simp [IntKind.wrap, IntKind.bits, IntKind.signed]

theorem kAppendInt16_call (hm : P.follows .mixedOrders = true) (h : liftF P (F kAppendInt16) = some (ir_kAppendInt16 F)) (h2 : liftF P (F kAppendUint16) = some (ir_kAppendUint16 F)) {kk : IntKind} {n : Int} : AppC P (F kAppendInt16) (fun _ v => v = .int kk n) (beI 2 n) := by
  refine conv_app (k := .u16) hm h ?_
  rw [(wrap_u n).1]
  exact (kAppendUint16_call hm h2 ⟨Int.emod_nonneg _ (by omega), Int.emod_lt_of_pos _ (by omega)⟩).enc (beI_mod 2 _ _ (by simp))

theorem kAppendInt32_call (hm : P.follows .mixedOrders = true) (h : liftF P (F kAppendInt32) = some (ir_kAppendInt32 F)) (h2 : liftF P (F kAppendUint32) = some (ir_kAppendUint32 F)) {kk : IntKind} {n : Int} : AppC P (F kAppendInt32) (fun _ v => v = .int kk n) (beI 4 n) := by
  refine conv_app (k := .u32) hm h ?_
  rw [(wrap_u n).2.1]
  exact (kAppendUint32_call hm h2 ⟨Int.emod_nonneg _ (by omega), Int.emod_lt_of_pos _ (by omega)⟩).enc (beI_mod 4 _ _ (by simp))

theorem kAppendInt64_call (hm : P.follows .mixedOrders = true) (h : liftF P (F kAppendInt64) = some (ir_kAppendInt64 F)) (h2 : liftF P (F kAppendUint64) = some (ir_kAppendUint64 F)) {kk : IntKind} {n : Int} : AppC P (F kAppendInt64) (fun _ v => v = .int kk n) (beI 8 n) := by
  refine conv_app (k := .u64) hm h ?_
  rw [(wrap_u n).2.2]
  exact (kAppendUint64_call hm h2 ⟨Int.emod_nonneg _ (by omega), Int.emod_lt_of_pos _ (by omega)⟩).enc (beI_mod 8 _ _ (by simp))

theorem kAppendArrayLen_call (hm : P.follows .mixedOrders = true) (h : liftF P (F kAppendArrayLen) = some (ir_kAppendArrayLen F)) (h1 : liftF P (F kAppendInt32) = some (ir_kAppendInt32 F)) (h2 : liftF P (F kAppendUint32) = some (ir_kAppendUint32 F)) {n : Int} :
    AppC P (F kAppendArrayLen) (fun _ v => v = .int .i64 n) (beI 4 n) := by
  refine conv_app (k := .i32) hm h ?_
  refine (kAppendInt32_call hm h1 h2).enc (beI_mod 4 _ _ ?_)
  simp only [IntKind.wrap, IntKind.bits, IntKind.signed]
  simp
  omega

end
end Go.Msk

/-! Numbers in groups of seven bits are appended. -/
namespace Go.Msk
open Go.RowKit
set_option maxRecDepth 100000

/-- How many octets. -/
def lenU (n : Nat) : Nat := if n < 128 then 1 else if n < 16384 then 2 else if n < 2097152 then 3 else if n < 268435456 then 4 else 5

/-- How many bits, off the table. -/
def t8 (i : Nat) : Nat := (tab8.data.toList.getD i 0).toNat
def tU (i : Nat) : Nat := (tabU.data.toList.getD i 0).toNat
def bl (n : Nat) : Nat := if 65536 ≤ n then (if 256 ≤ n / 65536 then 24 + t8 (n / 16777216) else 16 + t8 (n / 65536)) else if 256 ≤ n then 8 + t8 (n / 256) else t8 n

theorem tabs_ok : ((List.range 256).all fun m => tU (t8 m) == lenU m && (m == 0 || (tU (8 + t8 m) == lenU (m * 256) && tU (16 + t8 m) == lenU (m * 65536) && tU (24 + t8 m) == lenU (m * 16777216)))) = true := by decide +kernel

theorem tU_bl {n : Nat} (hn : n < 4294967296) : tU (bl n) = lenU n := by
  have key := tabs_ok
  rw [List.all_eq_true] at key
  have k : ∀ m, m < 256 → tU (t8 m) = lenU m ∧ (m = 0 ∨ (tU (8 + t8 m) = lenU (m * 256) ∧ tU (16 + t8 m) = lenU (m * 65536) ∧ tU (24 + t8 m) = lenU (m * 16777216))) := fun m hm => by
    have := key m (List.mem_range.2 hm)
    simp only [Bool.and_eq_true, beq_iff_eq, Bool.or_eq_true] at this
    exact ⟨this.1, this.2.imp id fun h => ⟨h.1.1, h.1.2, h.2⟩⟩
  unfold bl
  split
  · split
    · obtain ⟨-, h⟩ := k (n / 16777216) (by omega)
      rw [(h.resolve_left (by omega)).2.2]
      unfold lenU; repeat' split
      all_goals omega
    · obtain ⟨-, h⟩ := k (n / 65536) (by omega)
      rw [(h.resolve_left (by omega)).2.1]
      unfold lenU; repeat' split
      all_goals omega
  · split
    · obtain ⟨-, h⟩ := k (n / 256) (by omega)
      rw [(h.resolve_left (by omega)).1]
      unfold lenU; repeat' split
      all_goals omega
    · exact (k n (by omega)).1

end Go.Msk
