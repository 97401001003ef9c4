/- A small language of resolved operations, and what the generic and the generated functions do in it (part 6). -/
import Derived.Test.YtfoljfjkifiboaaFe

namespace Go.Msk
open Go.RowKit
set_option maxRecDepth 100000
def lim : Nat := 70368744177664
def ownB : Value → Option Nat
  | .slice (some a) _ _ => some a.block
  | _ => none
structure DRaw (w : World) (n0 : Nat) (v : Value) (l : List UInt8) : Prop where
  sl : (v = .slice none 0 0 ∧ l = []) ∨ ∃ B cap rest, v = .slice (some ⟨B, 0, none⟩) l.length cap ∧ l.length ≤ cap ∧ n0 ≤ B ∧ Blk w B (u8s l ++ rest) ∧ rest.length = cap - l.length
theorem DRaw.mod {w w' : World} {n0 : Nat} {v : Value} {l : List UInt8} {S : List Nat} (h : DRaw w n0 v l) (hm : Mod S w w') (hS : ∀ b, ownB v = some b → b ∉ S) : DRaw w' n0 v l :=
  ⟨h.sl.imp id fun ⟨B, cap, rest, h1, h2, h3, h4, h5⟩ => ⟨B, cap, rest, h1, h2, h3, h4.mod hm (hS _ (by rw [h1]; rfl)), h5⟩⟩
theorem DRaw.own {w : World} {n0 : Nat} {v : Value} {l : List UInt8} (h : DRaw w n0 v l) {b : Nat} (hb : ownB v = some b) : n0 ≤ b ∧ b < w.heap.size := by
  rcases h.sl with ⟨rfl, -⟩ | ⟨B, cap, rest, rfl, -, h3, h4, -⟩
  · simp [ownB] at hb
  · simp only [ownB, Option.some.injEq] at hb; subst hb; exact ⟨h3, h4.lt⟩
theorem DRaw.slc {w : World} {n0 : Nat} {v : Value} {l : List UInt8} (h : DRaw w n0 v l) : SlC (fun b => n0 ≤ b) w v l.length (u8s l) := by
  rcases h.sl with ⟨rfl, rfl⟩ | ⟨B, cap, rest, rfl, h2, h3, h4, -⟩
  · exact SlC.nil
  · refine ⟨_, cap, rfl, h2, fun h => by simp at h, fun a ha _ => ?_⟩
    simp only [Option.some.injEq] at ha; subst ha
    refine ⟨h3, h4.lt, ?_⟩
    have := h4.cells.take (u8s l).length
    simpa using this
theorem DRaw.one {w : World} {n0 : Nat} {v : Value} {l : List UInt8} (h : DRaw w n0 v l) : v.cells = #[v] ∧ v.oneCell' = true := by
  rcases h.sl with ⟨rfl, -⟩ | ⟨B, cap, rest, rfl, -⟩ <;> exact ⟨rfl, rfl⟩
structure AppD (n0 : Nat) (w : World) (v : Value) (w' : World) (v' : Value) (l : List UInt8) : Prop where
  raw : DRaw w' n0 v' l
  mod : Mod (ownB v).toList w w'
  own : ∀ b, ownB v' = some b → ownB v = some b ∨ w.heap.size ≤ b
theorem AppD.refl {n0 : Nat} {w : World} {v : Value} {l : List UInt8} (h : DRaw w n0 v l) : AppD n0 w v w v l := ⟨h, Mod.refl _ _, fun _ h => .inl h⟩
theorem AppD.trans {n0 : Nat} {w w1 w2 : World} {v v1 v2 : Value} {l1 l2 : List UInt8} (h : AppD n0 w v w1 v1 l1) (k : AppD n0 w1 v1 w2 v2 l2) : AppD n0 w v w2 v2 l2 := by
  refine ⟨k.raw, ?_, fun b hb => ?_⟩
  · cases ho : ownB v1 with
    | none => have := k.mod; rw [ho] at this; exact h.mod.trans this.nil
    | some b =>
      have km := k.mod
      rw [ho] at km
      rcases h.own b ho with h1 | h1
      · have hm := h.mod
        rw [h1] at hm ⊢
        exact hm.trans km
      · refine Mod.drop (b := b) (S := (ownB v).toList) ?_ h1
        exact (h.mod.mono (by intro x hx; exact List.mem_cons_of_mem _ hx)).trans (km.mono (by simp))
  · rcases k.own b hb with h1 | h1
    · exact h.own b h1
    · exact .inr (Nat.le_trans h.mod.size h1)
theorem AppD.side {n0 : Nat} {w w1 w2 : World} {v v1 : Value} {l : List UInt8} (h : AppD n0 w v w1 v1 l) (hm : Mod [] w1 w2) : AppD n0 w v w2 v1 l :=
  ⟨h.raw.mod hm (by simp), h.mod.trans hm.nil, h.own⟩
theorem AppD.pre {n0 : Nat} {w w1 w2 : World} {v v1 : Value} {l : List UInt8} (hm : Mod [] w w1) (h : AppD n0 w1 v w2 v1 l) : AppD n0 w v w2 v1 l :=
  ⟨h.raw, hm.nil.trans h.mod, fun b hb => (h.own b hb).imp id fun h => Nat.le_trans hm.size h⟩
section
variable {P : Program}
theorem append_run {σ : Sl} {w : World} {x y : Operand} {v : Value} {l k : List UInt8} {n0 : Nat} {K : Value → World → Prop} (hx : ev σ x = v) (hv : DRaw w n0 v l) (hn0 : n0 ≤ w.heap.size) (hy : srcCells w 1 (ev σ y) = some (k.length, u8s k))
    (hl : l.length + k.length ≤ lim) (hK : ∀ v' w', AppD n0 w v w' v' (l ++ k) → K v' w') : (RK.append x y 1 1).run P σ w K := by
  unfold lim at hl
  simp only [RK.run, hx]
  rcases hv.sl with ⟨rfl, rfl⟩ | ⟨B, cap, rest, rfl, h2, h3, h4, hr⟩
  · simp only [hy, appendRun]
    by_cases hk : k.length = 0
    · have : k = [] := List.length_eq_zero_iff.1 hk
      subst this
      simp only [List.length_nil, Nat.add_zero, Nat.le_refl, if_true]
      exact hK _ _ (AppD.refl ⟨.inl ⟨rfl, rfl⟩⟩)
    · rw [if_neg (by omega)]
      refine ⟨by omega, by omega, ?_⟩
      intro T cap rest hc hr
      have hb := Blk.new w.drew (u8s k ++ rest) T
      refine hK _ _ ⟨⟨.inr ⟨w.heap.size, cap, rest, by simp, by simpa using hc, hn0, by simpa using hb, by simpa using hr⟩⟩, (Mod.drew _ _).trans (Mod.alloc _ _ _), fun b hb => ?_⟩
      simp only [ownB, Option.some.injEq] at hb; subst hb; exact .inr (Nat.le_refl _)
  · simp only [hy, appendRun]
    by_cases hc : l.length + k.length ≤ cap
    · rw [if_pos hc]
      simp only [Addr.add_mk, Nat.zero_add, Nat.mul_one]
      have hone : ∀ v ∈ u8s k, v.oneCell' = true := fun v hv => by simp only [u8s, List.mem_map] at hv; obtain ⟨b, -, rfl⟩ := hv; rfl
      refine ⟨stOk_many h4 (by simp only [List.length_append, u8s_length]; omega) hone, hK _ _ ⟨⟨.inr ⟨B, cap, rest.drop k.length, by simp, by simpa using hc, h3, ?_, by simp; omega⟩⟩, by simpa [ownB] using Mod.put (by simp), fun b hb => .inl (by simpa [ownB] using hb)⟩⟩
      have hput := h4.put (o := l.length) (vs := u8s k) (by simp only [List.length_append, u8s_length]; omega)
      have e : splice (u8s l ++ rest) l.length (u8s k) = u8s (l ++ k) ++ rest.drop k.length := by
        rw [splice_end (u8s_length l), u8s_length, show u8s (l ++ k) = u8s l ++ u8s k by simp [u8s], List.append_assoc]
      rwa [e] at hput
    · rw [if_neg hc]
      refine ⟨by omega, by omega, ?_⟩
      have hco : cellsAt w ⟨B, 0, none⟩ 0 (l.length * 1) = some (u8s l) := by
        have := h4.cells.take (u8s l).length
        rw [List.take_left] at this
        exact cellsAt_of' this (by rw [u8s_length, Nat.mul_one])
      simp only [hco]
      intro T cap' rest' hc' hr'
      have hb := Blk.new w.drew (u8s l ++ (u8s k ++ rest')) T
      refine hK _ _ ⟨⟨.inr ⟨w.heap.size, cap', rest', by simp, by simpa using hc', hn0, ?_, by simp; omega⟩⟩, ((Mod.drew [] _).trans (Mod.alloc _ _ _)).nil, fun b hb => ?_⟩
      · have e : u8s (l ++ k) = u8s l ++ u8s k := by simp [u8s]
        rw [e, List.append_assoc]; exact hb
      · simp only [ownB, Option.some.injEq] at hb; subst hb; exact .inr (Nat.le_refl _)
def AppC (P : Program) (f : FuncId) (V : World → Value → Prop) (enc : List UInt8) : Prop :=
  ∀ (n0 : Nat) (w : World) (dv v : Value) (l : List UInt8), DRaw w n0 dv l → n0 ≤ w.heap.size → l.length + enc.length ≤ lim → V w v →
    Calls P f [dv, v].toArray w fun e w' => ∃ dv', e = .returned dv' ∧ AppD n0 w dv w' dv' (l ++ enc)
end
end Go.Msk

namespace Go.Msk
open Go.RowKit
set_option maxRecDepth 100000
def beI : Nat → Int → List UInt8
  | 0, _ => []
  | k + 1, n => UInt8.ofNat ((n / 256 ^ k) % 256).toNat :: beI k n
theorem beI_length : ∀ (k : Nat) (n : Int), (beI k n).length = k
  | 0, _ => rfl
  | k + 1, n => by simp [beI, beI_length k n]
theorem u8v (n : Int) (_h : 0 ≤ n) : Value.int .u8 (IntKind.u8.wrap n) = Value.int .u8 ((UInt8.ofNat (n % 256).toNat).toNat : Int) := by
  have e : IntKind.u8.wrap n = n % 256 := by
    simp only [IntKind.wrap, IntKind.bits, IntKind.signed]; simp
  have h2 : 0 ≤ n % 256 := Int.emod_nonneg _ (by omega)
  have h3 : n % 256 < 256 := Int.emod_lt_of_pos _ (by omega)
  rw [e, Value.int.injEq]
  refine ⟨rfl, ?_⟩
  have : (UInt8.ofNat (n % 256).toNat).toNat = (n % 256).toNat := by simp; omega
  rw [this]; omega
theorem u8vz (n : Int) : Value.int .u8 (IntKind.u8.wrap n) = Value.int .u8 ((UInt8.ofNat (n % 256).toNat).toNat : Int) := by
  have e : IntKind.u8.wrap n = n % 256 := by
    simp only [IntKind.wrap, IntKind.bits, IntKind.signed]; simp
  have h2 : 0 ≤ n % 256 := Int.emod_nonneg _ (by omega)
  have h3 : n % 256 < 256 := Int.emod_lt_of_pos _ (by omega)
  rw [e, Value.int.injEq]
  refine ⟨rfl, ?_⟩
  have : (UInt8.ofNat (n % 256).toNat).toNat = (n % 256).toNat := by simp; omega
  rw [this]; omega
theorem ediv_emod_256 (p x : Int) (hp : 0 < p) : (x / p) % 256 = (x % (p * 256)) / p := by
  have a : x % (p * 256) = x + p * (-(256 * (x / p / 256))) := by
    rw [Int.emod_def, ← Int.ediv_ediv_of_nonneg (by omega), Int.mul_neg, ← Int.sub_eq_add_neg, Int.mul_assoc]
  rw [a, Int.add_mul_ediv_left _ _ (by omega), Int.emod_def (x / p)]
  omega
theorem beI_mod : ∀ (k : Nat) (n m : Int), n % 256 ^ k = m % 256 ^ k → beI k n = beI k m
  | 0, _, _, _ => rfl
  | k + 1, n, m, h => by
    have hp : (0 : Int) < 256 ^ k := Int.pow_pos (by omega)
    rw [Int.pow_succ] at h
    have e1 : (n / 256 ^ k) % 256 = (m / 256 ^ k) % 256 := by
      have q := fun x => ediv_emod_256 (256 ^ k) x hp
      rw [q n, q m, h]
    have e2 : n % 256 ^ k = m % 256 ^ k := by
      have q : ∀ x : Int, (x % (256 ^ k * 256)) % 256 ^ k = x % 256 ^ k := fun x => Int.emod_emod_of_dvd x ⟨256, rfl⟩
      rw [← q n, ← q m, h]
    simp only [beI, e1, beI_mod k n m e2]
section
variable {P : Program} {F : Nat → Nat}
theorem bsliceB_run {σ : Sl} {w : World} {n : Nat} {l : List (Nat × Nat × Operand)} {bs : List UInt8} {K : Value → World → Prop} (hf : fillL (zrep n [.int .u8 0]) (l.map fun (o, k, x) => (o, k, ev σ x)) = some (u8s bs)) (hn : bs.length = n)
    (hK : ∀ v w', srcCells w' 1 v = some (bs.length, u8s bs) → Mod [] w w' → K v w') : (RK.bslice n [.int .u8 0] l).run P σ w K := by
  simp only [RK.run]
  rw [hf]
  intro T
  have hb := Blk.new w (u8s bs) T
  refine hK _ _ ?_ (Mod.alloc _ _ _)
  simp only [srcCells, Nat.mul_one]
  rw [cellsAt_of' hb.cells (by rw [u8s_length, hn])]
  simp [hn]
theorem app_tail {x t n : Nat} {σ : Sl} {w : World} {l : List (Nat × Nat × Operand)} {bs : List UInt8} {v : Value} {k : List UInt8} {n0 : Nat} {R : Ending → World → Prop}
    (hx : σ x = v) (hxt : x < t) (hv : DRaw w n0 v k) (hn0 : n0 ≤ w.heap.size) (hl : k.length + bs.length ≤ lim) (hf : fillL (zrep n [.int .u8 0]) (l.map fun (o, k, x) => (o, k, ev σ x)) = some (u8s bs)) (hn : bs.length = n) (_h4 : 4 < t)
    (hR : ∀ v' w', AppD n0 w v w' v' (k ++ bs) → R (.returned v') w') :
    wpR P [⟨some t, .bslice n [.int .u8 0] l, none⟩, ⟨some (t + 1), .append (.tmp x) (.tmp t) 1 1, none⟩, ⟨some 4, .mv (.tmp (t + 1)), none⟩] σ w
      (thenC (wpC P .ret (postC [.tmp 4] R)) (postC [.tmp 4] R) .normal) := by
  refine wpR_run ?_
  refine bsliceB_run hf hn fun u w1 hu hm1 => ?_
  refine wpR_run ?_
  refine append_run (v := v) (by simp only [ev, updo, upd, show x ≠ t by omega, if_false, hx]) (hv.mod hm1 (by simp)) (Nat.le_trans hn0 hm1.size) (by simpa only [ev, updo, upd, if_true] using hu) hl fun v' w2 hA => ?_
  refine wpR_step (v := v') (by simp only [RK.val?, ev, updo, upd, if_true]) ?_
  refine wpR_done ?_
  simp only [wpC, postC, rvals, List.mapM_cons, List.mapM_nil, RV.val, updo, upd, if_true, Option.bind_eq_bind, Option.bind_some, Option.pure_def, tup_one]
  exact hR v' w2 (hA.pre hm1)
theorem kAppendUint16_call (hm : P.follows .mixedOrders = true) (h : liftF P (F kAppendUint16) = some (ir_kAppendUint16 F)) {n : Int} (hn : 0 ≤ n ∧ n < 65536) : AppC P (F kAppendUint16) (fun _ v => v = .int .u16 n) (beI 2 n) := by
  intro n0 w dv v l hd hn0 hl hv
  subst hv
  unfold ir_kAppendUint16 at h
  refine call_of h hm (by simp) ?_
  have a0 : args0 [dv, .int .u16 n] 0 = dv := rfl
  have a1 : args0 [dv, .int .u16 n] 1 = .int .u16 n := rfl
  generalize args0 [dv, .int .u16 n] = σ at a0 a1 ⊢
  rw [wpC_seq, wpC_blk]
  refine wpR_step (v := .slice none 0 0) rfl ?_
  refine wpR_done ?_
  rw [wpC_seq, wpC_blk]
  refine wpR_step (v := dv) (by simp only [RK.val?, ev, updo, upd]; simp [a0]) ?_
  refine wpR_step (v := .int .u16 n) (by simp only [RK.val?, ev, updo, upd]; simp [a1]) ?_
  refine wpR_step (v := .int .u16 (n / 256)) (by simp only [RK.val?, ev, updo, upd, if_true, isShift, Bool.true_or, intBin]; simp [IntKind.bits, Int.fdiv_eq_ediv_of_nonneg]) ?_
  refine wpR_step (v := .int .u8 (IntKind.u8.wrap (n / 256))) (by simp only [RK.val?, ev, updo, upd, if_true]) ?_
  refine wpR_step (v := .int .u16 n) (by simp only [RK.val?, ev, updo, upd]; simp [a1]) ?_
  refine wpR_step (v := .int .u8 (IntKind.u8.wrap n)) (by simp only [RK.val?, ev, updo, upd, if_true]) ?_
  refine app_tail (v := dv) (k := l) (bs := beI 2 n) (by simp only [updo, upd]; simp) (by omega) hd hn0 hl ?_ (beI_length _ _) (by omega) fun v' w' hA => ⟨v', rfl, hA⟩
  simp only [List.map_cons, List.map_nil, ev, updo, upd]
  simp [zrep, fillL, splice, Value.cells, beI, u8s, u8v n hn.1, u8v (n / 256) (by omega)]
theorem kAppendUint32_call (hm : P.follows .mixedOrders = true) (h : liftF P (F kAppendUint32) = some (ir_kAppendUint32 F)) {n : Int} (hn : 0 ≤ n ∧ n < 4294967296) : AppC P (F kAppendUint32) (fun _ v => v = .int .u32 n) (beI 4 n) := by
  intro n0 w dv v l hd hn0 hl hv
  subst hv
  unfold ir_kAppendUint32 at h
  refine call_of h hm (by simp) ?_
  have a0 : args0 [dv, .int .u32 n] 0 = dv := rfl
  have a1 : args0 [dv, .int .u32 n] 1 = .int .u32 n := rfl
  generalize args0 [dv, .int .u32 n] = σ at a0 a1 ⊢
  rw [wpC_seq, wpC_blk]
  refine wpR_step (v := .slice none 0 0) rfl ?_
  refine wpR_done ?_
  rw [wpC_seq, wpC_blk]
  refine wpR_step (v := dv) (by simp only [RK.val?, ev, updo, upd]; simp [a0]) ?_
  refine wpR_step (v := .int .u32 n) (by simp only [RK.val?, ev, updo, upd]; simp [a1]) ?_
  refine wpR_step (v := .int .u32 (n / 16777216)) (by simp only [RK.val?, ev, updo, upd, if_true, isShift, Bool.true_or, intBin]; simp [IntKind.bits, Int.fdiv_eq_ediv_of_nonneg]) ?_
  refine wpR_step (v := .int .u8 (IntKind.u8.wrap (n / 16777216))) (by simp only [RK.val?, ev, updo, upd, if_true]) ?_
  refine wpR_step (v := .int .u32 n) (by simp only [RK.val?, ev, updo, upd]; simp [a1]) ?_
  refine wpR_step (v := .int .u32 (n / 65536)) (by simp only [RK.val?, ev, updo, upd, if_true, isShift, Bool.true_or, intBin]; simp [IntKind.bits, Int.fdiv_eq_ediv_of_nonneg]) ?_
  refine wpR_step (v := .int .u8 (IntKind.u8.wrap (n / 65536))) (by simp only [RK.val?, ev, updo, upd, if_true]) ?_
  refine wpR_step (v := .int .u32 n) (by simp only [RK.val?, ev, updo, upd]; simp [a1]) ?_
  refine wpR_step (v := .int .u32 (n / 256)) (by simp only [RK.val?, ev, updo, upd, if_true, isShift, Bool.true_or, intBin]; simp [IntKind.bits, Int.fdiv_eq_ediv_of_nonneg]) ?_
  refine wpR_step (v := .int .u8 (IntKind.u8.wrap (n / 256))) (by simp only [RK.val?, ev, updo, upd, if_true]) ?_
  refine wpR_step (v := .int .u32 n) (by simp only [RK.val?, ev, updo, upd]; simp [a1]) ?_
  refine wpR_step (v := .int .u8 (IntKind.u8.wrap n)) (by simp only [RK.val?, ev, updo, upd, if_true]) ?_
  refine app_tail (v := dv) (k := l) (bs := beI 4 n) (by simp only [updo, upd]; simp) (by omega) hd hn0 hl ?_ (beI_length _ _) (by omega) fun v' w' hA => ⟨v', rfl, hA⟩
  simp only [List.map_cons, List.map_nil, ev, updo, upd]
  simp [zrep, fillL, splice, Value.cells, beI, u8s, u8v (n / 16777216) (by omega), u8v (n / 65536) (by omega), u8v (n / 256) (by omega), u8v n hn.1]
theorem byte3 {t sh : Nat} {kk : IntKind} {n d : Int} {σ : Sl} {w : World} {rest : List RI} {Q : Sl → World → Prop} (h1 : σ 1 = .int kk n) (_hn : 0 ≤ n) (_hd : 0 < d) (_ht : 4 < t) (hs : intBin .shr kk n sh = some (.int kk (n / d)))
    (hQ : ∀ σ', Ag t σ σ' → σ' (t + 2) = .int .u8 ((UInt8.ofNat (n / d % 256).toNat).toNat : Int) → wpR P rest σ' w Q) :
    wpR P (⟨some t, .mv (.tmp 1), none⟩ :: ⟨some (t + 1), .bin .shr (.tmp t) (.const (.int .u64 sh)), none⟩ :: ⟨some (t + 2), .conv .u8 (.tmp (t + 1)), none⟩ :: rest) σ w Q := by
  refine wpR_step (v := .int kk n) (congrArg some h1) ?_
  refine wpR_step (v := .int kk (n / d)) (by simp only [RK.val?, ev, updo, upd, if_true, isShift, Bool.true_or, hs]) ?_
  refine wpR_step (v := .int .u8 (IntKind.u8.wrap (n / d))) (by simp only [RK.val?, ev, updo, upd, if_true]) ?_
  refine hQ _ (fun j hj => ?_) ?_
  · simp only [updo, upd, show j ≠ t by omega, show j ≠ t + 1 by omega, show j ≠ t + 2 by omega, if_false]
  · simp only [updo, upd, if_true]; exact u8vz _
theorem kAppendUint64_call (hm : P.follows .mixedOrders = true) (h : liftF P (F kAppendUint64) = some (ir_kAppendUint64 F)) {n : Int} (hn : 0 ≤ n ∧ n < 18446744073709551616) : AppC P (F kAppendUint64) (fun _ v => v = .int .u64 n) (beI 8 n) := by
  intro n0 w dv v l hd hn0 hl hv
  subst hv
  unfold ir_kAppendUint64 at h
  refine call_of h hm (by simp) ?_
  have a0 : args0 [dv, .int .u64 n] 0 = dv := rfl
  have a1 : args0 [dv, .int .u64 n] 1 = .int .u64 n := rfl
  generalize args0 [dv, .int .u64 n] = σ at a0 a1 ⊢
  rw [wpC_seq, wpC_blk]
  refine wpR_step (v := .slice none 0 0) rfl ?_
  refine wpR_done ?_
  rw [wpC_seq, wpC_blk]
  refine wpR_step (v := dv) (by simp only [RK.val?, ev, updo, upd]; simp [a0]) ?_
  have b5 : updo (updo σ (some 4) (.slice none 0 0)) (some 5) dv 5 = dv := by simp only [updo, upd, if_true]
  have b1 : updo (updo σ (some 4) (.slice none 0 0)) (some 5) dv 1 = .int .u64 n := by simp only [updo, upd]; simp [a1]
  generalize updo (updo σ (some 4) (.slice none 0 0)) (some 5) dv = σ0 at b5 b1 ⊢
  have sh : ∀ (k : Nat), k < 64 → intBin .shr .u64 n k = some (.int .u64 (n / 2 ^ k)) := fun k hk => by
    simp only [intBin]
    rw [if_neg (by omega)]
    have : min (k : Int).toNat IntKind.u64.bits = k := by show min (k : Int).toNat 64 = k; omega
    rw [this, Int.fdiv_eq_ediv_of_nonneg _ (by exact Int.le_of_lt (Int.pow_pos (by omega)))]
  refine byte3 (t := 6) (d := 72057594037927936) (b1) hn.1 (by omega) (by omega) (sh 56 (by omega)) fun σ1 k1 v1 => ?_
  have c1 : Ag 6 σ0 σ1 := k1
  refine byte3 (t := 9) (d := 281474976710656) ((c1 1 (by omega)).trans b1) hn.1 (by omega) (by omega) (sh 48 (by omega)) fun σ2 k2 v2 => ?_
  have c2 : Ag 6 σ0 σ2 := fun q hq => (k2 q (by omega)).trans (c1 q hq)
  refine byte3 (t := 12) (d := 1099511627776) ((c2 1 (by omega)).trans b1) hn.1 (by omega) (by omega) (sh 40 (by omega)) fun σ3 k3 v3 => ?_
  have c3 : Ag 6 σ0 σ3 := fun q hq => (k3 q (by omega)).trans (c2 q hq)
  refine byte3 (t := 15) (d := 4294967296) ((c3 1 (by omega)).trans b1) hn.1 (by omega) (by omega) (sh 32 (by omega)) fun σ4 k4 v4 => ?_
  have c4 : Ag 6 σ0 σ4 := fun q hq => (k4 q (by omega)).trans (c3 q hq)
  refine byte3 (t := 18) (d := 16777216) ((c4 1 (by omega)).trans b1) hn.1 (by omega) (by omega) (sh 24 (by omega)) fun σ5 k5 v5 => ?_
  have c5 : Ag 6 σ0 σ5 := fun q hq => (k5 q (by omega)).trans (c4 q hq)
  refine byte3 (t := 21) (d := 65536) ((c5 1 (by omega)).trans b1) hn.1 (by omega) (by omega) (sh 16 (by omega)) fun σ6 k6 v6 => ?_
  have c6 : Ag 6 σ0 σ6 := fun q hq => (k6 q (by omega)).trans (c5 q hq)
  refine byte3 (t := 24) (d := 256) ((c6 1 (by omega)).trans b1) hn.1 (by omega) (by omega) (sh 8 (by omega)) fun σ7 k7 v7 => ?_
  have c7 : Ag 6 σ0 σ7 := fun q hq => (k7 q (by omega)).trans (c6 q hq)
  refine wpR_step (v := .int .u64 n) (congrArg some ((c7 1 (by omega)).trans b1)) ?_
  refine wpR_step (v := .int .u8 (IntKind.u8.wrap n)) (by simp only [RK.val?, ev, updo, upd, if_true]) ?_
  have e8 : σ7 8 = .int .u8 ((UInt8.ofNat (n / 72057594037927936 % 256).toNat).toNat : Int) := (k7 8 (by omega)).trans ((k6 8 (by omega)).trans ((k5 8 (by omega)).trans ((k4 8 (by omega)).trans ((k3 8 (by omega)).trans ((k2 8 (by omega)).trans (v1))))))
  have e11 : σ7 11 = .int .u8 ((UInt8.ofNat (n / 281474976710656 % 256).toNat).toNat : Int) := (k7 11 (by omega)).trans ((k6 11 (by omega)).trans ((k5 11 (by omega)).trans ((k4 11 (by omega)).trans ((k3 11 (by omega)).trans (v2)))))
  have e14 : σ7 14 = .int .u8 ((UInt8.ofNat (n / 1099511627776 % 256).toNat).toNat : Int) := (k7 14 (by omega)).trans ((k6 14 (by omega)).trans ((k5 14 (by omega)).trans ((k4 14 (by omega)).trans (v3))))
  have e17 : σ7 17 = .int .u8 ((UInt8.ofNat (n / 4294967296 % 256).toNat).toNat : Int) := (k7 17 (by omega)).trans ((k6 17 (by omega)).trans ((k5 17 (by omega)).trans (v4)))
  have e20 : σ7 20 = .int .u8 ((UInt8.ofNat (n / 16777216 % 256).toNat).toNat : Int) := (k7 20 (by omega)).trans ((k6 20 (by omega)).trans (v5))
  have e23 : σ7 23 = .int .u8 ((UInt8.ofNat (n / 65536 % 256).toNat).toNat : Int) := (k7 23 (by omega)).trans (v6)
  have e26 : σ7 26 = .int .u8 ((UInt8.ofNat (n / 256 % 256).toNat).toNat : Int) := v7
  refine app_tail (v := dv) (k := l) (bs := beI 8 n) (by simp only [updo, upd]; simp; exact (c7 5 (by omega)).trans b5) (by omega) hd hn0 hl ?_ (beI_length _ _) (by omega) fun v' w' hA => ⟨v', rfl, hA⟩
  simp only [List.map_cons, List.map_nil, ev, updo, upd]
  simp [zrep, fillL, splice, Value.cells, beI, u8s, e8, e11, e14, e17, e20, e23, e26, u8vz n]
theorem kAppendInt8_call (hm : P.follows .mixedOrders = true) (h : liftF P (F kAppendInt8) = some (ir_kAppendInt8 F)) {n : Int} : AppC P (F kAppendInt8) (fun _ v => v = .int .i8 n) (beI 1 n) := by
  intro n0 w dv v l hd hn0 hl hv
  subst hv
  unfold ir_kAppendInt8 at h
  refine call_of h hm (by simp) ?_
  have a0 : args0 [dv, .int .i8 n] 0 = dv := rfl
  have a1 : args0 [dv, .int .i8 n] 1 = .int .i8 n := rfl
  generalize args0 [dv, .int .i8 n] = σ at a0 a1 ⊢
  rw [wpC_seq, wpC_blk]
  refine wpR_step (v := .slice none 0 0) rfl ?_
  refine wpR_done ?_
  rw [wpC_seq, wpC_blk]
  refine wpR_step (v := dv) (by simp only [RK.val?, ev, updo, upd]; simp [a0]) ?_
  refine wpR_step (v := .int .i8 n) (by simp only [RK.val?, ev, updo, upd]; simp [a1]) ?_
  refine wpR_step (v := .int .u8 (IntKind.u8.wrap n)) (by simp only [RK.val?, ev, updo, upd, if_true]) ?_
  refine app_tail (v := dv) (k := l) (bs := beI 1 n) (by simp only [updo, upd]; simp) (by omega) hd hn0 hl ?_ (beI_length _ _) (by omega) fun v' w' hA => ⟨v', rfl, hA⟩
  simp only [List.map_cons, List.map_nil, ev, updo, upd]
  simp [zrep, fillL, splice, Value.cells, beI, u8s, u8vz n]
theorem kAppendBool_call (hm : P.follows .mixedOrders = true) (h : liftF P (F kAppendBool) = some (ir_kAppendBool F)) {b : Bool} : AppC P (F kAppendBool) (fun _ v => v = .bool b) [if b then 1 else 0] := by
  intro n0 w dv v l hd hn0 hl hv
  subst hv
  unfold ir_kAppendBool at h
  refine call_of h hm (by simp) ?_
  have a0 : args0 [dv, .bool b] 0 = dv := rfl
  have a1 : args0 [dv, .bool b] 1 = .bool b := rfl
  generalize args0 [dv, .bool b] = σ at a0 a1 ⊢
  rw [wpC_seq, wpC_blk]
  refine wpR_step (v := .slice none 0 0) rfl ?_
  refine wpR_done ?_
  rw [wpC_seq, wpC_seq, wpC_blk]
  refine wpR_step (v := .bool b) (by simp only [RK.val?, ev, updo, upd]; simp [a1]) ?_
  refine wpR_done ?_
  have fin : ∀ (c : UInt8) (x : Nat) (y : Int), 6 ≤ x → Value.int .u8 y = .int .u8 (c.toNat : Int) → [if b then 1 else 0] = [c] → ∀ σ1 : Sl, σ1 (x - 1) = dv → wpR P [⟨some x, .bslice 1 [.int .u8 0] [(0, 1, .const (.int .u8 y))], none⟩, ⟨some (x + 1), .append (.tmp (x - 1)) (.tmp x) 1 1, none⟩, ⟨some 4, .mv (.tmp (x + 1)), none⟩] σ1 w
      (thenC (wpC P .ret (postC [.tmp 4] fun e w' => ∃ dv', e = .returned dv' ∧ AppD n0 w dv w' dv' (l ++ [if b then 1 else 0]))) (postC [.tmp 4] fun e w' => ∃ dv', e = .returned dv' ∧ AppD n0 w dv w' dv' (l ++ [if b then 1 else 0])) .normal) := by
    intro c x y hx hy hc σ1 h1
    rw [hc]
    refine app_tail (v := dv) (k := l) (bs := [c]) h1 (by omega) hd hn0 (by rw [hc] at hl; exact hl) ?_ rfl (by omega) fun v' w' hA => ⟨v', rfl, hA⟩
    simp only [List.map_cons, List.map_nil, ev, hy]
    simp [zrep, fillL, splice, Value.cells, u8s]
  cases b with
  | true =>
    rw [wpC_cond_t rfl, wpC_seq, wpC_blk]
    refine wpR_step (v := dv) (by simp only [RK.val?, ev, updo, upd]; simp [a0]) ?_
    exact fin 1 7 1 (by omega) rfl rfl _ rfl
  | false =>
    rw [wpC_cond_f rfl, wpC_skip]
    simp only [thenC]
    rw [wpC_seq, wpC_blk]
    refine wpR_step (v := dv) (by simp only [RK.val?, ev, updo, upd]; simp [a0]) ?_
    exact fin 0 10 0 (by omega) rfl rfl _ rfl
end
end Go.Msk

namespace Go.Msk
open Go.RowKit
set_option maxRecDepth 100000
def convCode (k : IntKind) (g : FuncId) : IC × List RV × Nat :=
  (.seq (.blk [⟨some 4, .mv (.const (.slice none 0 0)), none⟩])
    (.seq (.blk [⟨some 5, .mv (.tmp 0), none⟩, ⟨some 6, .mv (.tmp 1), none⟩, ⟨some 7, .conv k (.tmp 6), none⟩, ⟨some 8, .call g [.tmp 5, .tmp 7], none⟩, ⟨some 4, .mv (.tmp 8), none⟩]) .ret), [.tmp 4], 9)
section
variable {P : Program} {F : Nat → Nat}
theorem conv_app (hm : P.follows .mixedOrders = true) {f g : FuncId} {k kk : IntKind} {n : Int} {enc : List UInt8} (h : liftF P f = some (convCode k g)) (hg : AppC P g (fun _ v => v = .int k (k.wrap n)) enc) : AppC P f (fun _ v => v = .int kk n) enc := by
  intro n0 w dv v l hd hn0 hl hv
  subst hv
  unfold convCode at h
  refine call_of h hm (by simp) ?_
  have a0 : args0 [dv, .int kk n] 0 = dv := rfl
  have a1 : args0 [dv, .int kk n] 1 = .int kk n := rfl
  generalize args0 [dv, .int kk n] = σ at a0 a1 ⊢
  rw [wpC_seq, wpC_blk]
  refine wpR_step (v := .slice none 0 0) rfl ?_
  refine wpR_done ?_
  rw [wpC_seq, wpC_blk]
  refine wpR_step (v := dv) (by simp only [RK.val?, ev, updo, upd]; simp [a0]) ?_
  refine wpR_step (v := .int kk n) (by simp only [RK.val?, ev, updo, upd]; simp [a1]) ?_
  refine wpR_step (v := .int k (k.wrap n)) (by simp only [RK.val?, ev, updo, upd, if_true]) ?_
  refine wpR_call (vs := [dv, .int k (k.wrap n)]) (by simp only [List.map_cons, List.map_nil, ev, updo, upd]; simp) (hg n0 w dv _ l hd hn0 hl rfl) ?_
  rintro e w' ⟨dv', rfl, hA⟩
  refine ⟨_, rfl, ?_⟩
  refine wpR_step (v := dv') (by simp only [RK.val?, ev, updo, upd, if_true]) ?_
  refine wpR_done ?_
  simp only [wpC, postC, rvals, List.mapM_cons, List.mapM_nil, RV.val, updo, upd, if_true, Option.bind_eq_bind, Option.bind_some, Option.pure_def, tup_one]
  exact ⟨dv', rfl, hA⟩
theorem AppC.enc {f : FuncId} {V : World → Value → Prop} {e e' : List UInt8} (h : AppC P f V e) (he : e = e') : AppC P f V e' := he ▸ h
theorem wrap_u (n : Int) : IntKind.u16.wrap n = n % 65536 ∧ IntKind.u32.wrap n = n % 4294967296 ∧ IntKind.u64.wrap n = n % 18446744073709551616 := by
  simp [IntKind.wrap, IntKind.bits, IntKind.signed]
theorem kAppendInt16_call (hm : P.follows .mixedOrders = true) (h : liftF P (F kAppendInt16) = some (ir_kAppendInt16 F)) (h2 : liftF P (F kAppendUint16) = some (ir_kAppendUint16 F)) {kk : IntKind} {n : Int} : AppC P (F kAppendInt16) (fun _ v => v = .int kk n) (beI 2 n) := by
  refine conv_app (k := .u16) hm h ?_
  rw [(wrap_u n).1]
  exact (kAppendUint16_call hm h2 ⟨Int.emod_nonneg _ (by omega), Int.emod_lt_of_pos _ (by omega)⟩).enc (beI_mod 2 _ _ (by simp))
theorem kAppendInt32_call (hm : P.follows .mixedOrders = true) (h : liftF P (F kAppendInt32) = some (ir_kAppendInt32 F)) (h2 : liftF P (F kAppendUint32) = some (ir_kAppendUint32 F)) {kk : IntKind} {n : Int} : AppC P (F kAppendInt32) (fun _ v => v = .int kk n) (beI 4 n) := by
  refine conv_app (k := .u32) hm h ?_
  rw [(wrap_u n).2.1]
  exact (kAppendUint32_call hm h2 ⟨Int.emod_nonneg _ (by omega), Int.emod_lt_of_pos _ (by omega)⟩).enc (beI_mod 4 _ _ (by simp))
theorem kAppendInt64_call (hm : P.follows .mixedOrders = true) (h : liftF P (F kAppendInt64) = some (ir_kAppendInt64 F)) (h2 : liftF P (F kAppendUint64) = some (ir_kAppendUint64 F)) {kk : IntKind} {n : Int} : AppC P (F kAppendInt64) (fun _ v => v = .int kk n) (beI 8 n) := by
  refine conv_app (k := .u64) hm h ?_
  rw [(wrap_u n).2.2]
  exact (kAppendUint64_call hm h2 ⟨Int.emod_nonneg _ (by omega), Int.emod_lt_of_pos _ (by omega)⟩).enc (beI_mod 8 _ _ (by simp))
theorem kAppendArrayLen_call (hm : P.follows .mixedOrders = true) (h : liftF P (F kAppendArrayLen) = some (ir_kAppendArrayLen F)) (h1 : liftF P (F kAppendInt32) = some (ir_kAppendInt32 F)) (h2 : liftF P (F kAppendUint32) = some (ir_kAppendUint32 F)) {n : Int} :
    AppC P (F kAppendArrayLen) (fun _ v => v = .int .i64 n) (beI 4 n) := by
  refine conv_app (k := .i32) hm h ?_
  refine (kAppendInt32_call hm h1 h2).enc (beI_mod 4 _ _ ?_)
  simp only [IntKind.wrap, IntKind.bits, IntKind.signed]
  simp
  omega
end
end Go.Msk

namespace Go.Msk
open Go.RowKit
set_option maxRecDepth 100000
def lenU (n : Nat) : Nat := if n < 128 then 1 else if n < 16384 then 2 else if n < 2097152 then 3 else if n < 268435456 then 4 else 5
def t8 (i : Nat) : Nat := (tab8.data.toList.getD i 0).toNat
def tU (i : Nat) : Nat := (tabU.data.toList.getD i 0).toNat
def bl (n : Nat) : Nat := if 65536 ≤ n then (if 256 ≤ n / 65536 then 24 + t8 (n / 16777216) else 16 + t8 (n / 65536)) else if 256 ≤ n then 8 + t8 (n / 256) else t8 n
theorem tabs_ok : ((List.range 256).all fun m => tU (t8 m) == lenU m && (m == 0 || (tU (8 + t8 m) == lenU (m * 256) && tU (16 + t8 m) == lenU (m * 65536) && tU (24 + t8 m) == lenU (m * 16777216)))) = true := by decide +kernel
theorem tU_bl {n : Nat} (hn : n < 4294967296) : tU (bl n) = lenU n := by
  have key := tabs_ok
  rw [List.all_eq_true] at key
  have k : ∀ m, m < 256 → tU (t8 m) = lenU m ∧ (m = 0 ∨ (tU (8 + t8 m) = lenU (m * 256) ∧ tU (16 + t8 m) = lenU (m * 65536) ∧ tU (24 + t8 m) = lenU (m * 16777216))) := fun m hm => by
    have := key m (List.mem_range.2 hm)
    simp only [Bool.and_eq_true, beq_iff_eq, Bool.or_eq_true] at this
    exact ⟨this.1, this.2.imp id fun h => ⟨h.1.1, h.1.2, h.2⟩⟩
  unfold bl
  split
  · split
    · obtain ⟨-, h⟩ := k (n / 16777216) (by omega)
      rw [(h.resolve_left (by omega)).2.2]
      unfold lenU; repeat' split
      all_goals omega
    · obtain ⟨-, h⟩ := k (n / 65536) (by omega)
      rw [(h.resolve_left (by omega)).2.1]
      unfold lenU; repeat' split
      all_goals omega
  · split
    · obtain ⟨-, h⟩ := k (n / 256) (by omega)
      rw [(h.resolve_left (by omega)).1]
      unfold lenU; repeat' split
      all_goals omega
    · exact (k n (by omega)).1
end Go.Msk

namespace Go.Msk
open Go.RowKit
set_option maxRecDepth 100000
theorem and127_u32 {n : Nat} (h : n < 4294967296) : intBin .and .u32 (n : Int) 127 = some (.int .u32 ((n % 128 : Nat) : Int)) := by
  simp only [intBin]
  congr 2
  have e1 : (BitVec.ofInt IntKind.u32.bits (n : Int) &&& BitVec.ofInt IntKind.u32.bits 127).toNat = n % 128 := by
    show (BitVec.ofInt 32 (n : Int) &&& BitVec.ofInt 32 127).toNat = n % 128
    rw [BitVec.toNat_and]
    have a : (BitVec.ofInt 32 (n : Int)).toNat = n := by simp []; omega
    have b : (BitVec.ofInt 32 127).toNat = 2 ^ 7 - 1 := by decide
    rw [a, b, Nat.and_two_pow_sub_one_eq_mod]
  rw [e1, u32_nat (by omega)]
theorem or128_u32 {x : Nat} (h : x < 128) : intBin .or .u32 (x : Int) 128 = some (.int .u32 ((x + 128 : Nat) : Int)) := by
  have := or_u32 (x := x) (y := 1) (s := 7) (by omega) (by omega) (by omega)
  simpa using this
theorem shr_u32 (n k : Nat) (hk : k < 32) : intBin .shr .u32 (n : Int) (k : Nat) = some (.int .u32 ((n / 2 ^ k : Nat) : Int)) := by
  simp only [intBin]
  rw [if_neg (by omega)]
  have : min (k : Int).toNat IntKind.u32.bits = k := by show min (k : Int).toNat 32 = k; omega
  rw [this, Int.fdiv_eq_ediv_of_nonneg _ (by exact Int.le_of_lt (Int.pow_pos (by omega)))]
  congr 2
def uvE (n : Nat) : List UInt8 := if n < 128 then [UInt8.ofNat n] else UInt8.ofNat (n % 128 + 128) :: uvE (n / 128)
termination_by n
decreasing_by omega
theorem uvE_small {n : Nat} (h : n < 128) : uvE n = [UInt8.ofNat n] := by rw [uvE, if_pos h]
theorem uvE_big {n : Nat} (h : 128 ≤ n) : uvE n = UInt8.ofNat (n % 128 + 128) :: uvE (n / 128) := by rw [uvE, if_neg (by omega)]
theorem uvE_length {n : Nat} (h : n < 4294967296) : (uvE n).length = lenU n := by
  have go : ∀ n, n < 128 → (uvE n).length = 1 := fun n h => by rw [uvE_small h]; rfl
  unfold lenU
  split
  · exact go n (by omega)
  · rw [uvE_big (by omega)]
    split
    · simp [go (n / 128) (by omega)]
    · rw [uvE_big (by omega)]
      split
      · simp [go (n / 128 / 128) (by omega)]
      · rw [uvE_big (by omega)]
        split
        · simp [go (n / 128 / 128 / 128) (by omega)]
        · rw [uvE_big (by omega)]
          simp [go (n / 128 / 128 / 128 / 128) (by omega)]
theorem u8_conv {x : Nat} (h : x < 256) : Value.int .u8 (IntKind.u8.wrap (x : Int)) = .int .u8 ((UInt8.ofNat x).toNat : Int) := by
  rw [u8vz]
  have : ((x : Int) % 256).toNat = x := by omega
  rw [this]
section
variable {P : Program} {F : Nat → Nat}
theorem grpS {t k n : Nat} {σ : Sl} {w : World} {rest : List RI} {Q : Sl → World → Prop} (h1 : σ 1 = .int .u32 (n : Nat)) (hn : n < 4294967296) (hk : k < 32) (_ht : 4 < t)
    (hQ : ∀ σ', Ag t σ σ' → σ' (t + 4) = .int .u8 ((UInt8.ofNat (n / 2 ^ k % 128 + 128)).toNat : Int) → wpR P rest σ' w Q) :
    wpR P (⟨some t, .mv (.tmp 1), none⟩ :: ⟨some (t + 1), .bin .shr (.tmp t) (.const (.int .u64 (k : Nat))), none⟩ :: ⟨some (t + 2), .bin .and (.tmp (t + 1)) (.const (.int .u32 127)), none⟩ :: ⟨some (t + 3), .bin .or (.tmp (t + 2)) (.const (.int .u32 128)), none⟩ ::
      ⟨some (t + 4), .conv .u8 (.tmp (t + 3)), none⟩ :: rest) σ w Q := by
  have hd : n / 2 ^ k < 4294967296 := Nat.lt_of_le_of_lt (Nat.div_le_self _ _) hn
  refine wpR_step (v := .int .u32 (n : Nat)) (congrArg some h1) ?_
  refine wpR_step (v := .int .u32 ((n / 2 ^ k : Nat) : Int)) (by simp only [RK.val?, ev, updo, upd, if_true, isShift, Bool.true_or, shr_u32 n k hk]) ?_
  refine wpR_step (v := .int .u32 ((n / 2 ^ k % 128 : Nat) : Int)) (by simp only [RK.val?, ev, updo, upd, if_true, isShift, decide_true, Bool.or_true, and127_u32 hd]) ?_
  refine wpR_step (v := .int .u32 ((n / 2 ^ k % 128 + 128 : Nat) : Int)) (by simp only [RK.val?, ev, updo, upd, if_true, isShift, decide_true, Bool.or_true, or128_u32 (Nat.mod_lt _ (by omega))]) ?_
  refine wpR_step (v := .int .u8 (IntKind.u8.wrap ((n / 2 ^ k % 128 + 128 : Nat) : Int))) (by simp only [RK.val?, ev, updo, upd, if_true]) ?_
  refine hQ _ (fun j hj => ?_) ?_
  · simp only [updo, upd, show j ≠ t by omega, show j ≠ t + 1 by omega, show j ≠ t + 2 by omega, show j ≠ t + 3 by omega, show j ≠ t + 4 by omega, if_false]
  · simp only [updo, upd, if_true]
    exact u8_conv (by omega)
theorem grpF {t n : Nat} {σ : Sl} {w : World} {rest : List RI} {Q : Sl → World → Prop} (h1 : σ 1 = .int .u32 (n : Nat)) (hn : n < 4294967296) (_ht : 4 < t)
    (hQ : ∀ σ', Ag t σ σ' → σ' (t + 3) = .int .u8 ((UInt8.ofNat (n % 128 + 128)).toNat : Int) → wpR P rest σ' w Q) :
    wpR P (⟨some t, .mv (.tmp 1), none⟩ :: ⟨some (t + 1), .bin .and (.tmp t) (.const (.int .u32 127)), none⟩ :: ⟨some (t + 2), .bin .or (.tmp (t + 1)) (.const (.int .u32 128)), none⟩ ::
      ⟨some (t + 3), .conv .u8 (.tmp (t + 2)), none⟩ :: rest) σ w Q := by
  refine wpR_step (v := .int .u32 (n : Nat)) (congrArg some h1) ?_
  refine wpR_step (v := .int .u32 ((n % 128 : Nat) : Int)) (by simp only [RK.val?, ev, updo, upd, if_true, isShift, decide_true, Bool.or_true, and127_u32 hn]) ?_
  refine wpR_step (v := .int .u32 ((n % 128 + 128 : Nat) : Int)) (by simp only [RK.val?, ev, updo, upd, if_true, isShift, decide_true, Bool.or_true, or128_u32 (Nat.mod_lt _ (by omega))]) ?_
  refine wpR_step (v := .int .u8 (IntKind.u8.wrap ((n % 128 + 128 : Nat) : Int))) (by simp only [RK.val?, ev, updo, upd, if_true]) ?_
  refine hQ _ (fun j hj => ?_) ?_
  · simp only [updo, upd, show j ≠ t by omega, show j ≠ t + 1 by omega, show j ≠ t + 2 by omega, show j ≠ t + 3 by omega, if_false]
  · simp only [updo, upd, if_true]
    exact u8_conv (by omega)
theorem grpL {t k n : Nat} {σ : Sl} {w : World} {rest : List RI} {Q : Sl → World → Prop} (h1 : σ 1 = .int .u32 (n : Nat)) (hk : k < 32) (hs : n / 2 ^ k < 256) (_ht : 4 < t)
    (hQ : ∀ σ', Ag t σ σ' → σ' (t + 2) = .int .u8 ((UInt8.ofNat (n / 2 ^ k)).toNat : Int) → wpR P rest σ' w Q) :
    wpR P (⟨some t, .mv (.tmp 1), none⟩ :: ⟨some (t + 1), .bin .shr (.tmp t) (.const (.int .u64 (k : Nat))), none⟩ :: ⟨some (t + 2), .conv .u8 (.tmp (t + 1)), none⟩ :: rest) σ w Q := by
  refine wpR_step (v := .int .u32 (n : Nat)) (congrArg some h1) ?_
  refine wpR_step (v := .int .u32 ((n / 2 ^ k : Nat) : Int)) (by simp only [RK.val?, ev, updo, upd, if_true, isShift, Bool.true_or, shr_u32 n k hk]) ?_
  refine wpR_step (v := .int .u8 (IntKind.u8.wrap ((n / 2 ^ k : Nat) : Int))) (by simp only [RK.val?, ev, updo, upd, if_true]) ?_
  refine hQ _ (fun j hj => ?_) ?_
  · simp only [updo, upd, show j ≠ t by omega, show j ≠ t + 1 by omega, show j ≠ t + 2 by omega, if_false]
  · simp only [updo, upd, if_true]
    exact u8_conv hs
end
end Go.Msk

namespace Go.Msk
open Go.RowKit
set_option maxRecDepth 100000
section
variable {P : Program}
theorem go1 {k : RK} {d : Option Nat} {g : Option (Nat × Bool)} {r : List RI} {σ : Sl} {w : World} {v : Value} {Q : Sl → World → Prop} (hg : gOk g σ = true) (hv : k.val? σ w = some v) (h : wpR P r (updo σ d v) w Q) : wpR P (⟨d, k, g⟩ :: r) σ w Q := by
  simp only [wpR, RI.wp, hg, if_true]
  exact run_of_val hv h
theorem go0 {k : RK} {d : Option Nat} {g : Nat × Bool} {r : List RI} {σ : Sl} {w : World} {Q : Sl → World → Prop} (hg : gOk (some g) σ = false) (h : wpR P r (updo σ d undef) w Q) : wpR P (⟨d, k, some g⟩ :: r) σ w Q := by
  simp only [wpR, RI.wp, hg]; exact h
theorem goC {k : RK} {d : Option Nat} {g : Option (Nat × Bool)} {r : List RI} {σ : Sl} {w : World} {Q : Sl → World → Prop} (hg : gOk g σ = true) (h : k.run P σ w fun v w' => wpR P r (updo σ d v) w' Q) : wpR P (⟨d, k, g⟩ :: r) σ w Q := by
  simp only [wpR, RI.wp, hg, if_true]; exact h
theorem goBox {x : Operand} {d : Option Nat} {r : List RI} {σ : Sl} {w : World} {v : Value} {Q : Sl → World → Prop} (hx : ev σ x = v)
    (h : ∀ w', Blk w' w.heap.size v.cells.toList → Mod [] w w' → wpR P r (updo σ d (.pointer (some ⟨w.heap.size, 0, none⟩))) w' Q) : wpR P (⟨d, .box x, none⟩ :: r) σ w Q := by
  subst hx
  refine wpR_run ?_
  intro T
  exact h _ (Blk.new w _ T) (Mod.alloc _ _ _)
theorem goAlloc {z : List Value} {d : Option Nat} {r : List RI} {σ : Sl} {w : World} {Q : Sl → World → Prop}
    (h : ∀ w', Blk w' w.heap.size z → Mod [] w w' → wpR P r (updo σ d (.pointer (some ⟨w.heap.size, 0, none⟩))) w' Q) : wpR P (⟨d, .alloc z, none⟩ :: r) σ w Q := by
  refine wpR_run ?_
  intro T
  exact h _ (Blk.new w _ T) (Mod.alloc _ _ _)
theorem goOne {x : Operand} {n : Nat} {z cs : List Value} {d : Option Nat} {r : List RI} {σ : Sl} {w : World} {Q : Sl → World → Prop} (hx : (ev σ x).cells.toList = cs) (hn : cs.length = n) (hz : z.length = n)
    (h : ∀ w', Blk w' w.heap.size cs → Mod [] w w' → wpR P r (updo σ d (.slice (some ⟨w.heap.size, 0, none⟩) 1 1)) w' Q) : wpR P (⟨d, .bslice 1 z [(0, n, x)], none⟩ :: r) σ w Q := by
  refine wpR_run ?_
  have hl : (ev σ x).cells.size = n := by rw [← hn, ← hx]; simp
  have e1 : fillL (zrep 1 z) [(0, n, ev σ x)] = some cs := by
    simp only [fillL, zrep, List.replicate, List.flatten_cons, List.flatten_nil, List.append_nil]
    rw [if_pos ⟨hl, by omega⟩, hx]
    simp [splice, hn, hz]
  simp only [RK.run, List.map_cons, List.map_nil, e1]
  intro T
  exact h _ (Blk.new w _ T) (Mod.alloc _ _ _)
theorem goSt {a x : Operand} {n b : Nat} {r : List RI} {σ : Sl} {w : World} {v : Value} {cs : List Value} {Q : Sl → World → Prop} (ha : ev σ a = .pointer (some ⟨b, 0, none⟩)) (hx : ev σ x = v) (hb : Blk w b cs) (hn : v.cells.size = n) (hl : cs.length = n)
    (h1 : ∀ y ∈ v.cells.toList, y.oneCell' = true) (h : ∀ w', Blk w' b v.cells.toList → Mod [b] w w' → wpR P r σ w' Q) : wpR P (⟨none, .st a n x, none⟩ :: r) σ w Q := by
  subst hx
  refine wpR_run ?_
  have hl' : (ev σ x).cells.toList.length = n := by simpa using hn
  simp only [RK.run, ha]
  refine ⟨hn, stOk_many hb (by omega) h1, h _ ?_ (Mod.put (by simp))⟩
  have := hb.put (o := 0) (vs := (ev σ x).cells.toList) (by omega)
  have e : splice cs 0 (ev σ x).cells.toList = (ev σ x).cells.toList := by simp [splice, hl, hl']
  rwa [e] at this
theorem goCall {f : FuncId} {args : List Operand} {d : Option Nat} {g : Option (Nat × Bool)} {r : List RI} {σ : Sl} {w : World} {Q : Sl → World → Prop} {R : Ending → World → Prop} {vs : List Value} (hg : gOk g σ = true) (ha : args.map (ev σ) = vs) (hc : Calls P f vs.toArray w R)
    (hk : ∀ e w', R e w' → ∃ v, e = .returned v ∧ wpR P r (updo σ d v) w' Q) : wpR P (⟨d, .call f args, g⟩ :: r) σ w Q := by
  subst ha
  refine goC hg ?_
  exact hc.mono fun e w' he => hk e w' he
theorem goEnd {Q : Sl → World → Prop} {σ : Sl} {w : World} (h : Q σ w) : wpR P [] σ w Q := h
theorem bo1 {l : List DI} {Φ : Nat → Value → World → Prop} {w0 : World} {E : Sl → Prop} {n : Nat} {k : RK} {d : Option Nat} {g : Option (Nat × Bool)} {ds : List Nat} {r : List DI} {σ : Sl} {v : Value} (hg : gOk g σ = true) (hv : k.val? σ w0 = some v)
    (h : walkB P l Φ w0 E (n + 1) r (updo σ d v)) : walkB P l Φ w0 E n (⟨⟨d, k, g⟩, false, ds⟩ :: r) σ := by
  simp only [walkB, hg, if_true, hv, Bool.false_eq_true, if_false]
  exact h
theorem bo0 {l : List DI} {Φ : Nat → Value → World → Prop} {w0 : World} {E : Sl → Prop} {n : Nat} {k : RK} {d : Option Nat} {g : Nat × Bool} {nd : Bool} {ds : List Nat} {r : List DI} {σ : Sl} (hg : gOk (some g) σ = false)
    (h : walkB P l Φ w0 E (n + 1) r (updo σ d undef)) : walkB P l Φ w0 E n (⟨⟨d, k, some g⟩, nd, ds⟩ :: r) σ := by
  simp only [walkB, hg, Bool.false_eq_true, if_false]
  exact h
theorem boN {l : List DI} {Φ : Nat → Value → World → Prop} {w0 : World} {E : Sl → Prop} {n : Nat} {k : RK} {d : Option Nat} {g : Option (Nat × Bool)} {ds : List Nat} {r : List DI} {σ : Sl} (hg : gOk g σ = true)
    (hn : ∀ w, Mod [] w0 w → known l Φ ds σ w → k.run P σ w fun v w' => Mod [] w w' ∧ Φ n v w') (h : ∀ v, (∃ w, Φ n v w) → walkB P l Φ w0 E (n + 1) r (updo σ d v)) : walkB P l Φ w0 E n (⟨⟨d, k, g⟩, true, ds⟩ :: r) σ := by
  simp only [walkB, hg, if_true]
  exact ⟨hn, h⟩
theorem boCall {l : List DI} {Φ : Nat → Value → World → Prop} {w0 : World} {E : Sl → Prop} {n : Nat} {f : FuncId} {args : List Operand} {d : Option Nat} {g : Option (Nat × Bool)} {ds : List Nat} {r : List DI} {σ : Sl} {vs : List Value} (hg : gOk g σ = true) (ha : args.map (ev σ) = vs)
    (hn : ∀ w, Mod [] w0 w → known l Φ ds σ w → Calls P f vs.toArray w fun e w' => ∃ v, e = .returned v ∧ Mod [] w w' ∧ Φ n v w') (h : ∀ v, (∃ w, Φ n v w) → walkB P l Φ w0 E (n + 1) r (updo σ d v)) :
    walkB P l Φ w0 E n (⟨⟨d, .call f args, g⟩, true, ds⟩ :: r) σ := by
  subst ha
  exact boN hg (fun w hm hk => hn w hm hk) h
theorem known_get {l : List DI} {Φ : Nat → Value → World → Prop} {js : List Nat} {σ : Sl} {w : World} {j t : Nat} {d : DI} (h : known l Φ js σ w) (hj : j ∈ js) (hd : l[j]? = some d) (hn : d.node = true) (hg : gOk d.ri.guard σ = true) (ht : d.ri.dst = some t) : Φ j (σ t) w :=
  h j hj d hd hn hg t ht
theorem ret1 {t : Nat} {R : Ending → World → Prop} {σ : Sl} {w : World} {v : Value} (hv : σ t = v) (h : R (.returned v) w) : wpC P .ret (postC [.tmp t] R) σ w := by
  subst hv
  simp only [wpC, postC, rvals, List.mapM_cons, List.mapM_nil, RV.val, Option.bind_eq_bind, Option.bind_some, Option.pure_def, tup_one]
  exact h
theorem post1 {t : Nat} {R : Ending → World → Prop} {σ : Sl} {w : World} {v : Value} (hv : σ t = v) (h : R (.returned v) w) : postC [.tmp t] R .ret σ w := by
  subst hv
  simp only [postC, rvals, List.mapM_cons, List.mapM_nil, RV.val, Option.bind_eq_bind, Option.bind_some, Option.pure_def, tup_one]
  exact h
theorem retN {t n b : Nat} {R : Ending → World → Prop} {σ : Sl} {w : World} {cs : List Value} (ht : σ t = .pointer (some ⟨b, 0, none⟩)) (hb : Blk w b cs) (hn : cs.length = n) (h : R (.returned (.agg cs.toArray)) w) : wpC P .ret (postC [.cells t n] R) σ w := by
  have hc := cellsAt_of' hb.cells hn
  simp only [wpC, postC, rvals, List.mapM_cons, List.mapM_nil, RV.val, ht, hc, Option.map_some, Option.bind_eq_bind, Option.bind_some, Option.pure_def, tup_one]
  exact h
theorem wpR_mono {Q Q' : Sl → World → Prop} (hQ : ∀ σ w, Q σ w → Q' σ w) : ∀ (l : List RI) (σ : Sl) (w : World), wpR P l σ w Q → wpR P l σ w Q'
  | [], σ, w, h => hQ σ w h
  | i :: r, σ, w, h => by
    simp only [wpR, RI.wp] at h ⊢
    split at h
    · rename_i hg; rw [if_pos hg]; exact run_mono h fun v w' hk => wpR_mono hQ r _ _ hk
    · rename_i hg; rw [if_neg hg]; exact wpR_mono hQ r _ _ h
theorem walk_mono {l : List DI} {R : World → World → Prop} {Φ : Nat → Value → World → Prop} {N : Nat → World → Prop} {w0 : World} {E E' : Sl → Prop} (hE : ∀ σ, E σ → E' σ) : ∀ (r : List DI) (k : Nat) (σ : Sl),
    walk P l R Φ N w0 E k r σ → walk P l R Φ N w0 E' k r σ
  | [], _, σ, h => hE σ h
  | d :: r, k, σ, h => by
    simp only [walk] at h ⊢
    split at h
    · rename_i hg; rw [if_pos hg]
      split at h
      · rename_i hn; rw [if_pos hn]; exact ⟨h.1, fun v hv => walk_mono hE r _ _ (h.2 v hv)⟩
      · rename_i hn; rw [if_neg hn]; obtain ⟨v, h1, h2⟩ := h; exact ⟨v, h1, walk_mono hE r _ _ h2⟩
    · rename_i hg; rw [if_neg hg]; exact walk_mono hE r _ _ h
theorem wpD_mono {l : List DI} {s : List RI} {σ : Sl} {w : World} {Q Q' : Sl → World → Prop} (hQ : ∀ σ w, Q σ w → Q' σ w) (h : wpD P l s σ w Q) : wpD P l s σ w Q' := by
  obtain ⟨R, Φ, N, h1, h2, h3, h4, h5⟩ := h
  exact ⟨R, Φ, N, h1, h2, h3, h4, walk_mono (fun σ h w hr hk => wpR_mono hQ s σ w (h w hr hk)) _ _ _ h5⟩
theorem thenC_mono {N N' : Sl → World → Prop} {Q Q' : Exit → Sl → World → Prop} (hN : ∀ σ w, N σ w → N' σ w) (hQ : ∀ e σ w, Q e σ w → Q' e σ w) : ∀ e σ w, thenC N Q e σ w → thenC N' Q' e σ w := by
  intro e σ w h
  cases e with
  | normal => exact hN σ w h
  | _ => exact hQ _ σ w h
theorem wpC_mono {Q Q' : Exit → Sl → World → Prop} (hQ : ∀ e σ w, Q e σ w → Q' e σ w) {c : IC} {σ : Sl} {w : World} (h : wpC P c Q σ w) : wpC P c Q' σ w := by
  induction c generalizing Q Q' σ w with
  | skip => exact hQ _ _ _ h
  | ret => exact hQ _ _ _ h
  | blk l => exact wpR_mono (hQ .normal) l σ w h
  | drw l s => exact wpD_mono (hQ .normal) h
  | seq a b iha ihb => exact iha (thenC_mono (fun σ w h => ihb hQ h) hQ) h
  | cond c a b iha ihb =>
    simp only [wpC] at h ⊢
    split at h
    · exact iha hQ h
    · exact ihb hQ h
    · exact h.elim
  | block id a ih =>
    refine ih (fun e σ w h => ?_) h
    cases e with
    | exit i => simp only [inBlockC] at h ⊢; split at h <;> rename_i hi <;> simp only [hi, if_true, if_false] <;> exact hQ _ _ _ h
    | _ => exact hQ _ _ _ h
  | loop a ih =>
    obtain ⟨I, μ, h0, h1⟩ := h
    exact ⟨I, μ, h0, fun σ w hi => ih (thenC_mono (fun _ _ h => h) hQ) (h1 σ w hi)⟩
  | exit id => exact hQ _ _ _ h
  | goto l => exact hQ _ _ _ h
  | scope a ih =>
    refine ih (fun e σ w h => ?_) h
    cases e with
    | goto l => exact h.elim
    | _ => exact hQ _ _ _ h
  | scopeTo a l r iha ihr =>
    refine iha (fun e σ w h => ?_) h
    cases e with
    | goto l' => exact ⟨h.1, ihr (fun e σ w h => by cases e with | goto l => exact h.elim | _ => exact hQ _ _ _ h) h.2⟩
    | _ => exact hQ _ _ _ h
  | rnd d1 d2 => exact fun c T => hQ _ _ _ (h c T)
  | bad => exact h
theorem retThen {N : Sl → World → Prop} {Q : Exit → Sl → World → Prop} {σ : Sl} {w : World} (h : wpC P .ret Q σ w) : wpC P .ret (thenC N Q) σ w := h
theorem retBlk {id : Nat} {Q : Exit → Sl → World → Prop} {σ : Sl} {w : World} (h : wpC P .ret Q σ w) : wpC P .ret (inBlockC id Q) σ w := h
def rngP (bid bid1 c nx j : Nat) (I : Nat → Sl → World → Prop) (Q : Exit → Sl → World → Prop) : Exit → Sl → World → Prop
  | .normal, σ, w => σ c = .int .i64 (j : Nat) ∧ I (j + 1) (upd (upd σ nx (.int .i64 ((j + 1 : Nat) : Int))) c (.int .i64 ((j + 1 : Nat) : Int))) w
  | .exit i, σ, w => if i = bid1 then σ c = .int .i64 (j : Nat) ∧ I (j + 1) (upd (upd σ nx (.int .i64 ((j + 1 : Nat) : Int))) c (.int .i64 ((j + 1 : Nat) : Int))) w else if i = bid then Q .normal σ w else Q (.exit i) σ w
  | e, σ, w => Q e σ w
theorem i64_nat {n : Nat} (h : n < 9223372036854775808) : IntKind.i64.wrap (n : Int) = n := by
  simp only [IntKind.wrap, IntKind.bits, IntKind.signed]
  simp
  omega
theorem retRng {bid bid1 c nx j : Nat} {I : Nat → Sl → World → Prop} {Q : Exit → Sl → World → Prop} {σ : Sl} {w : World} (h : wpC P .ret Q σ w) : wpC P .ret (rngP bid bid1 c nx j I Q) σ w := h
theorem rangeLoop {c nl nx b bid bid1 n : Nat} {body : IC} {Q : Exit → Sl → World → Prop} {σ : Sl} {w : World} (I : Nat → Sl → World → Prop) (hn : n < 9223372036854775807) (_hne : bid ≠ bid1)
    (hI : ∀ j σ w, I j σ w → σ c = .int .i64 (j : Nat) ∧ σ nl = .int .i64 (n : Nat)) (h0 : I 0 σ w)
    (hstep : ∀ j σ w, j < n → I j σ w → wpC P body (rngP bid bid1 c nx j I Q) (upd σ b (.bool true)) w)
    (hend : ∀ σ w, I n σ w → Q .normal (upd σ b (.bool false)) w) :
    wpC P (.block bid (.loop (.seq (.blk [⟨some b, .bin .lss (.tmp c) (.tmp nl), none⟩]) (.seq (.cond (.tmp b) .skip (.exit bid)) (.seq (.block bid1 body) (.blk [⟨some nx, .bin .add (.tmp c) (.const (.int .i64 1)), none⟩, ⟨some c, .mv (.tmp nx), none⟩])))))) Q σ w := by
  rw [wpC_block, wpC_loop]
  refine ⟨fun σ w => ∃ j, j ≤ n ∧ I j σ w, fun σ _ => n - (match σ c with | .int _ j => j.toNat | _ => 0), ⟨0, Nat.zero_le _, h0⟩, ?_⟩
  rintro σ w ⟨j, hj, hi⟩
  obtain ⟨ec, el⟩ := hI j σ w hi
  rw [wpC_seq, wpC_blk]
  refine go1 (v := .bool (decide ((j : Int) < n))) rfl (by simp [RK.val?, ev, ec, el, intBin]) ?_
  refine goEnd ?_
  simp only [thenC, updo]
  rw [wpC_seq]
  by_cases hlt : j < n
  · have e1 : decide ((j : Int) < n) = true := by simp [hlt]
    rw [e1, wpC_cond_t (by simp [ev, upd]), wpC_skip]
    simp only [thenC]
    rw [wpC_seq, wpC_block]
    refine wpC_mono ?_ (hstep j σ w hlt hi)
    have key : ∀ σ' w', (σ' c = .int .i64 (j : Nat) ∧ I (j + 1) (upd (upd σ' nx (.int .i64 ((j + 1 : Nat) : Int))) c (.int .i64 ((j + 1 : Nat) : Int))) w') →
        wpC P (.blk [⟨some nx, .bin .add (.tmp c) (.const (.int .i64 1)), none⟩, ⟨some c, .mv (.tmp nx), none⟩])
          (thenC (fun σ' w' => (∃ j, j ≤ n ∧ I j σ' w') ∧ (n - (match σ' c with | .int _ j => j.toNat | _ => 0)) < (n - (match σ c with | .int _ j => j.toNat | _ => 0))) (inBlockC bid Q)) σ' w' := by
      rintro σ' w' ⟨k1, k2⟩
      rw [wpC_blk]
      refine go1 (v := .int .i64 ((j + 1 : Nat) : Int)) rfl (by
        simp only [RK.val?, ev, k1, isShift, decide_true, Bool.or_true, if_true, intBin]
        rw [show (j : Int) + 1 = ((j + 1 : Nat) : Int) by omega, i64_nat (by omega)]) ?_
      refine go1 (v := .int .i64 ((j + 1 : Nat) : Int)) rfl (by simp [RK.val?, ev, updo, upd]) ?_
      refine goEnd ?_
      simp only [thenC, updo]
      refine ⟨⟨j + 1, by omega, k2⟩, ?_⟩
      simp only [upd_same, ec, Int.toNat_natCast]
      have : n - (j + 1) < n - j := by omega
      exact this
    intro e σ' w' he
    cases e with
    | normal => exact key σ' w' he
    | exit i =>
      simp only [rngP] at he
      simp only [inBlockC]
      split at he
      · rename_i e1; rw [if_pos e1]; exact key σ' w' he
      · rename_i e1
        rw [if_neg e1]
        simp only [thenC, inBlockC]
        exact he
    | _ => exact he
  · have e1 : decide ((j : Int) < n) = false := by simp; omega
    have : j = n := by omega
    subst this
    rw [e1, wpC_cond_f (by simp [ev, upd])]
    simp only [wpC, thenC, inBlockC, if_true]
    exact hend σ w hi
end
end Go.Msk

namespace Go.Msk
open Go.RowKit
set_option maxRecDepth 100000
theorem tab8_get {m : Nat} (h : m < 256) : ∃ b : UInt8, tab8.data.toList[m]? = some b ∧ b.toNat = t8 m := by
  have hl : tab8.data.toList.length = 256 := by decide +kernel
  refine ⟨tab8.data.toList[m]'(by omega), List.getElem?_eq_getElem _, ?_⟩
  unfold t8
  rw [List.getD_eq_getElem?_getD, List.getElem?_eq_getElem (by omega)]; rfl
theorem tabU_get {m : Nat} (h : m < 256) : ∃ b : UInt8, tabU.data.toList[m]? = some b ∧ b.toNat = tU m := by
  have hl : tabU.data.toList.length = 256 := by decide +kernel
  refine ⟨tabU.data.toList[m]'(by omega), List.getElem?_eq_getElem _, ?_⟩
  unfold tU
  rw [List.getD_eq_getElem?_getD, List.getElem?_eq_getElem (by omega)]; rfl
theorem t8_le {m : Nat} (h : m < 256) : t8 m ≤ 8 := by
  have key : ((List.range 256).all fun m => decide (t8 m ≤ 8)) = true := by decide +kernel
  rw [List.all_eq_true] at key
  simpa using key m (List.mem_range.2 h)
theorem bl_le {n : Nat} (h : n < 4294967296) : bl n ≤ 32 := by
  unfold bl
  repeat' split
  · have := t8_le (m := n / 16777216) (by omega); omega
  · have := t8_le (m := n / 65536) (by omega); omega
  · have := t8_le (m := n / 256) (by omega); omega
  · have := t8_le (m := n) (by omega); omega
theorem uvE_5 {n : Nat} (h : 268435456 ≤ n) (h2 : n < 34359738368) : uvE n = [UInt8.ofNat (n % 128 + 128), UInt8.ofNat (n / 2 ^ 7 % 128 + 128), UInt8.ofNat (n / 2 ^ 14 % 128 + 128), UInt8.ofNat (n / 2 ^ 21 % 128 + 128), UInt8.ofNat (n / 2 ^ 28)] := by
  have e1 : n / 128 / 128 = n / 2 ^ 14 := by rw [Nat.div_div_eq_div_mul]
  have e2 : n / 128 / 128 / 128 = n / 2 ^ 21 := by rw [Nat.div_div_eq_div_mul, Nat.div_div_eq_div_mul]
  have e3 : n / 128 / 128 / 128 / 128 = n / 2 ^ 28 := by rw [Nat.div_div_eq_div_mul, Nat.div_div_eq_div_mul, Nat.div_div_eq_div_mul]
  rw [uvE_big (by omega), uvE_big (by omega), uvE_big (by omega), uvE_big (by omega), uvE_small (by omega), e3, e2, e1]
theorem uvE_4 {n : Nat} (h : 2097152 ≤ n) (h2 : n < 268435456) : uvE n = [UInt8.ofNat (n % 128 + 128), UInt8.ofNat (n / 2 ^ 7 % 128 + 128), UInt8.ofNat (n / 2 ^ 14 % 128 + 128), UInt8.ofNat (n / 2 ^ 21)] := by
  have e1 : n / 128 / 128 = n / 2 ^ 14 := by rw [Nat.div_div_eq_div_mul]
  have e2 : n / 128 / 128 / 128 = n / 2 ^ 21 := by rw [Nat.div_div_eq_div_mul, Nat.div_div_eq_div_mul]
  rw [uvE_big (by omega), uvE_big (by omega), uvE_big (by omega), uvE_small (by omega), e2, e1]
theorem uvE_3 {n : Nat} (h : 16384 ≤ n) (h2 : n < 2097152) : uvE n = [UInt8.ofNat (n % 128 + 128), UInt8.ofNat (n / 2 ^ 7 % 128 + 128), UInt8.ofNat (n / 2 ^ 14)] := by
  have e1 : n / 128 / 128 = n / 2 ^ 14 := by rw [Nat.div_div_eq_div_mul]
  rw [uvE_big (by omega), uvE_big (by omega), uvE_small (by omega), e1]
theorem uvE_2 {n : Nat} (h : 128 ≤ n) (h2 : n < 16384) : uvE n = [UInt8.ofNat (n % 128 + 128), UInt8.ofNat (n / 2 ^ 7)] := by
  rw [uvE_big (by omega), uvE_small (by omega)]
section
variable {P : Program} {F : Nat → Nat}
attribute [local simp] gOk updo upd ev RK.val? isShift intBin Addr.add_mk args0 Value.cells undef
theorem appN {x d1 d2 n n0 : Nat} {l : List (Nat × Nat × Operand)} {bs k : List UInt8} {w : World} {σ : Sl} {v : Value} {r : List RI} {Q : Sl → World → Prop} (hx : σ x = v) (hne : x ≠ d1) (hd : DRaw w n0 v k) (hn0 : n0 ≤ w.heap.size)
    (hf : fillL (zrep n [.int .u8 0]) (l.map fun (o, k, x) => (o, k, ev σ x)) = some (u8s bs)) (hn : bs.length = n) (hl : k.length + bs.length ≤ lim) (hQ : ∀ u w' v', AppD n0 w v w' v' (k ++ bs) → wpR P r (upd (upd σ d1 u) d2 v') w' Q) :
    wpR P (⟨some d1, .bslice n [.int .u8 0] l, none⟩ :: ⟨some d2, .append (.tmp x) (.tmp d1) 1 1, none⟩ :: r) σ w Q := by
  refine goC rfl ?_
  refine bsliceB_run hf hn fun u w1 hs hm1 => ?_
  refine goC rfl ?_
  refine append_run (n0 := n0) (v := v) (by simp only [ev, updo, upd, hne, if_false, hx]) (hd.mod hm1 (by simp)) (Nat.le_trans hn0 hm1.size) (k := bs) (by simpa using hs) hl fun v' w2 ha => ?_
  exact hQ u w2 v' (ha.pre hm1)
theorem len32_call (hm : P.follows .mixedOrders = true) (h : liftF P (F bLen32) = some (ir_bLen32 F)) {w : World} {n : Nat} (hn : n < 4294967296) :
    Calls P (F bLen32) [.int .u32 (n : Nat)].toArray w fun e w' => e = .returned (.int .i64 (bl n : Nat)) ∧ w' = w := by
  unfold ir_bLen32 at h
  refine call_of h hm (by simp) ?_
  clear h
  rw [wpC_seq, wpC_blk]
  refine go1 rfl rfl (wpR_done ?_)
  have fin : ∀ (σ : Sl) (b m : Nat), m < 256 → b ≤ 24 → σ 2 = .int .i64 (b : Nat) → σ 0 = .int .u32 (m : Nat) → b + t8 m = bl n →
      wpC P (.seq (.blk [⟨(some (13)), .mv (.tmp 2), none⟩, ⟨(some (14)), .mv (.tmp 0), none⟩, ⟨(some (15)), .conv .u8 (.tmp 14), none⟩, ⟨(some (16)), .idx (.const (.string tab8)) (.tmp 15), none⟩,
      ⟨(some (17)), .conv .i64 (.tmp 16), none⟩, ⟨(some (18)), .bin .add (.tmp 13) (.tmp 17), none⟩, ⟨(some (2)), .mv (.tmp 18), none⟩]) (.ret)) (postC [.tmp 2] fun e w' => e = .returned (.int .i64 (bl n : Nat)) ∧ w' = w) σ w := by
    intro σ b m hm1 hb h2 h0 he
    obtain ⟨t, ht1, ht2⟩ := tab8_get hm1
    have hle := t8_le hm1
    rw [wpC_seq, wpC_blk]
    refine go1 (v := .int .i64 (b : Nat)) rfl (by simp [h2]) ?_
    refine go1 (v := .int .u32 (m : Nat)) rfl (by simp [h0]) ?_
    refine go1 (v := .int .u8 (m : Nat)) rfl (by simp; rw [wrap_nat .u8 rfl m (by show m < 2 ^ 8; omega)]) ?_
    refine go1 (v := .int .u8 (t8 m : Nat)) rfl (by simp [ht1, ht2]) ?_
    refine go1 (v := .int .i64 (t8 m : Nat)) rfl (by simp [i64_nat (n := t8 m) (by omega)]) ?_
    refine go1 (v := .int .i64 (bl n : Nat)) rfl (by
      simp only [RK.val?, ev, updo, upd, if_true, if_false, show (13 : Nat) ≠ 17 by decide, show (13 : Nat) ≠ 16 by decide, show (13 : Nat) ≠ 15 by decide, show (13 : Nat) ≠ 14 by decide, isShift, decide_true, Bool.or_true, intBin]
      rw [show (b : Int) + (t8 m : Nat) = ((b + t8 m : Nat) : Int) by omega, i64_nat (by omega), he]) ?_
    exact go1 (v := .int .i64 (bl n : Nat)) rfl (by simp) (wpR_done (ret1 (by simp) ⟨rfl, rfl⟩))
  have mid : ∀ (σ : Sl) (b m : Nat), m < 65536 → b ≤ 16 → σ 2 = .int .i64 (b : Nat) → σ 0 = .int .u32 (m : Nat) → (if 256 ≤ m then b + 8 + t8 (m / 256) else b + t8 m) = bl n →
      wpC P (.seq (.seq (.blk [⟨(some (7)), .mv (.tmp 0), none⟩, ⟨(some (8)), .bin .geq (.tmp 7) (.const (.int .u32 256)), none⟩])
    (.cond (.tmp 8) (.seq (.blk [⟨(some (9)), .mv (.tmp 0), none⟩, ⟨(some (10)), .bin .shr (.tmp 9) (.const (.int .u64 8)), none⟩, ⟨(some (0)), .mv (.tmp 10), none⟩])
      (.blk [⟨(some (11)), .mv (.tmp 2), none⟩, ⟨(some (12)), .bin .add (.tmp 11) (.const (.int .i64 8)), none⟩, ⟨(some (2)), .mv (.tmp 12), none⟩])) (.skip)))
    (.seq (.blk [⟨(some (13)), .mv (.tmp 2), none⟩, ⟨(some (14)), .mv (.tmp 0), none⟩, ⟨(some (15)), .conv .u8 (.tmp 14), none⟩, ⟨(some (16)), .idx (.const (.string tab8)) (.tmp 15), none⟩,
      ⟨(some (17)), .conv .i64 (.tmp 16), none⟩, ⟨(some (18)), .bin .add (.tmp 13) (.tmp 17), none⟩, ⟨(some (2)), .mv (.tmp 18), none⟩]) (.ret))) (postC [.tmp 2] fun e w' => e = .returned (.int .i64 (bl n : Nat)) ∧ w' = w) σ w := by
    intro σ b m hm1 hb h2 h0 he
    rw [wpC_seq, wpC_seq, wpC_blk]
    refine go1 (v := .int .u32 (m : Nat)) rfl (by simp [h0]) ?_
    refine go1 (v := .bool (decide ((m : Int) ≥ 256))) rfl (by simp) (wpR_done ?_)
    by_cases hh : 256 ≤ m
    · rw [wpC_cond_t (by simp; omega), wpC_seq, wpC_blk]
      refine go1 (v := .int .u32 (m : Nat)) rfl (by simp [h0]) ?_
      refine go1 (v := .int .u32 ((m / 256 : Nat) : Int)) rfl (by
        have := shr_u32 m 8 (by omega)
        simp only [RK.val?, ev, updo, upd, if_true, isShift, Bool.true_or]
        simpa using this) ?_
      refine go1 (v := .int .u32 ((m / 256 : Nat) : Int)) rfl (by simp) (wpR_done ?_)
      rw [wpC_blk]
      refine go1 (v := .int .i64 (b : Nat)) rfl (by simp [h2]) ?_
      refine go1 (v := .int .i64 ((b + 8 : Nat) : Int)) rfl (by
        simp only [RK.val?, ev, updo, upd, if_true, isShift, decide_true, Bool.or_true, intBin]
        rw [show (b : Int) + 8 = ((b + 8 : Nat) : Int) by omega, i64_nat (by omega)]) ?_
      refine go1 (v := .int .i64 ((b + 8 : Nat) : Int)) rfl (by simp) (wpR_done ?_)
      rw [if_pos hh] at he
      exact fin _ (b + 8) (m / 256) (by omega) (by omega) (by simp) (by simp) he
    · rw [wpC_cond_f (by simp; omega), wpC_skip]
      simp only [thenC]
      rw [if_neg hh] at he
      exact fin _ b m (by omega) (by omega) (by simp [h2]) (by simp [h0]) he
  rw [wpC_seq, wpC_seq, wpC_blk]
  refine go1 (v := .int .u32 (n : Nat)) rfl (by simp) ?_
  refine go1 (v := .bool (decide ((n : Int) ≥ 65536))) rfl (by simp) (wpR_done ?_)
  by_cases hh : 65536 ≤ n
  · rw [wpC_cond_t (by simp; omega), wpC_seq, wpC_blk]
    refine go1 (v := .int .u32 (n : Nat)) rfl (by simp) ?_
    refine go1 (v := .int .u32 ((n / 65536 : Nat) : Int)) rfl (by
      have := shr_u32 n 16 (by omega)
      simp only [RK.val?, ev, updo, upd, if_true, isShift, Bool.true_or]
      simpa using this) ?_
    refine go1 (v := .int .u32 ((n / 65536 : Nat) : Int)) rfl (by simp) (wpR_done ?_)
    rw [wpC_blk]
    refine go1 (v := .int .i64 16) rfl (by simp) (wpR_done ?_)
    refine mid _ 16 (n / 65536) (by omega) (by omega) (by simp) (by simp) ?_
    unfold bl
    rw [if_pos hh, Nat.div_div_eq_div_mul]
  · rw [wpC_cond_f (by simp; omega), wpC_skip]
    simp only [thenC]
    refine mid _ 0 n (by omega) (by omega) (by simp) (by simp) ?_
    unfold bl
    rw [if_neg hh]; simp
theorem uvarintLen_call (hm : P.follows .mixedOrders = true) (h : liftF P (F kUvarintLen) = some (ir_kUvarintLen F)) (hb : liftF P (F bLen32) = some (ir_bLen32 F)) {w : World} {n : Nat} (hn : n < 4294967296) :
    Calls P (F kUvarintLen) [.int .u32 (n : Nat)].toArray w fun e w' => e = .returned (.int .i64 (lenU n : Nat)) ∧ w' = w := by
  unfold ir_kUvarintLen at h
  refine call_of h hm (by simp) ?_
  clear h
  have hle := bl_le hn
  obtain ⟨t, ht1, ht2⟩ := tabU_get (m := bl n) (by omega)
  rw [tU_bl hn] at ht2
  have hle5 : lenU n ≤ 5 := by unfold lenU; repeat' split
                               all_goals omega
  rw [wpC_seq, wpC_blk]
  refine go1 rfl rfl (wpR_done ?_)
  rw [wpC_seq, wpC_blk]
  refine go1 (v := .int .u32 (n : Nat)) rfl (by simp) ?_
  refine goCall rfl (vs := [.int .u32 (n : Nat)]) (by simp) (len32_call hm hb hn) ?_
  rintro e w' ⟨rfl, ew⟩
  rw [ew]
  refine ⟨_, rfl, ?_⟩
  refine go1 (v := .int .u8 (bl n : Nat)) rfl (by simp; rw [wrap_nat .u8 rfl (bl n) (by show bl n < 2 ^ 8; omega)]) ?_
  refine go1 (v := .int .u8 (lenU n : Nat)) rfl (by simp [ht1, ht2]) ?_
  refine go1 (v := .int .i64 (lenU n : Nat)) rfl (by simp [i64_nat (n := lenU n) (by omega)]) ?_
  exact go1 (v := .int .i64 (lenU n : Nat)) rfl (by simp) (wpR_done (ret1 (by simp) ⟨rfl, rfl⟩))
theorem kAppendUvarint_call (hm : P.follows .mixedOrders = true) (h : liftF P (F kAppendUvarint) = some (ir_kAppendUvarint F)) (hl : liftF P (F kUvarintLen) = some (ir_kUvarintLen F)) (hb : liftF P (F bLen32) = some (ir_bLen32 F)) {n : Nat} (hn : n < 4294967296) :
    AppC P (F kAppendUvarint) (fun _ v => v = .int .u32 (n : Nat)) (uvE n) := by
  intro n0 w dv v l hd hn0 hlen hv
  subst hv
  unfold ir_kAppendUvarint at h
  refine call_of h hm (by simp) ?_
  clear h
  have e5 := uvE_length hn
  rw [wpC_seq, wpC_blk]
  refine go1 rfl rfl (wpR_done ?_)
  rw [wpC_seq, wpC_seq, wpC_blk]
  refine go1 (v := .int .u32 (n : Nat)) rfl (by simp) ?_
  refine goCall rfl (vs := [.int .u32 (n : Nat)]) (by simp) (uvarintLen_call hm hl hb hn) ?_
  rintro e w' ⟨rfl, ew⟩
  rw [ew]
  refine ⟨_, rfl, wpR_done ?_⟩
  rw [wpC_block, wpC_seq, wpC_blk]
  refine go1 (v := .bool (decide (lenU n = 5))) rfl (by simp; by_cases e : lenU n = 5 <;> simp [e]; omega) ?_
  refine go1 (v := .bool (decide (lenU n = 5))) rfl (by simp) (wpR_done ?_)
  by_cases k5 : lenU n = 5
  · rw [wpC_cond_t (by simp [k5]), wpC_seq, wpC_blk]
    have hr : 268435456 ≤ n := by unfold lenU at k5; repeat' split at k5
                                  all_goals omega
    rw [uvE_5 hr (by omega)] at hlen ⊢
    refine go1 (v := dv) rfl (by simp) ?_
    refine grpF (n := n) (by simp) hn (by omega) fun σ1 a1 b1 => ?_
    refine grpS (n := n) (k := 7) (by rw [a1 1 (by omega)]; simp) hn (by omega) (by omega) fun σ2 a2 b2 => ?_
    refine grpS (n := n) (k := 14) (by rw [a2 1 (by omega), a1 1 (by omega)]; simp) hn (by omega) (by omega) fun σ3 a3 b3 => ?_
    refine grpS (n := n) (k := 21) (by rw [a3 1 (by omega), a2 1 (by omega), a1 1 (by omega)]; simp) hn (by omega) (by omega) fun σ4 a4 b4 => ?_
    refine grpL (n := n) (k := 28) (by rw [a4 1 (by omega), a3 1 (by omega), a2 1 (by omega), a1 1 (by omega)]; simp) (by omega) (by omega) (by omega) fun σ5 a5 b5 => ?_
    refine appN (v := dv) (bs := [UInt8.ofNat (n % 128 + 128), UInt8.ofNat (n / 2 ^ 7 % 128 + 128), UInt8.ofNat (n / 2 ^ 14 % 128 + 128), UInt8.ofNat (n / 2 ^ 21 % 128 + 128), UInt8.ofNat (n / 2 ^ 28)]) (by rw [a5 9 (by omega), a4 9 (by omega), a3 9 (by omega), a2 9 (by omega), a1 9 (by omega)]; simp) (by omega) hd hn0 (by
      have c1 : σ5 13 = .int .u8 ((UInt8.ofNat (n % 128 + 128)).toNat : Int) := by rw [a5 13 (by omega), a4 13 (by omega), a3 13 (by omega), a2 13 (by omega)]; exact b1
      have c2 : σ5 18 = .int .u8 ((UInt8.ofNat (n / 2 ^ 7 % 128 + 128)).toNat : Int) := by rw [a5 18 (by omega), a4 18 (by omega), a3 18 (by omega)]; exact b2
      have c3 : σ5 23 = .int .u8 ((UInt8.ofNat (n / 2 ^ 14 % 128 + 128)).toNat : Int) := by rw [a5 23 (by omega), a4 23 (by omega)]; exact b3
      have c4 : σ5 28 = .int .u8 ((UInt8.ofNat (n / 2 ^ 21 % 128 + 128)).toNat : Int) := by rw [a5 28 (by omega)]; exact b4
      have c5 : σ5 31 = .int .u8 ((UInt8.ofNat (n / 2 ^ 28)).toNat : Int) := b5
      simp only [List.map_cons, List.map_nil, ev, c1, c2, c3, c4, c5]; rfl) rfl (by simpa using hlen) fun u w2 v' ha => ?_
    refine go1 (v := v') rfl (by simp) (wpR_done ?_)
    repeat first | refine retThen ?_ | refine retBlk ?_
    exact ret1 (v := v') (by simp) ⟨v', rfl, ha⟩
  · rw [wpC_cond_f (by simp [k5]), wpC_seq, wpC_blk]
    refine go1 (v := .bool (decide (lenU n = 4))) rfl (by simp; by_cases e : lenU n = 4 <;> simp [e]; omega) ?_
    refine go1 (v := .bool (decide (lenU n = 4))) rfl (by simp) (wpR_done ?_)
    by_cases k4 : lenU n = 4
    · rw [wpC_cond_t (by simp [k4]), wpC_seq, wpC_blk]
      have hr : 2097152 ≤ n ∧ n < 268435456 := by unfold lenU at k4; repeat' split at k4
                                                  all_goals omega
      rw [uvE_4 hr.1 hr.2] at hlen ⊢
      refine go1 (v := dv) rfl (by simp) ?_
      refine grpF (n := n) (by simp) hn (by omega) fun σ1 a1 b1 => ?_
      refine grpS (n := n) (k := 7) (by rw [a1 1 (by omega)]; simp) hn (by omega) (by omega) fun σ2 a2 b2 => ?_
      refine grpS (n := n) (k := 14) (by rw [a2 1 (by omega), a1 1 (by omega)]; simp) hn (by omega) (by omega) fun σ3 a3 b3 => ?_
      refine grpL (n := n) (k := 21) (by rw [a3 1 (by omega), a2 1 (by omega), a1 1 (by omega)]; simp) (by omega) (by omega) (by omega) fun σ5 a5 b5 => ?_
      refine appN (v := dv) (bs := [UInt8.ofNat (n % 128 + 128), UInt8.ofNat (n / 2 ^ 7 % 128 + 128), UInt8.ofNat (n / 2 ^ 14 % 128 + 128), UInt8.ofNat (n / 2 ^ 21)]) (by rw [a5 36 (by omega), a3 36 (by omega), a2 36 (by omega), a1 36 (by omega)]; simp) (by omega) hd hn0 (by
        have c1 : σ5 40 = .int .u8 ((UInt8.ofNat (n % 128 + 128)).toNat : Int) := by rw [a5 40 (by omega), a3 40 (by omega), a2 40 (by omega)]; exact b1
        have c2 : σ5 45 = .int .u8 ((UInt8.ofNat (n / 2 ^ 7 % 128 + 128)).toNat : Int) := by rw [a5 45 (by omega), a3 45 (by omega)]; exact b2
        have c3 : σ5 50 = .int .u8 ((UInt8.ofNat (n / 2 ^ 14 % 128 + 128)).toNat : Int) := by rw [a5 50 (by omega)]; exact b3
        have c5 : σ5 53 = .int .u8 ((UInt8.ofNat (n / 2 ^ 21)).toNat : Int) := b5
        simp only [List.map_cons, List.map_nil, ev, c1, c2, c3, c5]; rfl) rfl (by simpa using hlen) fun u w2 v' ha => ?_
      refine go1 (v := v') rfl (by simp) (wpR_done ?_)
      repeat first | refine retThen ?_ | refine retBlk ?_
      exact ret1 (v := v') (by simp) ⟨v', rfl, ha⟩
    · rw [wpC_cond_f (by simp [k4]), wpC_seq, wpC_blk]
      refine go1 (v := .bool (decide (lenU n = 3))) rfl (by simp; by_cases e : lenU n = 3 <;> simp [e]; omega) ?_
      refine go1 (v := .bool (decide (lenU n = 3))) rfl (by simp) (wpR_done ?_)
      by_cases k3 : lenU n = 3
      · rw [wpC_cond_t (by simp [k3]), wpC_seq, wpC_blk]
        have hr : 16384 ≤ n ∧ n < 2097152 := by unfold lenU at k3; repeat' split at k3
                                                all_goals omega
        rw [uvE_3 hr.1 hr.2] at hlen ⊢
        refine go1 (v := dv) rfl (by simp) ?_
        refine grpF (n := n) (by simp) hn (by omega) fun σ1 a1 b1 => ?_
        refine grpS (n := n) (k := 7) (by rw [a1 1 (by omega)]; simp) hn (by omega) (by omega) fun σ2 a2 b2 => ?_
        refine grpL (n := n) (k := 14) (by rw [a2 1 (by omega), a1 1 (by omega)]; simp) (by omega) (by omega) (by omega) fun σ5 a5 b5 => ?_
        refine appN (v := dv) (bs := [UInt8.ofNat (n % 128 + 128), UInt8.ofNat (n / 2 ^ 7 % 128 + 128), UInt8.ofNat (n / 2 ^ 14)]) (by rw [a5 58 (by omega), a2 58 (by omega), a1 58 (by omega)]; simp) (by omega) hd hn0 (by
          have c1 : σ5 62 = .int .u8 ((UInt8.ofNat (n % 128 + 128)).toNat : Int) := by rw [a5 62 (by omega), a2 62 (by omega)]; exact b1
          have c2 : σ5 67 = .int .u8 ((UInt8.ofNat (n / 2 ^ 7 % 128 + 128)).toNat : Int) := by rw [a5 67 (by omega)]; exact b2
          have c5 : σ5 70 = .int .u8 ((UInt8.ofNat (n / 2 ^ 14)).toNat : Int) := b5
          simp only [List.map_cons, List.map_nil, ev, c1, c2, c5]; rfl) rfl (by simpa using hlen) fun u w2 v' ha => ?_
        refine go1 (v := v') rfl (by simp) (wpR_done ?_)
        repeat first | refine retThen ?_ | refine retBlk ?_
        exact ret1 (v := v') (by simp) ⟨v', rfl, ha⟩
      · rw [wpC_cond_f (by simp [k3]), wpC_seq, wpC_blk]
        refine go1 (v := .bool (decide (lenU n = 2))) rfl (by simp; by_cases e : lenU n = 2 <;> simp [e]; omega) ?_
        refine go1 (v := .bool (decide (lenU n = 2))) rfl (by simp) (wpR_done ?_)
        by_cases k2 : lenU n = 2
        · rw [wpC_cond_t (by simp [k2]), wpC_seq, wpC_blk]
          have hr : 128 ≤ n ∧ n < 16384 := by unfold lenU at k2; repeat' split at k2
                                              all_goals omega
          rw [uvE_2 hr.1 hr.2] at hlen ⊢
          refine go1 (v := dv) rfl (by simp) ?_
          refine grpF (n := n) (by simp) hn (by omega) fun σ1 a1 b1 => ?_
          refine grpL (n := n) (k := 7) (by rw [a1 1 (by omega)]; simp) (by omega) (by omega) (by omega) fun σ5 a5 b5 => ?_
          refine appN (v := dv) (bs := [UInt8.ofNat (n % 128 + 128), UInt8.ofNat (n / 2 ^ 7)]) (by rw [a5 75 (by omega), a1 75 (by omega)]; simp) (by omega) hd hn0 (by
            have c1 : σ5 79 = .int .u8 ((UInt8.ofNat (n % 128 + 128)).toNat : Int) := by rw [a5 79 (by omega)]; exact b1
            have c5 : σ5 82 = .int .u8 ((UInt8.ofNat (n / 2 ^ 7)).toNat : Int) := b5
            simp only [List.map_cons, List.map_nil, ev, c1, c5]; rfl) rfl (by simpa using hlen) fun u w2 v' ha => ?_
          refine go1 (v := v') rfl (by simp) (wpR_done ?_)
          repeat first | refine retThen ?_ | refine retBlk ?_
          exact ret1 (v := v') (by simp) ⟨v', rfl, ha⟩
        · have k1 : lenU n = 1 := by unfold lenU at k5 k4 k3 k2 ⊢; repeat' split at *
                                     all_goals omega
          have hr : n < 128 := by unfold lenU at k1; repeat' split at k1
                                  all_goals omega
          rw [wpC_cond_f (by simp [k2]), wpC_seq, wpC_blk]
          refine go1 (v := .bool true) rfl (by simp [k1]) ?_
          refine go1 (v := .bool true) rfl (by simp) (wpR_done ?_)
          rw [wpC_cond_t (by simp), wpC_seq, wpC_blk]
          rw [uvE_small hr] at hlen ⊢
          refine go1 (v := dv) rfl (by simp) ?_
          refine go1 (v := .int .u32 (n : Nat)) rfl (by simp) ?_
          refine go1 (v := .int .u8 ((UInt8.ofNat n).toNat : Int)) rfl (by
            simp only [RK.val?, ev, updo, upd, if_true]
            rw [u8_conv (by omega)]) ?_
          refine appN (v := dv) (bs := [UInt8.ofNat n]) (by simp) (by omega) hd hn0 (by simp only [List.map_cons, List.map_nil, ev, updo, upd, if_true]; rfl) rfl (by simpa using hlen) fun u w2 v' ha => ?_
          refine go1 (v := v') rfl (by simp) (wpR_done ?_)
          repeat first | refine retThen ?_ | refine retBlk ?_
          exact ret1 (v := v') (by simp) ⟨v', rfl, ha⟩
end
end Go.Msk

namespace Go.Msk
open Go.RowKit
set_option maxRecDepth 100000
def ir_sHas (_F : Nat → Nat) : IC × List RV × Nat := (.seq (.blk [⟨some 2, .box (.tmp 0), none⟩,
 ⟨some 4, .mv (.const (.bool false)), none⟩])
 (.seq (.blk [⟨some 5, .fad (.tmp 2) 1, none⟩,
 ⟨some 6, .ld (.tmp 5), none⟩,
 ⟨some 7, .mv (.tmp 1), none⟩,
 ⟨some 8, .bin .leq (.tmp 6) (.tmp 7), none⟩,
 ⟨some 9, .mv (.tmp 8), none⟩,
 ⟨some 10, .fad (.tmp 2) 2, some (9, true)⟩,
 ⟨some 11, .ld (.tmp 10), some (9, true)⟩,
 ⟨some 12, .bin .lss (.tmp 11) (.const (.int .i64 0)), some (9, true)⟩,
 ⟨some 13, .mv (.tmp 12), some (9, true)⟩,
 ⟨some 14, .mv (.tmp 1), some (13, false)⟩,
 ⟨some 15, .fad (.tmp 2) 2, some (13, false)⟩,
 ⟨some 16, .ld (.tmp 15), some (13, false)⟩,
 ⟨some 17, .bin .leq (.tmp 14) (.tmp 16), some (13, false)⟩,
 ⟨some 18, .pick (.tmp 13) (.const (.bool true)) (.tmp 17), some (9, true)⟩,
 ⟨some 19, .pick (.tmp 9) (.tmp 18) (.const (.bool false)), none⟩,
 ⟨some 4, .mv (.tmp 19), none⟩])
 (.ret)),
 [.tmp 4], 20)
def ir_sNull (_F : Nat → Nat) : IC × List RV × Nat := (.seq (.blk [⟨some 3, .box (.tmp 0), none⟩,
 ⟨some 5, .box (.tmp 2), none⟩,
 ⟨some 6, .mv (.const (.bool false)), none⟩])
 (.seq (.blk [⟨some 7, .fad (.tmp 5) 2, none⟩,
 ⟨some 8, .ld (.tmp 7), none⟩,
 ⟨some 9, .mv (.tmp 8), none⟩,
 ⟨some 10, .fad (.tmp 3) 3, some (9, true)⟩,
 ⟨some 11, .ld (.tmp 10), some (9, true)⟩,
 ⟨some 12, .bin .geq (.tmp 11) (.const (.int .i64 0)), some (9, true)⟩,
 ⟨some 13, .pick (.tmp 9) (.tmp 12) (.const (.bool false)), none⟩,
 ⟨some 14, .mv (.tmp 13), none⟩,
 ⟨some 15, .mv (.tmp 1), some (14, true)⟩,
 ⟨some 16, .fad (.tmp 3) 3, some (14, true)⟩,
 ⟨some 17, .ld (.tmp 16), some (14, true)⟩,
 ⟨some 18, .bin .geq (.tmp 15) (.tmp 17), some (14, true)⟩,
 ⟨some 19, .pick (.tmp 14) (.tmp 18) (.const (.bool false)), none⟩,
 ⟨some 6, .mv (.tmp 19), none⟩])
 (.ret)),
 [.tmp 6], 20)
def ir_sWhole (_F : Nat → Nat) : IC × List RV × Nat := (.seq (.blk [⟨some 2, .mv (.const (.slice none 0 0)), none⟩])
 (.seq (.blk [⟨some 3, .mv (.tmp 0), none⟩,
 ⟨some 4, .mv (.tmp 0), none⟩,
 ⟨some 5, .len (.tmp 4), none⟩,
 ⟨some 6, .mm false (.tmp 5) (.const (.int .i64 32767)), none⟩,
 ⟨some 7, .slice (.tmp 3) none (some (.tmp 6)) none 1, none⟩,
 ⟨some 2, .mv (.tmp 7), none⟩])
 (.ret)),
 [.tmp 2], 8)
def ir_sThings (_F : Nat → Nat) : IC × List RV × Nat := (.seq (.blk [⟨some 2, .mv (.const (.slice none 0 0)), none⟩])
 (.seq (.blk [⟨some 3, .mv (.tmp 0), none⟩,
 ⟨some 4, .mv (.tmp 0), none⟩,
 ⟨some 5, .len (.tmp 4), none⟩,
 ⟨some 6, .mm false (.tmp 5) (.const (.int .i64 32767)), none⟩,
 ⟨some 7, .slice (.tmp 3) none (some (.tmp 6)) none 5, none⟩,
 ⟨some 2, .mv (.tmp 7), none⟩])
 (.ret)),
 [.tmp 2], 8)
def ir_sAt (_F : Nat → Nat) : IC × List RV × Nat := (.seq (.blk [⟨some 2, .box (.tmp 0), none⟩,
 ⟨some 4, .alloc [.int .i64 0, .slice none 0 0, .bool false, .slice none 0 0, .slice none 0 0], none⟩])
 (.seq (.seq (.blk [⟨some 5, .mv (.tmp 1), none⟩,
 ⟨some 6, .fad (.tmp 2) 3, none⟩,
 ⟨some 7, .ld (.tmp 6), none⟩,
 ⟨some 8, .len (.tmp 7), none⟩,
 ⟨some 9, .bin .lss (.tmp 5) (.tmp 8), none⟩])
 (.cond (.tmp 9)
 (.seq (.blk [⟨some 10, .fad (.tmp 2) 3, none⟩,
 ⟨some 11, .ld (.tmp 10), none⟩,
 ⟨some 12, .mv (.tmp 1), none⟩,
 ⟨some 13, .iad (.tmp 11) (.tmp 12) 5, none⟩,
 ⟨some 14, .ldn (.tmp 13) 5, none⟩,
 ⟨none, .st (.tmp 4) 5 (.tmp 14), none⟩])
 (.ret))
 (.skip)))
 (.seq (.blk [⟨some 15, .build [.int .i64 0, .slice none 0 0, .bool false, .slice none 0 0, .slice none 0 0] [], none⟩,
 ⟨none, .st (.tmp 4) 5 (.tmp 15), none⟩])
 (.ret))),
 [.cells 4 5], 16)
def ir_sUvarint (_F : Nat → Nat) : IC × List RV × Nat := (.seq (.blk [⟨some 2, .mv (.const (.slice none 0 0)), none⟩])
 (.seq (.blk [⟨some 3, .mv (.const (.slice none 0 0)), none⟩])
 (.seq (.block 0 (.loop (.seq (.seq (.blk [⟨some 4, .mv (.tmp 0), none⟩,
 ⟨some 5, .bin .gtr (.tmp 4) (.const (.int .u64 127)), none⟩])
 (.cond (.tmp 5)
 (.skip)
 (.exit 0)))
 (.block 1 (.seq (.blk [⟨some 6, .mv (.tmp 3), none⟩,
 ⟨some 7, .mv (.tmp 0), none⟩,
 ⟨some 8, .bin .and (.tmp 7) (.const (.int .u64 127)), none⟩,
 ⟨some 9, .conv .u8 (.tmp 8), none⟩,
 ⟨some 10, .bin .or (.tmp 9) (.const (.int .u8 128)), none⟩,
 ⟨some 11, .bslice 1 [.int .u8 0] [(0, 1, .tmp 10)], none⟩,
 ⟨some 12, .append (.tmp 6) (.tmp 11) 1 1, none⟩,
 ⟨some 3, .mv (.tmp 12), none⟩])
 (.blk [⟨some 13, .mv (.tmp 0), none⟩,
 ⟨some 14, .bin .shr (.tmp 13) (.const (.int .u64 7)), none⟩,
 ⟨some 0, .mv (.tmp 14), none⟩]))))))
 (.seq (.blk [⟨some 15, .mv (.tmp 3), none⟩,
 ⟨some 16, .mv (.tmp 0), none⟩,
 ⟨some 17, .conv .u8 (.tmp 16), none⟩,
 ⟨some 18, .bslice 1 [.int .u8 0] [(0, 1, .tmp 17)], none⟩,
 ⟨some 19, .append (.tmp 15) (.tmp 18) 1 1, none⟩,
 ⟨some 2, .mv (.tmp 19), none⟩])
 (.ret)))),
 [.tmp 2], 20)
def ir_sFixed (_F : Nat → Nat) : IC × List RV × Nat := (.seq (.blk [⟨some 4, .mv (.const (.slice none 0 0)), none⟩])
 (.seq (.blk [⟨some 5, .mv (.const (.slice none 0 0)), none⟩])
 (.seq (.seq (.blk [⟨some 7, .mv (.tmp 1), none⟩,
 ⟨some 8, .bin .sub (.tmp 7) (.const (.int .i64 1)), none⟩,
 ⟨some 6, .mv (.tmp 8), none⟩])
 (.block 0 (.loop (.seq (.seq (.blk [⟨some 9, .mv (.tmp 6), none⟩,
 ⟨some 10, .bin .geq (.tmp 9) (.const (.int .i64 0)), none⟩])
 (.cond (.tmp 10)
 (.skip)
 (.exit 0)))
 (.seq (.block 1 (.blk [⟨some 13, .mv (.tmp 5), none⟩,
 ⟨some 14, .mv (.tmp 0), none⟩,
 ⟨some 15, .mv (.tmp 6), none⟩,
 ⟨some 16, .bin .mul (.const (.int .i64 8)) (.tmp 15), none⟩,
 ⟨some 17, .bin .shr (.tmp 14) (.tmp 16), none⟩,
 ⟨some 18, .conv .u8 (.tmp 17), none⟩,
 ⟨some 19, .bslice 1 [.int .u8 0] [(0, 1, .tmp 18)], none⟩,
 ⟨some 20, .append (.tmp 13) (.tmp 19) 1 1, none⟩,
 ⟨some 5, .mv (.tmp 20), none⟩]))
 (.blk [⟨some 11, .mv (.tmp 6), none⟩,
 ⟨some 12, .bin .sub (.tmp 11) (.const (.int .i64 1)), none⟩,
 ⟨some 6, .mv (.tmp 12), none⟩]))))))
 (.seq (.blk [⟨some 21, .mv (.tmp 5), none⟩,
 ⟨some 4, .mv (.tmp 21), none⟩])
 (.ret)))),
 [.tmp 4], 22)
def ir_sWidth (_F : Nat → Nat) : IC × List RV × Nat := (.seq (.blk [⟨some 2, .mv (.const (.int .i64 0)), none⟩])
 (.seq (.seq (.blk [⟨some 3, .mv (.tmp 0), none⟩])
 (.block 0 (.seq (.blk [⟨some 5, .bin .eql (.tmp 3) (.const (.int .i64 1)), none⟩,
 ⟨some 4, .mv (.tmp 5), none⟩])
 (.cond (.tmp 4)
 (.seq (.blk [⟨some 2, .mv (.const (.int .i64 1)), none⟩])
 (.ret))
 (.seq (.seq (.blk [⟨some 7, .bin .eql (.tmp 3) (.const (.int .i64 2)), none⟩,
 ⟨some 6, .mv (.tmp 7), none⟩])
 (.cond (.tmp 6)
 (.skip)
 (.blk [⟨some 8, .bin .eql (.tmp 3) (.const (.int .i64 5)), none⟩,
 ⟨some 6, .mv (.tmp 8), none⟩])))
 (.cond (.tmp 6)
 (.seq (.blk [⟨some 2, .mv (.const (.int .i64 2)), none⟩])
 (.ret))
 (.seq (.blk [⟨some 10, .bin .eql (.tmp 3) (.const (.int .i64 3)), none⟩,
 ⟨some 9, .mv (.tmp 10), none⟩])
 (.cond (.tmp 9)
 (.seq (.blk [⟨some 2, .mv (.const (.int .i64 4)), none⟩])
 (.ret))
 (.skip)))))))))
 (.seq (.blk [⟨some 2, .mv (.const (.int .i64 8)), none⟩])
 (.ret))),
 [.tmp 2], 11)
def ir_sCounted (F : Nat → Nat) : IC × List RV × Nat := (.seq (.blk [⟨some 8, .mv (.const (.slice none 0 0)), none⟩])
 (.seq (.block 0 (.seq (.blk [⟨some 10, .mv (.tmp 0), none⟩,
 ⟨some 11, .mv (.tmp 10), none⟩,
 ⟨some 12, .mv (.tmp 1), some (11, true)⟩,
 ⟨some 13, .pick (.tmp 11) (.tmp 12) (.const (.bool false)), none⟩,
 ⟨some 9, .mv (.tmp 13), none⟩])
 (.cond (.tmp 9)
 (.seq (.blk [⟨some 14, .bslice 1 [.int .u8 0] [(0, 1, .const (.int .u8 0))], none⟩,
 ⟨some 8, .mv (.tmp 14), none⟩])
 (.ret))
 (.seq (.blk [⟨some 16, .mv (.tmp 0), none⟩,
 ⟨some 15, .mv (.tmp 16), none⟩])
 (.cond (.tmp 15)
 (.seq (.blk [⟨some 17, .mv (.tmp 2), none⟩,
 ⟨some 18, .conv .u64 (.tmp 17), none⟩,
 ⟨some 19, .bin .add (.tmp 18) (.const (.int .u64 1)), none⟩,
 ⟨some 20, .call (F sUvarint) [.tmp 19], none⟩,
 ⟨some 8, .mv (.tmp 20), none⟩])
 (.ret))
 (.seq (.blk [⟨some 22, .mv (.tmp 1), none⟩,
 ⟨some 21, .mv (.tmp 22), none⟩])
 (.cond (.tmp 21)
 (.seq (.blk [⟨some 23, .mv (.tmp 3), none⟩,
 ⟨some 24, .call (F sFixed) [.const (.int .i64 (-1)), .tmp 23], none⟩,
 ⟨some 8, .mv (.tmp 24), none⟩])
 (.ret))
 (.skip))))))))
 (.seq (.blk [⟨some 25, .mv (.tmp 2), none⟩,
 ⟨some 26, .mv (.tmp 3), none⟩,
 ⟨some 27, .call (F sFixed) [.tmp 25, .tmp 26], none⟩,
 ⟨some 8, .mv (.tmp 27), none⟩])
 (.ret))),
 [.tmp 8], 28)
end Go.Msk
