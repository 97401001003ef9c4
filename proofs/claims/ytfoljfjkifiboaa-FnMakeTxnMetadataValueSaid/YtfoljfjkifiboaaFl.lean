/- A small language of resolved operations, and what the generic and the generated functions do in it (part 12). -/
import Derived.Test.YtfoljfjkifiboaaFk

namespace Go.Msk
open Go.RowKit
set_option maxRecDepth 100000
inductive FX where
  | mk (ps : List (Nat × Int)) (f : Option FuncId) (subs : List FX)
  deriving Inhabited
def applyPs (a : Nat → Int) : List (Nat × Int) → Nat → Int
  | [] => a
  | (o, n) :: r => applyPs (fun j => if j = o then n else a j) r
def cells8 (a : Nat → Int) (sv : Value) : List Value := [.int .i64 (a 0), .int .i64 (a 1), .int .i64 (a 2), .int .i64 (a 3), .int .i64 (a 4), .int .i64 (a 5), .int .i64 (a 6), sv]
mutual
def FX.fd : FX → FD
  | .mk ps _ subs => .mk (applyPs (fun _ => 0) ps 0) (applyPs (fun _ => 0) ps 1) (applyPs (fun _ => 0) ps 2) (applyPs (fun _ => 0) ps 3) (applyPs (fun _ => 0) ps 4) (applyPs (fun _ => 0) ps 5) (applyPs (fun _ => 0) ps 6) (FX.fds subs)
def FX.fds : List FX → List FD
  | [] => []
  | x :: l => x.fd :: FX.fds l
end
theorem FX.fds_length : ∀ l : List FX, (FX.fds l).length = l.length
  | [] => rfl
  | x :: l => by simp [FX.fds, FX.fds_length l]
def FX.cnt : FX → Nat
  | .mk _ none _ => 1
  | .mk _ (some _) _ => 2
def FX.slot (t : Nat) (x : FX) : Nat := t + x.cnt - 1
def FX.ops (t : Nat) : FX → List RI
  | .mk ps none _ => [⟨some t, .build fzero (ps.map fun p => (p.1, 1, .const (.int .i64 p.2))), none⟩]
  | .mk ps (some f) _ => [⟨some t, .call f [], none⟩, ⟨some (t + 1), .build fzero (ps.map (fun p => (p.1, 1, Operand.const (.int .i64 p.2))) ++ [(7, 1, .tmp t)]), none⟩]
def FX.gen (t : Nat) : List FX → List RI
  | [] => []
  | x :: l => x.ops t ++ FX.gen (t + x.cnt) l
def FX.cnts : List FX → Nat
  | [] => 0
  | x :: l => x.cnt + FX.cnts l
def FX.prts (o t : Nat) : List FX → List (Nat × Nat × Operand)
  | [] => []
  | x :: l => (o, 8, .tmp (x.slot t)) :: FX.prts (o + 8) (t + x.cnt) l
def FX.genSub (l : List FX) : IC × List RV × Nat :=
  (.seq (.blk [⟨some 0, .mv (.const (.slice none 0 0)), none⟩])
    (.seq (.blk (FX.gen 1 l ++ [⟨some (1 + FX.cnts l), .bslice l.length fzero (FX.prts 0 1 l), none⟩, ⟨some 0, .mv (.tmp (1 + FX.cnts l)), none⟩])) .ret), [.tmp 0], 2 + FX.cnts l)
def FX.genMsg (l : List FX) (flex : Int) : IC × List RV × Nat :=
  (.seq (.blk [⟨some 0, .alloc [.slice none 0 0, .int .i64 0], none⟩])
    (.seq (.blk (FX.gen 1 l ++ [⟨some (1 + FX.cnts l), .bslice l.length fzero (FX.prts 0 1 l), none⟩,
      ⟨some (2 + FX.cnts l), .build [.slice none 0 0, .int .i64 0] [(1, 1, .const (.int .i64 flex)), (0, 1, .tmp (1 + FX.cnts l))], none⟩, ⟨none, .st (.tmp 0) 2 (.tmp (2 + FX.cnts l)), none⟩])) .ret), [.cells 0 2], 3 + FX.cnts l)
mutual
/-- What is asked of the functions called, and of the places. -/
def FX.Ok (P : Program) : FX → Prop
  | .mk ps f subs => (ps.all fun p => Nat.blt p.1 7) = true ∧ (match f with | some f => liftF P f = some (FX.genSub subs) | none => subs = []) ∧ FX.OkL P subs
def FX.OkL (P : Program) : List FX → Prop
  | [] => True
  | x :: l => x.Ok P ∧ FX.OkL P l
end
theorem fill_ps (sv : Value) (σ : Sl) : ∀ (ps : List (Nat × Int)) (a : Nat → Int) (q : List (Nat × Nat × Value)), (ps.all fun p => Nat.blt p.1 7) = true →
    fillL (cells8 a sv) ((ps.map fun p => ((p.1, 1, Operand.const (.int .i64 p.2)) : Nat × Nat × Operand)).map (fun p => (p.1, p.2.1, ev σ p.2.2)) ++ q) = fillL (cells8 (applyPs a ps) sv) q
  | [], a, q, _ => rfl
  | (o, n) :: ps, a, q, h => by
    simp only [List.all_cons, Bool.and_eq_true] at h
    have ho : o < 7 := Nat.lt_of_succ_le (Nat.le_of_ble_eq_true h.1)
    simp only [List.map_cons, List.cons_append, fillL, ev, applyPs]
    rw [if_pos ⟨rfl, by simp [cells8]; omega⟩]
    have e : splice (cells8 a sv) o (Value.int .i64 n).cells.toList = cells8 (fun j => if j = o then n else a j) sv := by
      rcases (by omega : o = 0 ∨ o = 1 ∨ o = 2 ∨ o = 3 ∨ o = 4 ∨ o = 5 ∨ o = 6) with rfl | rfl | rfl | rfl | rfl | rfl | rfl <;> simp [splice, cells8, Value.cells]
    rw [e]
    exact fill_ps sv σ ps _ q h.2
theorem fill_parts : ∀ (css : List (List Value)) (pre : List Value), (∀ c ∈ css, c.length = 8) →
    fillL (pre ++ zrep css.length fzero) ((css.zipIdx 0).map fun p => (pre.length + p.2 * 8, 8, Value.agg p.1.toArray)) = some (pre ++ css.flatten) := by
  intro css
  have gen : ∀ (css : List (List Value)) (pre : List Value) (k : Nat) (o : Nat), (∀ c ∈ css, c.length = 8) → o + k * 8 = pre.length →
      fillL (pre ++ zrep css.length fzero) ((css.zipIdx k).map fun p => (o + p.2 * 8, 8, Value.agg p.1.toArray)) = some (pre ++ css.flatten) := by
    intro css
    induction css with
    | nil => intro pre k o _ _; simp [fillL, zrep]
    | cons c css ih =>
      intro pre k o h ho
      have hc := h c List.mem_cons_self
      simp only [List.zipIdx_cons, List.map_cons, fillL, List.length_cons]
      have ez : zrep (css.length + 1) fzero = fzero ++ zrep css.length fzero := by simp [zrep, List.replicate_succ]
      rw [ez, if_pos ⟨by simpa [Value.cells] using hc, by simp [fzero]; omega⟩]
      have : splice (pre ++ (fzero ++ zrep css.length fzero)) (o + k * 8) (Value.agg c.toArray).cells.toList = (pre ++ c) ++ zrep css.length fzero := by
        have e := splice_mid (pre := pre) (old := fzero) (post := zrep css.length fzero) (vs := c) ho.symm (by rw [hc]; rfl)
        simpa [Value.cells] using e
      rw [this, ih (pre ++ c) (k + 1) o (fun x hx => h x (List.mem_cons_of_mem _ hx)) (by simp; omega)]
      simp
  intro pre h
  exact gen css pre 0 pre.length h (by simp)
abbrev fromB (N : Nat) : Nat → Prop := fun b => N ≤ b
theorem SlC.fresh {N M : Nat} {w : World} {v : Value} {n : Nat} {cs : List Value} (h : SlC (fromB M) w v n cs) (hN : N ≤ M) : SlC (fromB N) w v n cs := h.mod (Mod.refl [] w) (by simp) fun _ _ h => Nat.le_trans hN h
theorem RepFL.fresh {N M : Nat} {w : World} {l : List FD} {cs : List (List Value)} (h : RepFL (fromB M) w l cs) (hN : N ≤ M) : RepFL (fromB N) w l cs := h.mod (Mod.refl [] w) (by simp) fun _ _ h => Nat.le_trans hN h
theorem SlC.hold {ok : Nat → Prop} {w w' : World} {v : Value} {n : Nat} {cs : List Value} (h : SlC ok w v n cs) (hm : Mod [] w w') : SlC ok w' v n cs := h.mod hm (by simp) fun _ _ h => h
theorem RepFL.hold {ok : Nat → Prop} {w w' : World} {l : List FD} {cs : List (List Value)} (h : RepFL ok w l cs) (hm : Mod [] w w') : RepFL ok w' l cs := h.mod hm (by simp) fun _ _ h => h
section
variable {P : Program}
attribute [local simp] gOk updo upd ev RK.val? isShift intBin Addr.add_mk args0 Value.cells undef
def SlotsR (N : Nat) (w : World) (σ : Sl) : List FX → Nat → List (List Value) → Prop
  | [], _, css => css = []
  | x :: l, t, css => ∃ cs r, css = cs :: r ∧ σ (x.slot t) = .agg cs.toArray ∧ RepF (fromB N) w x.fd cs ∧ SlotsR N w σ l (t + x.cnt) r
theorem SlotsR.rep {N : Nat} {w : World} {σ : Sl} : ∀ {l : List FX} {t : Nat} {css : List (List Value)}, SlotsR N w σ l t css → RepFL (fromB N) w (FX.fds l) css
  | [], _, _, h => by subst h; simp [FX.fds]; exact .nil
  | x :: l, t, _, ⟨cs, r, e1, e2, e3, e4⟩ => by subst e1; simp only [FX.fds]; exact .cons e3 e4.rep
theorem SlotsR.prts {N : Nat} {w : World} {σ : Sl} : ∀ {l : List FX} {t o k : Nat} {css : List (List Value)}, SlotsR N w σ l t css →
    (FX.prts (o + k * 8) t l).map (fun p => (p.1, p.2.1, ev σ p.2.2)) = (css.zipIdx k).map fun p => (o + p.2 * 8, 8, Value.agg p.1.toArray)
  | [], _, _, _, _, h => by subst h; rfl
  | x :: l, t, o, k, _, ⟨cs, r, e1, e2, e3, e4⟩ => by
    subst e1
    simp only [FX.prts, List.map_cons, List.zipIdx_cons, ev, e2]
    congr 1
    have := e4.prts (o := o) (k := k + 1)
    rw [show o + k * 8 + 8 = o + (k + 1) * 8 by omega]
    exact this
def SubC (P : Program) (f : FuncId) (l : List FX) : Prop :=
  ∀ w : World, Calls P f #[] w fun e w' => ∃ v css, e = .returned v ∧ SlC (fromB w.heap.size) w' v (FX.fds l).length css.flatten ∧ RepFL (fromB w.heap.size) w' (FX.fds l) css ∧ Mod [] w w'
def FX.SubsC (P : Program) : List FX → Prop
  | [] => True
  | .mk ps f subs :: l => (ps.all fun p => Nat.blt p.1 7) = true ∧ (match f with | some f => SubC P f subs | none => subs = []) ∧ FX.SubsC P l
theorem FX.gen_wp (N : Nat) : ∀ (l : List FX) (t : Nat) (σ : Sl) (w : World) (rest : List RI) (Q : Sl → World → Prop), FX.SubsC P l → 1 ≤ t → N ≤ w.heap.size →
    (∀ σ' w' css, (∀ s, s < t → σ' s = σ s) → Mod [] w w' → SlotsR N w' σ' l t css → wpR P rest σ' w' Q) → wpR P (FX.gen t l ++ rest) σ w Q
  | [], t, σ, w, rest, Q, _, _, _, hQ => hQ σ w [] (fun _ _ => rfl) (Mod.refl _ _) rfl
  | .mk ps f subs :: l, t, σ, w, rest, Q, hs, ht, hN, hQ => by
    obtain ⟨hps, hf, hl⟩ := hs
    simp only [FX.gen, List.append_assoc]
    cases f with
    | none =>
      simp only at hf
      subst hf
      simp only [FX.ops, List.cons_append, List.nil_append, FX.cnt]
      have hfill := fill_ps (.slice none 0 0) σ ps (fun _ => 0) [] hps
      simp only [List.append_nil] at hfill
      refine go1 (v := .agg (cells8 (applyPs (fun _ => 0) ps) (.slice none 0 0)).toArray) rfl (by
        simp only [RK.val?]
        rw [show fzero = cells8 (fun _ => 0) (.slice none 0 0) from rfl, hfill]; rfl) ?_
      refine FX.gen_wp N l (t + 1) _ w rest Q hl (by omega) hN fun σ' w' css hfr hm hsl => ?_
      refine hQ σ' w' (cells8 (applyPs (fun _ => 0) ps) (.slice none 0 0) :: css) (fun s h => by rw [hfr s (by omega)]; simp only [updo]; exact upd_ne _ _ (by omega)) hm ⟨_, _, rfl, ?_, ?_, hsl⟩
      · simp only [FX.slot, FX.cnt]
        rw [show t + 1 - 1 = t by omega, hfr t (by omega)]; simp only [updo]; exact upd_same _ _ _
      · rw [FX.fd]; simp only [FX.fds]; exact .mk (css := []) SlC.nil .nil
    | some f =>
      simp only at hf
      simp only [FX.ops, List.cons_append, List.nil_append, FX.cnt]
      refine goCall rfl (vs := []) rfl (hf w) ?_
      rintro e w1 ⟨v, css1, rfl, h1, h2, hm1⟩
      refine ⟨v, rfl, ?_⟩
      have hv1 : v.cells.size = 1 ∧ v.cells.toList = [v] := by obtain ⟨b, c, rfl⟩ := h1.shape; exact ⟨rfl, rfl⟩
      have hfill := fill_ps (.slice none 0 0) (upd σ t v) ps (fun _ => 0) [(7, 1, v)] hps
      refine go1 (v := .agg (cells8 (applyPs (fun _ => 0) ps) v).toArray) rfl (by
        simp only [RK.val?, List.map_append, List.map_cons, List.map_nil, updo]
        rw [show ev (upd σ t v) (.tmp t) = v from upd_same _ _ _, show fzero = cells8 (fun _ => 0) (.slice none 0 0) from rfl, hfill]
        simp only [fillL]
        rw [if_pos ⟨hv1.1, by simp [cells8]⟩, hv1.2]
        simp [splice, cells8]) ?_
      refine FX.gen_wp N l (t + 2) _ w1 rest Q hl (by omega) (Nat.le_trans hN hm1.size) fun σ' w' css hfr hm hsl => ?_
      refine hQ σ' w' (cells8 (applyPs (fun _ => 0) ps) v :: css) (fun s h => by rw [hfr s (by omega)]; simp only [updo, upd]; rw [if_neg (by omega), if_neg (by omega)]) (hm1.trans hm) ⟨_, _, rfl, ?_, ?_, hsl⟩
      · simp only [FX.slot, FX.cnt]
        rw [show t + 2 - 1 = t + 1 by omega, hfr (t + 1) (by omega)]; simp only [updo]; exact upd_same _ _ _
      · rw [FX.fd]; exact .mk ((h1.fresh hN).hold hm) ((h2.fresh hN).hold hm)
theorem FX.row_wp {N : Nat} {l : List FX} {css : List (List Value)} {σ : Sl} {w : World} {d : Nat} {rest : List RI} {Q : Sl → World → Prop} (hs : SlotsR N w σ l 1 css) (hN : N ≤ w.heap.size)
    (h : ∀ w', SlC (fromB N) w' (.slice (some ⟨w.heap.size, 0, none⟩) l.length l.length) (FX.fds l).length css.flatten → RepFL (fromB N) w' (FX.fds l) css → Mod [] w w' → wpR P rest (upd σ d (.slice (some ⟨w.heap.size, 0, none⟩) l.length l.length)) w' Q) :
    wpR P (⟨some d, .bslice l.length fzero (FX.prts 0 1 l), none⟩ :: rest) σ w Q := by
  refine wpR_run ?_
  have hrep := hs.rep
  have hlen : l.length = css.length := by rw [← FX.fds_length, hrep.length]
  have e1 := hs.prts (o := 0) (k := 0)
  have e2 := fill_parts css [] hrep.eight
  simp only [List.nil_append, List.length_nil, Nat.zero_add, Nat.zero_mul] at e1 e2
  simp only [RK.run, hlen]
  rw [e1, e2]
  intro T
  have hb := Blk.new w css.flatten T
  have hm : Mod [] w (w.alloc (.cells css.flatten.toArray T)) := Mod.alloc _ _ _
  have hsl : SlC (fromB N) (w.alloc (.cells css.flatten.toArray T)) (.slice (some ⟨w.heap.size, 0, none⟩) l.length l.length) (FX.fds l).length css.flatten :=
    ⟨_, _, by rw [FX.fds_length], by rw [FX.fds_length]; exact Nat.le_refl _, fun h => by simp at h, fun a ha _ => by
      simp only [Option.some.injEq] at ha; subst ha
      exact ⟨hN, hb.lt, hb.cells⟩⟩
  have := h _ hsl (hrep.hold hm) hm
  rw [hlen] at this
  exact this
theorem sub_call (hm : P.follows .mixedOrders = true) {f : FuncId} {l : List FX} (h : liftF P f = some (FX.genSub l)) (hs : FX.SubsC P l) : SubC P f l := by
  intro w
  unfold FX.genSub at h
  refine call_of (args := []) h hm (by simp) ?_
  clear h
  rw [wpC_seq, wpC_blk]
  refine go1 rfl rfl (wpR_done ?_)
  rw [wpC_seq, wpC_blk]
  refine FX.gen_wp w.heap.size l 1 _ w _ _ hs (Nat.le_refl _) (Nat.le_refl _) fun σ1 w1 css hfr hm1 hsl => ?_
  refine FX.row_wp hsl hm1.size fun w2 h1 h2 hm2 => ?_
  refine go1 (v := .slice (some ⟨w1.heap.size, 0, none⟩) l.length l.length) rfl (by simp) (wpR_done ?_)
  exact ret1 (v := .slice (some ⟨w1.heap.size, 0, none⟩) l.length l.length) (by simp) ⟨_, css, rfl, h1, h2, hm1.trans hm2⟩
mutual
theorem FX.okSub (hm : P.follows .mixedOrders = true) : ∀ x : FX, x.Ok P → (match x with | .mk ps f subs => (ps.all fun p => Nat.blt p.1 7) = true ∧ (match f with | some f => SubC P f subs | none => subs = []))
  | .mk ps f subs, h => by
    simp only [FX.Ok] at h
    refine ⟨h.1, ?_⟩
    cases f with
    | none => exact h.2.1
    | some f => exact sub_call hm h.2.1 (FX.okSubs hm subs h.2.2)
theorem FX.okSubs (hm : P.follows .mixedOrders = true) : ∀ l : List FX, FX.OkL P l → FX.SubsC P l
  | [], _ => trivial
  | .mk ps f subs :: l, h => by
    simp only [FX.OkL] at h
    have h1 := FX.okSub hm (.mk ps f subs) h.1
    exact ⟨h1.1, h1.2, FX.okSubs hm l h.2⟩
end
theorem msg_call (hm : P.follows .mixedOrders = true) {f : FuncId} {l : List FX} {flex : Int} (h : liftF P f = some (FX.genMsg l flex)) (hs : FX.OkL P l) {w : World} :
    Calls P f #[] w fun e w' => ∃ cs, e = .returned (.agg cs.toArray) ∧ RepM anyB w' ⟨FX.fds l, flex⟩ cs ∧ Mod [] w w' := by
  unfold FX.genMsg at h
  refine call_of (args := []) h hm (by simp) ?_
  clear h
  rw [wpC_seq, wpC_blk]
  refine goAlloc fun w0 hb0 hm0 => wpR_done ?_
  rw [wpC_seq, wpC_blk]
  refine FX.gen_wp w0.heap.size l 1 _ w0 _ _ (FX.okSubs hm l hs) (Nat.le_refl _) (Nat.le_refl _) fun σ1 w1 css hfr hm1 hsl => ?_
  refine FX.row_wp hsl hm1.size fun w2 h1 h2 hm2 => ?_
  refine go1 (v := .agg #[.slice (some ⟨w1.heap.size, 0, none⟩) l.length l.length, .int .i64 flex]) rfl (by
    simp only [RK.val?, List.map_cons, List.map_nil, ev, upd_same, fillL]
    simp [splice, Value.cells]) ?_
  have hb2 := hb0.mod (hm1.trans hm2) (by simp)
  refine goSt (b := w.heap.size) (v := .agg #[.slice (some ⟨w1.heap.size, 0, none⟩) l.length l.length, .int .i64 flex]) ?_ (by simp) hb2 rfl rfl (by simp [Value.cells, Value.oneCell']) fun w3 hb3 hm3 => ?_
  · simp only [ev, updo, upd]
    rw [if_neg (by omega), if_neg (by omega), hfr 0 (by omega)]
    simp
  have hm23 : Mod [] w w3 := Mod.drop (b := w.heap.size) (S := []) (((hm0.trans hm1).trans hm2).nil.trans hm3) (Nat.le_refl _)
  refine wpR_done (retN (cs := [.slice (some ⟨w1.heap.size, 0, none⟩) l.length l.length, .int .i64 flex]) (b := w.heap.size) ?_ (by simpa using hb3) rfl ⟨_, rfl, ?_, hm23⟩)
  · simp only [updo, upd]
    rw [if_neg (by omega), if_neg (by omega), hfr 0 (by omega)]
    simp
  · have hlt := hb0.lt
    exact .mk (h1.mod hm3 (by simp; omega) fun _ _ _ => trivial) (h2.mod hm3 (by simp; omega) fun _ _ _ => trivial)
end
end Go.Msk

namespace Go.Msk
open Go.RowKit
set_option maxRecDepth 100000
section
variable {flex : Int}
theorem i16_of {ver : Int} {most : Nat} (h0 : 0 ≤ ver) (h1 : ver ≤ most) (hm : most < 32768) : IntKind.i16.wrap ver = ver := by
  simp only [IntKind.wrap, IntKind.bits, IntKind.signed]; simp; omega
end
end Go.Msk

namespace Go.Msk
open Go.RowKit
set_option maxRecDepth 100000
structure LibA (P : Program) (F : Nat → Nat) (has : Nat → Bool) : Prop where
  mixed : P.follows .mixedOrders = true
  kAppendBool : has Msk.kAppendBool = true → liftF P (F Msk.kAppendBool) = some (ir_kAppendBool F)
  kAppendInt8 : has Msk.kAppendInt8 = true → liftF P (F Msk.kAppendInt8) = some (ir_kAppendInt8 F)
  kAppendInt16 : has Msk.kAppendInt16 = true → liftF P (F Msk.kAppendInt16) = some (ir_kAppendInt16 F)
  kAppendUint16 : has Msk.kAppendUint16 = true → liftF P (F Msk.kAppendUint16) = some (ir_kAppendUint16 F)
  kAppendInt32 : has Msk.kAppendInt32 = true → liftF P (F Msk.kAppendInt32) = some (ir_kAppendInt32 F)
  kAppendUint32 : has Msk.kAppendUint32 = true → liftF P (F Msk.kAppendUint32) = some (ir_kAppendUint32 F)
  kAppendInt64 : has Msk.kAppendInt64 = true → liftF P (F Msk.kAppendInt64) = some (ir_kAppendInt64 F)
  kAppendUint64 : has Msk.kAppendUint64 = true → liftF P (F Msk.kAppendUint64) = some (ir_kAppendUint64 F)
  kAppendUuid : has Msk.kAppendUuid = true → liftF P (F Msk.kAppendUuid) = some (ir_kAppendUuid F)
  kAppendUvarint : has Msk.kAppendUvarint = true → liftF P (F Msk.kAppendUvarint) = some (ir_kAppendUvarint F)
  kUvarintLen : has Msk.kUvarintLen = true → liftF P (F Msk.kUvarintLen) = some (ir_kUvarintLen F)
  bLen32 : has Msk.bLen32 = true → liftF P (F Msk.bLen32) = some (ir_bLen32 F)
  kAppendString : has Msk.kAppendString = true → liftF P (F Msk.kAppendString) = some (ir_kAppendString F)
  kAppendCompactString : has Msk.kAppendCompactString = true → liftF P (F Msk.kAppendCompactString) = some (ir_kAppendCompactString F)
  kAppendNullableString : has Msk.kAppendNullableString = true → liftF P (F Msk.kAppendNullableString) = some (ir_kAppendNullableString F)
  kAppendCompactNullableString : has Msk.kAppendCompactNullableString = true → liftF P (F Msk.kAppendCompactNullableString) = some (ir_kAppendCompactNullableString F)
  kAppendBytes : has Msk.kAppendBytes = true → liftF P (F Msk.kAppendBytes) = some (ir_kAppendBytes F)
  kAppendCompactBytes : has Msk.kAppendCompactBytes = true → liftF P (F Msk.kAppendCompactBytes) = some (ir_kAppendCompactBytes F)
  kAppendArrayLen : has Msk.kAppendArrayLen = true → liftF P (F Msk.kAppendArrayLen) = some (ir_kAppendArrayLen F)
  kAppendCompactArrayLen : has Msk.kAppendCompactArrayLen = true → liftF P (F Msk.kAppendCompactArrayLen) = some (ir_kAppendCompactArrayLen F)
  kAppendNullableArrayLen : has Msk.kAppendNullableArrayLen = true → liftF P (F Msk.kAppendNullableArrayLen) = some (ir_kAppendNullableArrayLen F)
  kAppendCompactNullableArrayLen : has Msk.kAppendCompactNullableArrayLen = true → liftF P (F Msk.kAppendCompactNullableArrayLen) = some (ir_kAppendCompactNullableArrayLen F)
  tLen : has Msk.tLen = true → liftF P (F Msk.tLen) = some (ir_tLen F)
  tAppendEach : has Msk.tAppendEach = true → liftF P (F Msk.tAppendEach) = some (ir_tAppendEach F)
  tAppendEach1 : has Msk.tAppendEach1 = true → liftF P (F Msk.tAppendEach1) = some (ir_tAppendEach1 F)
  body1 : has Msk.tAppendEach1 = true → hasBody P (F Msk.tAppendEach1) = true
  tEach : has Msk.tEach = true → liftF P (F Msk.tEach) = some (ir_tEach F)
  sort : has Msk.tEach = true → SortC P (F sortSlice) (F tEach1) (F tyU32s)
def apF (F : Nat → Nat) (has : Nat → Bool) (p : PK) (x : Bool) (f : FuncId) : Bool :=
  let ok (c : Nat) (l : List Nat) : Bool := f == F c && hasAll has (c :: l)
  let uv := [kAppendUvarint, kUvarintLen, bLen32]
  match p with
  | .bool => ok kAppendBool []
  | .i8 => ok kAppendInt8 []
  | .i16 => ok kAppendInt16 [kAppendUint16]
  | .u16 => ok kAppendUint16 []
  | .i32 => ok kAppendInt32 [kAppendUint32]
  | .i64 => ok kAppendInt64 [kAppendUint64]
  | .str => if x then ok kAppendCompactString uv else ok kAppendString [kAppendInt16, kAppendUint16]
  | .nstr => if x then ok kAppendCompactNullableString (kAppendCompactString :: uv) else ok kAppendNullableString [kAppendString, kAppendInt16, kAppendUint16]
  | .byt => if x then ok kAppendCompactBytes uv else ok kAppendBytes [kAppendInt32, kAppendUint32]
  | _ => false
def apL (F : Nat → Nat) (has : Nat → Bool) (nul x : Bool) (f : FuncId) : Bool :=
  let ok (c : Nat) (l : List Nat) : Bool := f == F c && hasAll has (c :: l)
  let uv := [kAppendUvarint, kUvarintLen, bLen32]
  if nul then (if x then ok kAppendCompactNullableArrayLen uv else ok kAppendNullableArrayLen [kAppendInt32, kAppendUint32])
  else (if x then ok kAppendCompactArrayLen uv else ok kAppendArrayLen [kAppendInt32, kAppendUint32])
def Ap.okB (F : Nat → Nat) (has : Nat → Bool) (hf x : Bool) : Ap → Bool
  | .nil => true
  | .prm _ _ p a rest => (!a.fx || hf) && apF F has p x (a.sel x) && rest.okB F has hf x
  | .uid _ f rest => (f == F kAppendUuid && has kAppendUuid) && rest.okB F has hf x
  | .vst _ _ a1 a2 rest => (!a1.fx || hf) && (!a2.fx || hf) && apF F has .str x (a1.sel x) && apF F has .nstr x (a2.sel x) && rest.okB F has hf x
  | .lsp _ nul ln p a rest => (!ln.fx || hf) && (!a.fx || hf) && apL F has nul x (ln.sel x) && apF F has p x (a.sel x) && rest.okB F has hf x
  | .lss _ nul ln _ body rest => (!ln.fx || hf) && apL F has nul x (ln.sel x) && body.okB F has hf x && rest.okB F has hf x
  | .sub _ _ body rest => body.okB F has hf x && rest.okB F has hf x
  | .tags ln uv ap => hf && (ln == F tLen && uv == F kAppendUvarint && ap == F tAppendEach && hasAll has [tLen, kAppendUvarint, kUvarintLen, bLen32, tAppendEach, tAppendEach1, tEach])
section
variable {P : Program} {F : Nat → Nat} {has : Nat → Bool} {f : FuncId}
theorem imp_of {a b : Bool} (h : (!a || b) = true) (ha : a = true) : b = true := by
  rw [ha] at h; simpa using h
theorem spl_of {c : Nat} {l : List Nat} (h : (f == F c && hasAll has (c :: l)) = true) : f = F c ∧ ∀ y ∈ c :: l, has y = true := by
  simp only [Bool.and_eq_true, beq_iff_eq] at h
  exact ⟨h.1, hasAll_mem h.2⟩
theorem apF_of (L : LibA P F has) {p : PK} {x : Bool} (h : apF F has p x f = true) : ApF P f p x := by
  have hm := L.mixed
  cases p with
  | bool => obtain ⟨rfl, q⟩ := spl_of h; exact ApF.bool (fun b => (kAppendBool_call hm (L.kAppendBool (q _ (by simp)))).k fun _ _ _ h => h) x
  | i8 => obtain ⟨rfl, q⟩ := spl_of h; exact ApF.int (.inl ⟨rfl, rfl, rfl⟩) fun n => (kAppendInt8_call hm (L.kAppendInt8 (q _ (by simp)))).k fun _ _ _ h => h
  | i16 => obtain ⟨rfl, q⟩ := spl_of h; exact ApF.int (.inr (.inl ⟨rfl, rfl, rfl⟩)) fun n => (kAppendInt16_call hm (L.kAppendInt16 (q _ (by simp))) (L.kAppendUint16 (q _ (by simp)))).k fun _ _ _ h => h
  | u16 => obtain ⟨rfl, q⟩ := spl_of h; exact ApF.u16 fun n h1 h2 => (kAppendUint16_call hm (L.kAppendUint16 (q _ (by simp))) ⟨h1, h2⟩).k fun _ _ _ h => h
  | i32 => obtain ⟨rfl, q⟩ := spl_of h; exact ApF.int (.inr (.inr (.inl ⟨rfl, rfl, rfl⟩))) fun n => (kAppendInt32_call hm (L.kAppendInt32 (q _ (by simp))) (L.kAppendUint32 (q _ (by simp)))).k fun _ _ _ h => h
  | i64 => obtain ⟨rfl, q⟩ := spl_of h; exact ApF.int (.inr (.inr (.inr ⟨rfl, rfl, rfl⟩))) fun n => (kAppendInt64_call hm (L.kAppendInt64 (q _ (by simp))) (L.kAppendUint64 (q _ (by simp)))).k fun _ _ _ h => h
  | str =>
    cases x with
    | true => obtain ⟨rfl, q⟩ := spl_of h; exact ApF.str fun s hs => by simpa using kAppendCompactString_call hm (L.kAppendCompactString (q _ (by simp))) (L.kAppendUvarint (q _ (by simp))) (L.kUvarintLen (q _ (by simp))) (L.bLen32 (q _ (by simp))) hs
    | false => obtain ⟨rfl, q⟩ := spl_of h; exact ApF.str fun s hs => by simpa using kAppendString_call hm (L.kAppendString (q _ (by simp))) (L.kAppendInt16 (q _ (by simp))) (L.kAppendUint16 (q _ (by simp)))
  | nstr =>
    cases x with
    | true => obtain ⟨rfl, q⟩ := spl_of h; exact ApF.nstr fun o ho => kAppendCompactNullableString_call hm (L.kAppendCompactNullableString (q _ (by simp))) (L.kAppendCompactString (q _ (by simp))) (L.kAppendUvarint (q _ (by simp))) (L.kUvarintLen (q _ (by simp))) (L.bLen32 (q _ (by simp))) ho
    | false => obtain ⟨rfl, q⟩ := spl_of h; exact ApF.nstr fun o ho => kAppendNullableString_call hm (L.kAppendNullableString (q _ (by simp))) (L.kAppendString (q _ (by simp))) (L.kAppendInt16 (q _ (by simp))) (L.kAppendUint16 (q _ (by simp)))
  | byt =>
    cases x with
    | true => obtain ⟨rfl, q⟩ := spl_of h; exact ApF.byt fun s hs => by simpa using kAppendCompactBytes_call hm (L.kAppendCompactBytes (q _ (by simp))) (L.kAppendUvarint (q _ (by simp))) (L.kUvarintLen (q _ (by simp))) (L.bLen32 (q _ (by simp))) hs
    | false => obtain ⟨rfl, q⟩ := spl_of h; exact ApF.byt fun s hs => by simpa using kAppendBytes_call hm (L.kAppendBytes (q _ (by simp))) (L.kAppendInt32 (q _ (by simp))) (L.kAppendUint32 (q _ (by simp)))
  | u32 => simp [apF] at h
  | uuid => simp [apF] at h
  | nbyt => simp [apF] at h
theorem apL_of (L : LibA P F has) {nul x : Bool} (h : apL F has nul x f = true) : ApL P f nul x := by
  have hm := L.mixed
  intro w0 w dv l n isnil hn hm0 hd hl
  cases nul with
  | true =>
    cases x with
    | true =>
      obtain ⟨rfl, q⟩ := spl_of h
      have k := kAppendCompactNullableArrayLen_call hm (L.kAppendCompactNullableArrayLen (q _ (by simp))) (L.kAppendUvarint (q _ (by simp))) (L.kUvarintLen (q _ (by simp))) (L.bLen32 (q _ (by simp))) (n := n) (null := isnil) hn
      have e : encLen true true isnil n = if isnil then [0] else uvE (n + 1) := by simp [encLen]
      rw [e] at hl ⊢
      exact k w0 w dv l hm0 hd hl
    | false =>
      obtain ⟨rfl, q⟩ := spl_of h
      have k := kAppendNullableArrayLen_call hm (L.kAppendNullableArrayLen (q _ (by simp))) (L.kAppendInt32 (q _ (by simp))) (L.kAppendUint32 (q _ (by simp))) (n := n) (null := isnil)
      have e : encLen true false isnil n = if isnil then beI 4 (-1) else beI 4 n := by simp [encLen]
      rw [e] at hl ⊢
      exact k w0 w dv l hm0 hd hl
  | false =>
    cases x with
    | true =>
      obtain ⟨rfl, q⟩ := spl_of h
      have k := kAppendCompactArrayLen_call hm (L.kAppendCompactArrayLen (q _ (by simp))) (L.kAppendUvarint (q _ (by simp))) (L.kUvarintLen (q _ (by simp))) (L.bLen32 (q _ (by simp))) (n := n) hn
      have e : encLen false true isnil n = uvE (n + 1) := by simp [encLen]
      rw [e] at hl ⊢
      exact k w0 w dv _ l hm0 hd hl rfl
    | false =>
      obtain ⟨rfl, q⟩ := spl_of h
      have k := (kAppendArrayLen_call hm (L.kAppendArrayLen (q _ (by simp))) (L.kAppendInt32 (q _ (by simp))) (L.kAppendUint32 (q _ (by simp))) (n := (n : Int))).k fun _ _ _ h => h
      have e : encLen false false isnil n = beI 4 n := by simp [encLen]
      rw [e] at hl ⊢
      exact k w0 w dv _ l hm0 hd hl rfl
theorem Ap.ok_of (L : LibA P F has) {hf x : Bool} : ∀ ap : Ap, ap.okB F has hf x = true → ap.Ok P hf x := by
  intro ap
  induction ap with
  | nil => intro _; trivial
  | prm vc cp p a rest ih =>
    intro h
    simp only [Ap.okB, Bool.and_eq_true] at h
    exact ⟨imp_of h.1.1, apF_of L h.1.2, ih h.2⟩
  | uid vc ff rest ih =>
    intro h
    simp only [Ap.okB, Bool.and_eq_true, beq_iff_eq] at h
    obtain ⟨⟨rfl, h1⟩, h2⟩ := h
    exact ⟨fun u hu => kAppendUuid_call L.mixed (L.kAppendUuid h1) hu, ih h2⟩
  | vst vc V a1 a2 rest ih =>
    intro h
    simp only [Ap.okB, Bool.and_eq_true] at h
    exact ⟨imp_of h.1.1.1.1, imp_of h.1.1.1.2, apF_of L h.1.1.2, apF_of L h.1.2, ih h.2⟩
  | lsp vc nul ln p a rest ih =>
    intro h
    simp only [Ap.okB, Bool.and_eq_true] at h
    exact ⟨imp_of h.1.1.1.1, imp_of h.1.1.1.2, apL_of L h.1.1.2, apF_of L h.1.2, ih h.2⟩
  | lss vc nul ln sz body rest ihb ih =>
    intro h
    simp only [Ap.okB, Bool.and_eq_true] at h
    exact ⟨imp_of h.1.1.1, apL_of L h.1.1.2, ihb h.1.2, ih h.2⟩
  | sub vc sz body rest ihb ih =>
    intro h
    simp only [Ap.okB, Bool.and_eq_true] at h
    exact ⟨ihb h.1, ih h.2⟩
  | tags ln uv ap =>
    intro h
    simp only [Ap.okB, Bool.and_eq_true, beq_iff_eq] at h
    obtain ⟨h0, ⟨⟨rfl, rfl⟩, rfl⟩, h1⟩ := h
    have q := hasAll_mem h1
    refine ⟨h0, fun w B o v m hc hM => tLen_call L.mixed (L.tLen (q _ (by simp))) hc hM, fun n hn => (kAppendUvarint_call L.mixed (L.kAppendUvarint (q _ (by simp))) (L.kUvarintLen (q _ (by simp))) (L.bLen32 (q _ (by simp))) hn).k fun _ _ _ h => h, ?_⟩
    intro w0 w B o dv v l m hm0 hd hl hc hM hml hmv
    exact tAppendEach_call L.mixed (L.tAppendEach (q _ (by simp))) (L.tAppendEach1 (q _ (by simp))) (L.body1 (q _ (by simp))) (L.tEach (q _ (by simp))) (L.sort (q _ (by simp))) (L.kAppendUvarint (q _ (by simp))) (L.kUvarintLen (q _ (by simp))) (L.bLen32 (q _ (by simp))) hm0 hd hl hc hM hml hmv
structure BehFs where
  mx : FuncId
  newp : FuncId
  maxv : FuncId
  setv : FuncId
  rf : FuncId
  rd : FuncId
  ap : FuncId
  beh : FuncId
  sm : FuncId
structure BehOk (P : Program) (F : Nat → Nat) (has : Nat → Bool) (M : BehFs) (T : Top) (A : ATop) (fx : List FX) (flex : Int) (z : List Value) (most : Nat) : Prop where
  mx : liftF P M.mx = some (impMaxCode M.newp M.maxv)
  maxv : liftF P M.maxv = some (maxCode most)
  newp : liftF P M.newp = some (newCode z T.dfl)
  setv : liftF P M.setv = some setCode
  rf : liftF P M.rf = some (rfCode M.rd false)
  rd : liftF P M.rd = some T.gen
  ap : liftF P M.ap = some A.gen
  beh : liftF P M.beh = some (behCode M.newp M.setv M.rf M.ap)
  sm : liftF P M.sm = some (FX.genMsg fx flex)
  fxs : FX.OkL P fx
  cnt : Nat.blt fx.length 1000 = true
  dfl : ∃ l, liftF P T.dfl = some (dfGen l) ∧ dfOk l (T.sc.dcs.flatten.length + 1) ∧ z.length = T.sc.dcs.flatten.length + 1 ∧ dfRes l z = .int .i16 0 :: T.sc.dcs.flatten ∧ ∀ ver, dfRes l (.int .i16 ver :: T.sc.dcs.flatten) = .int .i16 ver :: T.sc.dcs.flatten
  dfs : DfsOk P T.sc.dfs
  okT : T.okB F has = true
  okA : (A.ap.okB F has A.flex.isSome false && (A.flex.isNone || A.ap.okB F has A.flex.isSome true)) = true
  rt : rtOk T A ⟨FX.fds fx, flex⟩ most = true
  most : most < 32768
variable {M : BehFs} {T : Top} {A : ATop} {fx : List FX} {flex : Int} {z : List Value} {most : Nat}
theorem BehOk.len (h : BehOk P F has M T A fx flex z most) (size : Nat.ble (FD.maxL (decide (flex ≥ 0)) (FX.fds fx) + tagM (decide (flex ≥ 0))) 70368744176664 = true) (sizef : Nat.ble (FD.maxL false (FX.fds fx) + tagM false) 70368744176664 = true) {t : TR} (hk : t.kok) (v : Int) : (writeP ⟨FX.fds fx, flex⟩ v t).length + 1000 ≤ lim := by
  have hp : FD.plainL (FX.fds fx) = true := by have := h.rt; simp only [rtOk, Bool.and_eq_true] at this; exact this.1
  suffices (writeP ⟨FX.fds fx, flex⟩ v t).length ≤ 70368744176664 by unfold lim; omega
  refine writeP_le hp hk ?_
  cases hf : MD.isFlex ⟨FX.fds fx, flex⟩ v with
  | false => exact Nat.le_of_ble_eq_true sizef
  | true =>
    have hx : decide (flex ≥ 0) = true := by
      simp only [MD.isFlex, Bool.and_eq_true] at hf; exact hf.1
    have := Nat.le_of_ble_eq_true size
    rwa [hx] at this
end
end Go.Msk

namespace Go.Msk
open Go.RowKit
set_option maxRecDepth 100000
structure UQO (N : Nat) (w0 w : World) (lv : Value) (out : List (Nat × List UInt8)) (ucs : List (List Value)) : Prop where
  raw : LRaw2 w w0.heap.size lv ucs
  rep : RepU (fun b => b < N) w out ucs
  hN : N ≤ w0.heap.size
  mod : Mod [] w0 w
theorem UQO.keep {N : Nat} {w0 w w' : World} {lv : Value} {out : List (Nat × List UInt8)} {ucs : List (List Value)} (h : UQO N w0 w lv out ucs) (hm : Mod [] w w') : UQO N w0 w' lv out ucs :=
  ⟨h.raw.mod hm (by simp), h.rep.mod hm (by simp) fun _ _ h => h, h.hN, h.mod.trans hm⟩
theorem UQO.repN {N : Nat} {w0 w : World} {lv : Value} {out : List (Nat × List UInt8)} {ucs : List (List Value)} (h : UQO N w0 w lv out ucs) : RepU (fun b => b < w0.heap.size) w out ucs :=
  h.rep.mod (Mod.refl [] _) (by simp) fun _ _ hb => Nat.lt_of_lt_of_le hb h.hN
section
variable {P : Program} {F : Nat → Nat}
attribute [local simp] gOk updo upd ev RK.val? isShift intBin Addr.add_mk args0 Value.cells undef
theorem unk_bodyO {N : Nat} {σ : Sl} {w0 w : World} {j least n k : Nat} {lv sv : Value} {b : List UInt8} {ucs : List (List Value)} {out : List (Nat × List UInt8)} {a : Addr} {c : Nat} {Q : Exit → Sl → World → Prop} (h5 : σ 5 = .int .u32 (least : Nat)) (h6 : σ 6 = lv) (h17 : σ 17 = .slice (some a) n c) (h19 : σ 19 = .int .i64 (j : Nat)) (hj : j < n)
    (hq : UQO N w0 w lv out ucs) (hcell : cellsAt w (a.add (j * 2)) 0 2 = some [.int .u32 (k : Nat), sv]) (hsv : SlC (fun b => b < N) w sv b.length (u8s b)) (hout : out.length < 2147483647)
    (hQ : ∀ σ' w' lv' ucs', (∀ s, s < 23 → s ≠ 6 → s ≠ 8 → s ≠ 9 → s ≠ 10 → s ≠ 21 → s ≠ 22 → σ' s = σ s) → σ' 6 = lv' → UQO N w0 w' lv' (unkStep least out (k, b)) ucs' → Q (.exit 1) σ' w' ∧ Q .normal σ' w') : wpC P (ir_sUnknown_4 F) Q σ w := by
  unfold ir_sUnknown_4
  have hN := hq.hN
  rw [wpC_seq, wpC_blk]
  refine go1 (v := .pointer (some (a.add (j * 2)))) rfl (by simp [h17, h19, hj]) ?_
  refine go1 (v := .agg #[.int .u32 (k : Nat), sv]) rfl (by simp [hcell]) ?_
  refine goAlloc fun w1 hb1 hm1 => ?_
  refine goSt (b := w.heap.size) (v := .agg #[.int .u32 (k : Nat), sv]) (by simp) (by simp) hb1 rfl rfl (two_one hsv.one) fun w2 hb2 hm2 => ?_
  have hm02 : Mod [] w w2 := Mod.drop (b := w.heap.size) (S := []) (hm1.nil.trans hm2) (Nat.le_refl _)
  have hq2 := hq.keep hm02
  have hsv2 : SlC (fun b => b < N) w2 sv b.length (u8s b) := hsv.mod hm02 (by simp) fun _ _ h => h
  refine wpR_done ?_
  rw [wpC_seq, wpC_blk]
  refine go1 rfl rfl (wpR_done ?_)
  rw [wpC_seq]
  refine unk_find (k := k) (tb := w.heap.size) (sv := sv) (lv := lv) (by simp [h6]) (by simp) (by simp) hq2.raw hq2.repN (by simpa using hb2) (by omega) fun σ1 w3 hfr h9 hm3 => ?_
  have hq3 := hq2.keep hm3
  have f5 : σ1 5 = .int .u32 (least : Nat) := by rw [hfr 5 (by omega) (by omega)]; simp [h5]
  have f6 : σ1 6 = lv := by rw [hfr 6 (by omega) (by omega)]; simp [h6]
  have f8 : σ1 8 = .pointer (some ⟨w.heap.size, 0, none⟩) := by rw [hfr 8 (by omega) (by omega)]; simp
  simp only [thenC]
  rw [wpC_seq, wpC_seq]
  have hb3 : Blk w3 w.heap.size [.int .u32 (k : Nat), sv] := Blk.mod (by simpa using hb2) hm3 (by simp)
  refine unk_skip (least := least) (k := k) (tb := w.heap.size) (sv := sv) (lv := lv) f5 f6 f8 h9 hq3.raw hq3.repN hb3 fun σ2 w4 hfr2 h58 hm4 => ?_
  have hq4 := hq3.keep hm4
  have hb4 := hb3.mod hm4 (by simp)
  simp only [thenC]
  have hfr12 : ∀ s, s < 23 → s ≠ 8 → s ≠ 9 → s ≠ 21 → s ≠ 22 → σ2 s = σ s := by
    intro s h1 h2 h3 h4 h5
    rw [hfr2 s h1, hfr s h1 h3]
    simp only [updo, upd]
    repeat rw [if_neg (by omega)]
  by_cases hk : k < least
  · rw [wpC_cond_t (by rw [ev, h58]; simp [hk])]
    simp only [wpC, thenC]
    refine (hQ σ2 w4 lv ucs (fun s h1 _ h2 h3 _ h4 h5 => hfr12 s h1 h2 h3 h4 h5) (by rw [hfr12 6 (by omega) (by omega) (by omega) (by omega) (by omega)]; exact h6) ?_).1
    unfold unkStep; rw [if_pos hk]; exact hq4
  · by_cases he : (out[posU k out]?).map (·.1) = some k
    · rw [wpC_cond_t (by rw [ev, h58]; simp [he])]
      simp only [wpC, thenC]
      refine (hQ σ2 w4 lv ucs (fun s h1 _ h2 h3 _ h4 h5 => hfr12 s h1 h2 h3 h4 h5) (by rw [hfr12 6 (by omega) (by omega) (by omega) (by omega) (by omega)]; exact h6) ?_).1
      unfold unkStep; rw [if_neg hk, insU_pos, if_pos he]; exact hq4
    · rw [wpC_cond_f (by rw [ev, h58]; simp [hk, he]), wpC_skip]
      simp only [thenC]
      rw [wpC_seq, wpC_blk]
      have hlen := hq4.rep.length
      have hpos := posU_le k out
      refine go1 (v := lv) rfl (by simp [hfr2, f6]) ?_
      refine go1 (v := .agg #[.int .u32 0, .slice none 0 0]) rfl rfl ?_
      refine goOne (cs := [.int .u32 0, .slice none 0 0]) (by simp) rfl rfl fun w5 hbz hm5 => ?_
      have hq5 := hq4.keep hm5
      refine wpR_run ?_
      refine append_two (lv := lv) (css := ucs) (by simp []) hq5.raw hq5.mod.size (by simp) hbz rfl (by simp [Value.oneCell']) (by omega) fun lv' w6 hraw6 hown => ?_
      have hm06 : Mod [] w0 w6 ∧ RepU (fun b => b < N) w6 out ucs ∧ (∀ b, b < w0.heap.size ∨ b = w.heap.size → b < w5.heap.size → w6.heap[b]? = w5.heap[b]?) := by
        rcases hown with ⟨⟨ho, hm6⟩, -⟩ | ⟨ho, hm6⟩
        · have hge : ∀ b, own lv = some b → w0.heap.size ≤ b ∧ b < w.heap.size := fun b hb => ⟨(hq.raw.own hb).1, (hq.raw.own hb).2⟩
          refine ⟨?_, hq5.rep.mod hm6 (fun b hb hc => by have := hge b (by simpa using hb); omega) fun _ _ h => h, fun b hb hlt => hm6.block b hlt fun hc => by have := hge b (by simpa using hc); omega⟩
          cases ho : own lv with
          | none => rw [ho] at hm6; exact hq5.mod.trans hm6.nil
          | some b =>
            rw [ho] at hm6
            exact Mod.drop (b := b) (S := []) ((hq5.mod.nil).trans (hm6.mono (by simp))) (hge b ho).1
        · exact ⟨hq5.mod.trans hm6, hq5.rep.mod hm6 (by simp) fun _ _ h => h, fun b hb hlt => hm6.block b hlt (by simp)⟩
      obtain ⟨k1, k2, k3⟩ := hm06
      have htb6 : Blk w6 w.heap.size [.int .u32 (k : Nat), sv] := by
        have := hb4.mod hm5 (by simp)
        exact this.of_heap (k3 _ (.inr rfl) this.lt)
      have hsv6 : SlC (fun b => b < N) w6 sv b.length (u8s b) := by
        have h5 : SlC (fun b => b < N) w5 sv b.length (u8s b) := hsv.mod ((hm02.trans hm3).trans (hm4.trans hm5)) (by simp) fun _ _ h => h
        obtain ⟨base, cp, e1, e2, e3, e4⟩ := h5
        refine ⟨base, cp, e1, e2, e3, fun a ha hc => ?_⟩
        obtain ⟨q1, q2, q3⟩ := e4 a ha hc
        exact ⟨q1, Nat.lt_of_lt_of_le (Nat.lt_of_lt_of_le q1 hN) k1.size, q3.of_eq (k3 _ (.inl (Nat.lt_of_lt_of_le q1 hN)) q2)⟩
      rcases hraw6.sl with ⟨-, hnil⟩ | ⟨B, cap, rest, elv, hcap, hB, hblk, hrest⟩
      · simp at hnil
      refine go1 (v := lv') rfl (by simp) (wpR_done ?_)
      rw [wpC_seq]
      refine unk_shift (B := B) (cap := cap) (n := out.length) (i := posU k out) (ucs := ucs) (z := [.int .u32 0, .slice none 0 0]) (rest := rest) (by simp [elv, hlen]) (by simp [hfr2, h9]) hpos hlen.symm (by omega) hq4.raw.two hq4.rep.oneCell rfl (by simpa using hblk) fun σ3 w7 x hfr3 hx hblk7 hm7 => ?_
      simp only [thenC]
      rw [wpC_blk]
      have htB : w.heap.size ≠ B := by
        intro e
        have := hown
        rcases this with ⟨⟨ho, -⟩, -⟩ | ⟨ho, -⟩
        · rw [elv] at ho
          have h1 : own lv = some B := by rw [← ho]; rfl
          have := (hq.raw.own h1).2; omega
        · rw [elv] at ho
          simp only [own, Option.some.injEq] at ho
          have := hbz.lt; have := hm02.size; have := hm3.size; have := hm4.size; have := hm5.size
          have := hb4.lt; omega
      have htb7 : Blk w7 w.heap.size [.int .u32 (k : Nat), sv] := htb6.mod hm7 (by simpa using htB)
      have g6 : σ3 6 = .slice (some ⟨B, 0, none⟩) (out.length + 1) cap := by rw [hfr3 6 (by omega) (by omega)]; simp [elv, hlen]
      have g8 : σ3 8 = .pointer (some ⟨w.heap.size, 0, none⟩) := by rw [hfr3 8 (by omega) (by omega)]; simp [hfr2, f8]
      have g9 : σ3 9 = .int .i64 (posU k out : Nat) := by rw [hfr3 9 (by omega) (by omega)]; simp [hfr2, h9]
      have hct := cellsAt_of' htb7.cells (n := 2) rfl
      refine go1 (v := .slice (some ⟨B, 0, none⟩) (out.length + 1) cap) rfl (by simp [g6]) ?_
      refine go1 (v := .int .i64 (posU k out : Nat)) rfl (by simp [g9]) ?_
      refine go1 (v := .agg #[.int .u32 (k : Nat), sv]) rfl (by simp [g8, hct]) ?_
      refine go1 (v := .pointer (some ⟨B, posU k out * 2, none⟩)) rfl (by simp; omega) ?_
      have hall : ∀ c ∈ ucs.take (posU k out) ++ x :: ucs.drop (posU k out), c.length = 2 := by
        intro c hc
        rcases List.mem_append.1 hc with hc | hc
        · exact hq4.raw.two c (List.mem_of_mem_take hc)
        · rcases List.mem_cons.1 hc with rfl | hc
          · exact hx
          · exact hq4.raw.two c (List.mem_of_mem_drop hc)
      have hlen7 : (ucs.take (posU k out) ++ x :: ucs.drop (posU k out)).length = ucs.length + 1 := by simp; omega
      have hfl : ((ucs.take (posU k out) ++ x :: ucs.drop (posU k out)).flatten).length = (ucs.length + 1) * 2 := by rw [flatten_length hall, hlen7]
      have hput := hblk7.put (o := posU k out * 2) (vs := [.int .u32 (k : Nat), sv]) (by simp only [List.length_append, hfl]; simp; omega)
      rw [flat_setAt hall rfl (by rw [hlen7]; omega), set_mid (by omega)] at hput
      have hmput : Mod [B] w7 (putCells w7 ⟨B, posU k out * 2, none⟩ 0 [.int .u32 (k : Nat), sv]) := Mod.put (by simp)
      refine wpR_run ?_
      simp only [RK.run, ev, updo, upd, if_true]
      refine ⟨rfl, stOk_many hblk7 (by simp only [List.length_append, hfl]; simp; omega) (two_one hsv.one), ?_⟩
      refine goEnd ?_
      simp only [Value.cells]
      have hm08 : Mod [] w0 (putCells w7 ⟨B, posU k out * 2, none⟩ 0 [.int .u32 (k : Nat), sv]) := Mod.drop (b := B) (S := []) (k1.nil.trans (hm7.trans hmput)) hB
      refine (hQ _ _ (.slice (some ⟨B, 0, none⟩) (out.length + 1) cap) (ucs.take (posU k out) ++ [.int .u32 (k : Nat), sv] :: ucs.drop (posU k out)) (fun s s1 s2 s3 s4 s5 s6 s7 => ?_) ?_ ⟨⟨?_, .inr ⟨B, cap, rest, ?_, ?_, hB, hput, ?_⟩⟩, ?_, hN, hm08⟩).2
      · simp only [upd]
        repeat rw [if_neg (by omega)]
        rw [hfr3 s (by omega) s5]
        simp only [updo, upd]
        repeat rw [if_neg (by omega)]
        exact hfr12 s s1 s3 s4 s6 s7
      · simp [g6]
      · intro c hc
        rcases List.mem_append.1 hc with hc | hc
        · exact hq4.raw.two c (List.mem_of_mem_take hc)
        · rcases List.mem_cons.1 hc with rfl | hc
          · rfl
          · exact hq4.raw.two c (List.mem_of_mem_drop hc)
      · simp; omega
      · simp at hcap ⊢; omega
      · simp at hrest ⊢; omega
      · have e : unkStep least out (k, b) = out.take (posU k out) ++ (k, b) :: out.drop (posU k out) := by
          unfold unkStep; rw [if_neg hk, insU_pos, if_neg he]
        rw [e]
        have hmB : Mod [B] w6 (putCells w7 ⟨B, posU k out * 2, none⟩ 0 [.int .u32 (k : Nat), sv]) := hm7.trans hmput
        have hr := k2.mod (ok' := fun b => b < N) hmB (by simp; omega) fun _ _ h => h
        exact (hr.take _).append (.cons (hsv6.mod hmB (by simp; omega) fun _ _ h => h) (hr.drop _))
theorem unknown_callO (hm : P.follows .mixedOrders = true) (h : liftF P (F sUnknown) = some (ir_sUnknown F)) (hk : liftF P (F sKnown) = some (ir_sKnown F)) {w : World} {v uv : Value} {fs : List FD} {css uss : List (List Value)} {u : List (Nat × List UInt8)}
    (hv : SlC anyB w v fs.length css.flatten) (hr : RepFL anyB w fs css) (hlen : fs.length < 2147483648) (ht : ∀ f ∈ fs, f.tag < 2147483648) (hu : SlC anyB w uv u.length uss.flatten) {N : Nat} (hN0 : N ≤ w.heap.size) (hur : RepU (fun b => b < N) w u uss) :
    Calls P (F sUnknown) [v, uv].toArray w fun e w' => ∃ lv ucs, e = .returned lv ∧ SlC (fun b => w.heap.size ≤ b) w' lv (unknownP fs u).length ucs.flatten ∧ RepU (fun b => b < N) w' (unknownP fs u) ucs ∧ Mod [] w w' := by
  unfold ir_sUnknown at h
  refine call_of h hm (by simp) ?_
  clear h
  rw [wpC_seq, wpC_blk]
  refine go1 rfl rfl (wpR_done ?_)
  rw [wpC_seq, wpC_blk]
  refine go1 (v := v) rfl (by simp) ?_
  refine goCall rfl (vs := [v]) (by simp) (known_call hm hk hv hr hlen ht) ?_
  rintro e w1 ⟨rfl, hm1⟩
  refine ⟨_, rfl, go1 rfl rfl (wpR_done ?_)⟩
  rw [wpC_seq, wpC_blk]
  refine go1 rfl rfl (wpR_done ?_)
  rw [wpC_seq, wpC_seq, wpC_blk]
  have hu1 := hu.keep hm1
  obtain ⟨ub, uc, eu⟩ := hu.shape
  refine go1 (v := uv) rfl (by simp) ?_
  refine go1 (v := uv) rfl (by simp) ?_
  refine go1 (v := .int .i64 u.length) rfl (by simp [eu]) ?_
  refine go1 (v := .int .i64 ((min u.length 32767 : Nat) : Int)) rfl (by simp [min_nat]) ?_
  obtain ⟨tv, e1, h1⟩ := slice_head (x := .tmp 13) (y := .tmp 16) (sz := 2) (k := min u.length 32767)
    (σ := updo (updo (updo (updo (updo (updo (updo (updo (updo (args0 [v, uv]) (some 4) (.slice none 0 0)) (some 11) v) (some 12) (.int .u32 (knownP fs : Nat))) (some 5) (.int .u32 (knownP fs : Nat))) (some 6) (.slice none 0 0)) (some 13) uv) (some 14) uv) (some 15) (.int .i64 u.length)) (some 16) (.int .i64 ((min u.length 32767 : Nat) : Int)))
    (by simp) (by simp) hu1 (by omega)
  rw [flatten_take _ _ hur.two] at h1
  obtain ⟨tb, tc, etv⟩ := h1.shape
  refine go1 (v := tv) rfl e1 ?_
  refine go1 (v := .int .i64 ((min u.length 32767 : Nat) : Int)) rfl (by simp [etv]) ?_
  refine go1 rfl rfl (wpR_done ?_)
  have hN : w.heap.size ≤ w1.heap.size := hm1.size
  have hlo : RepU (fun b => b < N) w1 (u.take (min u.length 32767)) (uss.take (min u.length 32767)) := (hur.mod hm1 (by simp) fun _ _ h => h).take _
  have eu2 : u.take (min u.length 32767) = u.take 32767 := by
    by_cases hl : u.length ≤ 32767
    · rw [Nat.min_eq_left hl, List.take_of_length_le (Nat.le_refl _), List.take_of_length_le hl]
    · rw [Nat.min_eq_right (by omega)]
  refine rangeLoop (n := min u.length 32767) (fun j σ w' => σ 17 = tv ∧ σ 19 = .int .i64 (j : Nat) ∧ σ 18 = .int .i64 ((min u.length 32767 : Nat) : Int) ∧ σ 5 = .int .u32 (knownP fs : Nat) ∧ ∃ ucs, UQO N w1 w' (σ 6) (((u.take 32767).take j).foldl (unkStep (knownP fs)) []) ucs)
    (by omega) (by omega) (fun j σ w h => ⟨h.2.1, h.2.2.1⟩) ?_ ?_ ?_
  · refine ⟨by simp, by simp, by simp, by simp, [], ⟨⟨by simp, .inl ⟨by simp, rfl⟩⟩, by simp; exact .nil, Nat.le_trans hN0 hN, Mod.refl _ _⟩⟩
  · rintro j σ w2 hj ⟨h17, h19, h18, h5, ucs, hq⟩
    have hjl : j < (u.take 32767).length := by rw [← eu2]; simp; omega
    obtain ⟨t, ht'⟩ : ∃ t, (u.take 32767)[j]? = some t := ⟨_, List.getElem?_eq_getElem hjl⟩
    obtain ⟨sv, hcs, hsv⟩ := hlo.nth (t := t) (by rw [eu2]; exact ht')
    obtain ⟨a, c, ea, hjn, hcell⟩ := h1.flat (by have := hur.length; simp; omega) (fun c hc => hur.two c (List.mem_of_mem_take hc)) hcs
    rw [etv] at ea
    simp only [Value.slice.injEq, true_and] at ea
    obtain ⟨ea, ec⟩ := ea
    subst ea
    have hcell2 := cellsAt_below hq.mod.below _ _ _ hcell
    have hsv2 : SlC (fun b => b < N) w2 sv t.2.length (u8s t.2) := hsv.mod hq.mod (by simp) fun _ _ h => h
    have hol : (((u.take 32767).take j).foldl (unkStep (knownP fs)) []).length < 2147483647 := by
      have := unk_length (knownP fs) ((u.take 32767).take j) []
      simp at this; omega
    refine unk_bodyO (w0 := w1) (least := knownP fs) (k := t.1) (b := t.2) (n := min u.length 32767) (lv := σ 6) (a := a) (c := tc) (by simp [h5]) (by simp) (by simp [h17, etv]) (by simp [h19]) hj hq hcell2 hsv2 hol fun σ' w' lv' ucs' hfr e6 hq' => ?_
    have key : σ' 19 = .int .i64 (j : Nat) ∧ (upd (upd σ' 83 (.int .i64 ((j + 1 : Nat) : Int))) 19 (.int .i64 ((j + 1 : Nat) : Int))) 17 = tv ∧ (upd (upd σ' 83 (.int .i64 ((j + 1 : Nat) : Int))) 19 (.int .i64 ((j + 1 : Nat) : Int))) 19 = .int .i64 ((j + 1 : Nat) : Int) ∧
        (upd (upd σ' 83 (.int .i64 ((j + 1 : Nat) : Int))) 19 (.int .i64 ((j + 1 : Nat) : Int))) 18 = .int .i64 ((min u.length 32767 : Nat) : Int) ∧ (upd (upd σ' 83 (.int .i64 ((j + 1 : Nat) : Int))) 19 (.int .i64 ((j + 1 : Nat) : Int))) 5 = .int .u32 (knownP fs : Nat) ∧
        ∃ ucs, UQO N w1 w' ((upd (upd σ' 83 (.int .i64 ((j + 1 : Nat) : Int))) 19 (.int .i64 ((j + 1 : Nat) : Int))) 6) (((u.take 32767).take (j + 1)).foldl (unkStep (knownP fs)) []) ucs := by
      have g : ∀ s, s < 23 → s ≠ 6 → s ≠ 8 → s ≠ 9 → s ≠ 10 → s ≠ 21 → s ≠ 22 → s ≠ 20 → σ' s = σ s := fun s s1 s2 s3 s4 s5 s6 s7 s8 => by
        rw [hfr s s1 s2 s3 s4 s5 s6 s7]; simp [upd, s8]
      refine ⟨by rw [g 19 (by omega) (by omega) (by omega) (by omega) (by omega) (by omega) (by omega) (by omega)]; exact h19, ?_, by simp, ?_, ?_, ucs', ?_⟩
      · simp only [upd]; rw [if_neg (by omega), if_neg (by omega), g 17 (by omega) (by omega) (by omega) (by omega) (by omega) (by omega) (by omega) (by omega)]; exact h17
      · simp only [upd]; rw [if_neg (by omega), if_neg (by omega), g 18 (by omega) (by omega) (by omega) (by omega) (by omega) (by omega) (by omega) (by omega)]; exact h18
      · simp only [upd]; rw [if_neg (by omega), if_neg (by omega), g 5 (by omega) (by omega) (by omega) (by omega) (by omega) (by omega) (by omega) (by omega)]; exact h5
      · rw [take_succ_of ht', List.foldl_append]
        simp only [upd, List.foldl_cons, List.foldl_nil]
        rw [if_neg (by omega), if_neg (by omega), e6]
        exact hq'
    exact ⟨by simp only [rngP, if_true]; exact key, by simp only [rngP]; exact key⟩
  · rintro σ w2 ⟨h17, h19, h18, h5, ucs, hq⟩
    have e : (u.take 32767).take (min u.length 32767) = u.take 32767 := List.take_of_length_le (by simp; omega)
    rw [e] at hq
    simp only [thenC]
    rw [wpC_seq, wpC_blk]
    refine go1 (v := σ 6) rfl (by simp) ?_
    refine go1 (v := σ 6) rfl (by simp) (wpR_done (ret1 (v := σ 6) (by simp) ⟨_, ucs, rfl, ?_, hq.rep, hm1.trans hq.mod⟩))
    have := (hq.raw.slcN).mod (ok' := fun b => w.heap.size ≤ b) (Mod.refl [] _) (by simp) fun b _ hb => Nat.le_trans hm1.size hb
    rw [hq.rep.length.symm] at this
    exact this
theorem at_callO (hm : P.follows .mixedOrders = true) (h : liftF P (F sAt) = some (ir_sAt F)) {ok : Nat → Prop} {w : World} {t : TR} {ts : List Value} {i : Nat} (ht : RepT ok w t ts) :
    Calls P (F sAt) [.agg ts.toArray, .int .i64 (i : Nat)].toArray w fun e w' => ∃ cs, e = .returned (.agg cs.toArray) ∧ RepT ok w' (t.at i) cs ∧ Mod [] w w' := by
  cases ht with
  | @mk n s tnull l u sv lv uv css uss g1 g2 g3 g4 g5 =>
  unfold ir_sAt at h
  refine call_of h hm (by simp) ?_
  clear h
  rw [wpC_seq, wpC_blk]
  refine goBox rfl fun w1 hb1 hm1 => ?_
  refine goAlloc fun w2 hb2 hm2 => ?_
  have hm12 := hm1.trans hm2
  have c1 := fun k => (hb1.mod hm2 (by simp)).cell k
  refine wpR_done ?_
  obtain ⟨lb, lc, elv⟩ := g2.shape
  rw [wpC_seq, wpC_seq, wpC_blk]
  have key : ∀ σ : Sl, σ 4 = .pointer (some ⟨w1.heap.size, 0, none⟩) → l[i]? = none → wpC P (.seq (.blk [⟨(some (15)), .build [.int .i64 0, .slice none 0 0, .bool false, .slice none 0 0, .slice none 0 0] [], none⟩,
      ⟨none, .st (.tmp 4) 5 (.tmp 15), none⟩]) .ret) (postC [.cells 4 5] fun e w' => ∃ cs, e = .returned (.agg cs.toArray) ∧ RepT ok w' ((TR.mk n s tnull l u).at i) cs ∧ Mod [] w w') σ w2 := by
    intro σ h4 hn
    rw [wpC_seq, wpC_blk]
    refine go1 (v := .agg tzero.toArray) rfl rfl ?_
    refine goSt (b := w1.heap.size) (v := .agg tzero.toArray) (by simp [h4]) (by simp) hb2 rfl rfl (by simp [tzero, Value.oneCell']) fun w3 hb3 hm3 => ?_
    refine wpR_done (retN (by simpa using h4) hb3 rfl ⟨_, rfl, ?_, ?_⟩)
    · have : (TR.mk n s tnull l u).at i = TR.zero := by simp [TR.at, TR.l, hn]
      rw [this]; exact RepT.zero
    · exact Mod.drop (b := w1.heap.size) (S := []) (hm12.nil.trans hm3) hm1.size
  iterate 4 (apply go1 rfl; (· simp [c1, elv] <;> rfl))
  refine go1 (v := .bool (decide ((i : Int) < l.length))) rfl (by simp) ?_
  refine wpR_done ?_
  by_cases hi : i < l.length
  · rw [wpC_cond_t (by simp [hi]), wpC_seq, wpC_blk]
    obtain ⟨t', ht'⟩ : ∃ t', l[i]? = some t' := ⟨l[i], by simp [hi]⟩
    obtain ⟨cs, hcs, hrep⟩ := g3.nth ht'
    obtain ⟨a, c, ea, hj, hcell⟩ := g2.flat (g3.length) (g3.five) hcs
    have hcell2 : cellsAt w2 (a.add (i * 5)) 0 5 = some cs := cellsAt_below hm12.below _ _ _ hcell
    rw [elv] at ea
    simp only [Value.slice.injEq, true_and] at ea
    obtain ⟨ea, ec⟩ := ea
    subst ea
    iterate 3 (apply go1 rfl; (· simp [c1, elv] <;> rfl))
    refine go1 (v := .pointer (some (a.add (i * 5)))) rfl (by simp [hi]) ?_
    refine go1 (v := .agg cs.toArray) rfl (by simp [hcell2]) ?_
    refine goSt (b := w1.heap.size) (v := .agg cs.toArray) (by simp) (by simp) hb2 (by simp [hrep.five]) rfl (by simpa using hrep.oneCell) fun w3 hb3 hm3 => ?_
    have hm123 : Mod [] w w3 := Mod.drop (b := w1.heap.size) (S := []) (hm12.nil.trans hm3) hm1.size
    refine wpR_done (retThen (retN (cs := cs) (b := w1.heap.size) (by simp) (by simpa using hb3) hrep.five ⟨cs, rfl, ?_, hm123⟩))
    have : (TR.mk n s tnull l u).at i = t' := by simp [TR.at, TR.l, ht']
    rw [this]
    exact hrep.mod hm123 (by simp) fun _ _ h => h
  · rw [wpC_cond_f (by simp; omega), wpC_skip]
    exact key _ (by simp) (by simp; omega)
end
end Go.Msk

namespace Go.Msk
set_option maxRecDepth 100000
def ir_sFit_1 (F : Nat → Nat) : IC := (.seq (.blk [⟨some 17, .mv (.tmp 15), none⟩,
 ⟨some 18, .iad (.tmp 13) (.tmp 15) 8, none⟩,
 ⟨some 19, .ldn (.tmp 18) 8, none⟩,
 ⟨some 9, .alloc [.int .i64 0, .int .i64 0, .int .i64 0, .int .i64 0, .int .i64 0, .int .i64 0, .int .i64 0, .slice none 0 0], none⟩,
 ⟨some 8, .mv (.tmp 17), none⟩,
 ⟨none, .st (.tmp 9) 8 (.tmp 19), none⟩])
 (.drw [⟨⟨some 20, .fad (.tmp 7) 3, none⟩, false, []⟩,
 ⟨⟨some 21, .ld (.tmp 20), none⟩, false, []⟩,
 ⟨⟨some 22, .ldn (.tmp 9) 8, none⟩, false, []⟩,
 ⟨⟨some 23, .mv (.tmp 1), none⟩, false, []⟩,
 ⟨⟨some 24, .ldn (.tmp 5) 5, none⟩, false, []⟩,
 ⟨⟨some 25, .mv (.tmp 8), none⟩, false, []⟩,
 ⟨⟨some 26, .call (F sAt) [.tmp 24, .tmp 25], none⟩, true, []⟩,
 ⟨⟨some 27, .call (F sFitted) [.tmp 22, .tmp 23, .tmp 26], none⟩, true, [6]⟩,
 ⟨⟨some 28, .bslice 1 [.int .i64 0, .slice none 0 0, .bool false, .slice none 0 0, .slice none 0 0] [(0, 5, .tmp 27)], none⟩, true, [6, 7]⟩]
 [⟨some 29, .append (.tmp 21) (.tmp 28) 5 88, none⟩,
 ⟨some 30, .fad (.tmp 7) 3, none⟩,
 ⟨none, .st (.tmp 30) 1 (.tmp 29), none⟩]))
def ir_sFit_2 (F : Nat → Nat) : IC := (.seq (.blk [⟨some 39, .iad (.tmp 35) (.tmp 37) 2, none⟩,
 ⟨some 40, .ldn (.tmp 39) 2, none⟩,
 ⟨some 11, .alloc [.int .u32 0, .slice none 0 0], none⟩,
 ⟨none, .st (.tmp 11) 2 (.tmp 40), none⟩])
 (.drw [⟨⟨some 41, .fad (.tmp 7) 4, none⟩, false, []⟩,
 ⟨⟨some 42, .ld (.tmp 41), none⟩, false, []⟩,
 ⟨⟨some 43, .fad (.tmp 11) 0, none⟩, false, []⟩,
 ⟨⟨some 44, .ld (.tmp 43), none⟩, false, []⟩,
 ⟨⟨some 45, .fad (.tmp 11) 1, none⟩, false, []⟩,
 ⟨⟨some 46, .ld (.tmp 45), none⟩, false, []⟩,
 ⟨⟨some 47, .call (F sWhole) [.tmp 46], none⟩, true, []⟩,
 ⟨⟨some 48, .build [.int .u32 0, .slice none 0 0] [(0, 1, .tmp 44), (1, 1, .tmp 47)], none⟩, false, [6]⟩,
 ⟨⟨some 49, .bslice 1 [.int .u32 0, .slice none 0 0] [(0, 2, .tmp 48)], none⟩, true, [6]⟩]
 [⟨some 50, .append (.tmp 42) (.tmp 49) 2 32, none⟩,
 ⟨some 51, .fad (.tmp 7) 4, none⟩,
 ⟨none, .st (.tmp 51) 1 (.tmp 50), none⟩]))
def ir_sFit (F : Nat → Nat) : IC × List RV × Nat := (.seq (.blk [⟨some 5, .box (.tmp 2), none⟩,
 ⟨some 6, .alloc [.int .i64 0, .slice none 0 0, .bool false, .slice none 0 0, .slice none 0 0], none⟩])
 (.seq (.blk [⟨some 12, .build [.int .i64 0, .slice none 0 0, .bool false, .slice none 0 0, .slice none 0 0] [], none⟩,
 ⟨some 7, .alloc [.int .i64 0, .slice none 0 0, .bool false, .slice none 0 0, .slice none 0 0], none⟩,
 ⟨none, .st (.tmp 7) 5 (.tmp 12), none⟩])
 (.seq (.seq (.blk [⟨some 13, .mv (.tmp 0), none⟩,
 ⟨some 14, .len (.tmp 13), none⟩,
 ⟨some 15, .mv (.const (.int .i64 0)), none⟩])
 (.block 0 (.loop (.seq (.blk [⟨some 16, .bin .lss (.tmp 15) (.tmp 14), none⟩])
 (.seq (.cond (.tmp 16)
 (.skip)
 (.exit 0))
 (.seq (.block 1 (ir_sFit_1 F))
 (.blk [⟨some 31, .bin .add (.tmp 15) (.const (.int .i64 1)), none⟩,
 ⟨some 15, .mv (.tmp 31), none⟩])))))))
 (.seq (.seq (.blk [⟨some 32, .mv (.tmp 0), none⟩,
 ⟨some 33, .fad (.tmp 5) 4, none⟩,
 ⟨some 34, .ld (.tmp 33), none⟩,
 ⟨some 35, .call (F sUnknown) [.tmp 32, .tmp 34], none⟩,
 ⟨some 36, .len (.tmp 35), none⟩,
 ⟨some 37, .mv (.const (.int .i64 0)), none⟩])
 (.block 2 (.loop (.seq (.blk [⟨some 38, .bin .lss (.tmp 37) (.tmp 36), none⟩])
 (.seq (.cond (.tmp 38)
 (.skip)
 (.exit 2))
 (.seq (.block 3 (ir_sFit_2 F))
 (.blk [⟨some 52, .bin .add (.tmp 37) (.const (.int .i64 1)), none⟩,
 ⟨some 37, .mv (.tmp 52), none⟩])))))))
 (.seq (.blk [⟨some 53, .ldn (.tmp 7) 5, none⟩,
 ⟨none, .st (.tmp 6) 5 (.tmp 53), none⟩])
 (.ret))))),
 [.cells 6 5], 54)
def ir_sFitted_1 (F : Nat → Nat) : IC := (.blk [⟨some 39, .mv (.tmp 7), none⟩,
 ⟨some 40, .mv (.tmp 39), none⟩,
 ⟨some 41, .fad (.tmp 3) 4, some (40, false)⟩,
 ⟨some 42, .ld (.tmp 41), some (40, false)⟩,
 ⟨some 43, .bin .geq (.tmp 42) (.const (.int .i64 0)), some (40, false)⟩,
 ⟨some 44, .mv (.tmp 43), some (40, false)⟩,
 ⟨some 45, .fad (.tmp 5) 3, some (44, true)⟩,
 ⟨some 46, .ld (.tmp 45), some (44, true)⟩,
 ⟨some 47, .len (.tmp 46), some (44, true)⟩,
 ⟨some 48, .bin .eql (.tmp 47) (.const (.int .i64 0)), some (44, true)⟩,
 ⟨some 49, .pick (.tmp 44) (.tmp 48) (.const (.bool false)), some (40, false)⟩,
 ⟨some 50, .pick (.tmp 40) (.const (.bool true)) (.tmp 49), none⟩,
 ⟨some 51, .build [.int .i64 0, .slice none 0 0, .bool false, .slice none 0 0, .slice none 0 0] [(2, 1, .tmp 50)], none⟩,
 ⟨some 9, .alloc [.int .i64 0, .slice none 0 0, .bool false, .slice none 0 0, .slice none 0 0], none⟩,
 ⟨none, .st (.tmp 9) 5 (.tmp 51), none⟩])
def ir_sFitted_2 (F : Nat → Nat) : IC := (.seq (.blk [⟨some 64, .iad (.tmp 60) (.tmp 62) 5, none⟩,
 ⟨some 65, .ldn (.tmp 64) 5, none⟩,
 ⟨some 12, .alloc [.int .i64 0, .slice none 0 0, .bool false, .slice none 0 0, .slice none 0 0], none⟩,
 ⟨none, .st (.tmp 12) 5 (.tmp 65), none⟩])
 (.drw [⟨⟨some 66, .fad (.tmp 9) 3, none⟩, false, []⟩,
 ⟨⟨some 67, .ld (.tmp 66), none⟩, false, []⟩,
 ⟨⟨some 68, .ldn (.tmp 10) 8, none⟩, false, []⟩,
 ⟨⟨some 69, .mv (.tmp 1), none⟩, false, []⟩,
 ⟨⟨some 70, .ldn (.tmp 12) 5, none⟩, false, []⟩,
 ⟨⟨some 71, .call (F sFitted) [.tmp 68, .tmp 69, .tmp 70], none⟩, true, []⟩,
 ⟨⟨some 72, .bslice 1 [.int .i64 0, .slice none 0 0, .bool false, .slice none 0 0, .slice none 0 0] [(0, 5, .tmp 71)], none⟩, true, [5]⟩]
 [⟨some 73, .append (.tmp 67) (.tmp 72) 5 88, none⟩,
 ⟨some 74, .fad (.tmp 9) 3, none⟩,
 ⟨none, .st (.tmp 74) 1 (.tmp 73), none⟩]))
def ir_sFitted_3 (F : Nat → Nat) : IC := (.seq (ir_sFitted_1 F)
 (.seq (.blk [⟨some 52, .ldn (.tmp 3) 8, none⟩,
 ⟨some 10, .alloc [.int .i64 0, .int .i64 0, .int .i64 0, .int .i64 0, .int .i64 0, .int .i64 0, .int .i64 0, .slice none 0 0], none⟩,
 ⟨none, .st (.tmp 10) 8 (.tmp 52), none⟩])
 (.seq (.blk [⟨some 53, .fad (.tmp 3) 6, none⟩,
 ⟨some 54, .ld (.tmp 53), none⟩,
 ⟨some 55, .fad (.tmp 10) 0, none⟩,
 ⟨none, .st (.tmp 55) 1 (.tmp 54), none⟩,
 ⟨some 56, .fad (.tmp 10) 3, none⟩,
 ⟨none, .st (.tmp 56) 1 (.const (.int .i64 (-1))), none⟩,
 ⟨some 57, .fad (.tmp 10) 4, none⟩,
 ⟨none, .st (.tmp 57) 1 (.const (.int .i64 (-1))), none⟩])
 (.seq (.seq (.blk [⟨some 58, .fad (.tmp 5) 3, none⟩,
 ⟨some 59, .ld (.tmp 58), none⟩,
 ⟨some 60, .call (F sThings) [.tmp 59], none⟩,
 ⟨some 61, .len (.tmp 60), none⟩,
 ⟨some 62, .mv (.const (.int .i64 0)), none⟩])
 (.block 1 (.loop (.seq (.blk [⟨some 63, .bin .lss (.tmp 62) (.tmp 61), none⟩])
 (.seq (.cond (.tmp 63)
 (.skip)
 (.exit 1))
 (.seq (.block 2 (ir_sFitted_2 F))
 (.blk [⟨some 75, .bin .add (.tmp 62) (.const (.int .i64 1)), none⟩,
 ⟨some 62, .mv (.tmp 75), none⟩])))))))
 (.seq (.blk [⟨some 76, .ldn (.tmp 9) 5, none⟩,
 ⟨none, .st (.tmp 6) 5 (.tmp 76), none⟩])
 (.ret))))))
def ir_sFitted_4 (F : Nat → Nat) : IC := (.seq (.blk [⟨some 28, .bin .eql (.tmp 18) (.const (.int .i64 10)), none⟩,
 ⟨some 27, .mv (.tmp 28), none⟩])
 (.cond (.tmp 27)
 (.seq (.blk [⟨some 29, .fad (.tmp 3) 7, none⟩,
 ⟨some 30, .ld (.tmp 29), none⟩,
 ⟨some 31, .mv (.tmp 1), none⟩,
 ⟨some 32, .ldn (.tmp 5) 5, none⟩,
 ⟨some 33, .call (F sFit) [.tmp 30, .tmp 31, .tmp 32], none⟩,
 ⟨some 8, .alloc [.int .i64 0, .slice none 0 0, .bool false, .slice none 0 0, .slice none 0 0], none⟩,
 ⟨none, .st (.tmp 8) 5 (.tmp 33), none⟩])
 (.seq (.blk [⟨some 34, .mv (.tmp 7), none⟩,
 ⟨some 35, .fad (.tmp 8) 2, none⟩,
 ⟨none, .st (.tmp 35) 1 (.tmp 34), none⟩])
 (.seq (.blk [⟨some 36, .ldn (.tmp 8) 5, none⟩,
 ⟨none, .st (.tmp 6) 5 (.tmp 36), none⟩])
 (.ret))))
 (.seq (.blk [⟨some 38, .bin .eql (.tmp 18) (.const (.int .i64 11)), none⟩,
 ⟨some 37, .mv (.tmp 38), none⟩])
 (.cond (.tmp 37)
 (ir_sFitted_3 F)
 (.skip)))))
def ir_sFitted_5 (F : Nat → Nat) : IC := (.seq (.blk [⟨some 17, .fad (.tmp 3) 0, none⟩,
 ⟨some 18, .ld (.tmp 17), none⟩])
 (.block 0 (.seq (.seq (.blk [⟨some 20, .bin .eql (.tmp 18) (.const (.int .i64 8)), none⟩,
 ⟨some 19, .mv (.tmp 20), none⟩])
 (.cond (.tmp 19)
 (.skip)
 (.blk [⟨some 21, .bin .eql (.tmp 18) (.const (.int .i64 9)), none⟩,
 ⟨some 19, .mv (.tmp 21), none⟩])))
 (.cond (.tmp 19)
 (.seq (.blk [⟨some 22, .fad (.tmp 5) 1, none⟩,
 ⟨some 23, .ld (.tmp 22), none⟩,
 ⟨some 24, .call (F sWhole) [.tmp 23], none⟩,
 ⟨some 25, .mv (.tmp 7), none⟩,
 ⟨some 26, .build [.int .i64 0, .slice none 0 0, .bool false, .slice none 0 0, .slice none 0 0] [(1, 1, .tmp 24), (2, 1, .tmp 25)], none⟩,
 ⟨none, .st (.tmp 6) 5 (.tmp 26), none⟩])
 (.ret))
 (ir_sFitted_4 F)))))
def ir_sFitted (F : Nat → Nat) : IC × List RV × Nat := (.seq (.blk [⟨some 3, .box (.tmp 0), none⟩,
 ⟨some 5, .box (.tmp 2), none⟩,
 ⟨some 6, .alloc [.int .i64 0, .slice none 0 0, .bool false, .slice none 0 0, .slice none 0 0], none⟩])
 (.seq (.blk [⟨some 13, .ldn (.tmp 3) 8, none⟩,
 ⟨some 14, .mv (.tmp 1), none⟩,
 ⟨some 15, .ldn (.tmp 5) 5, none⟩,
 ⟨some 16, .call (F sNull) [.tmp 13, .tmp 14, .tmp 15], none⟩,
 ⟨some 7, .mv (.tmp 16), none⟩])
 (.seq (ir_sFitted_5 F)
 (.seq (.blk [⟨some 77, .fad (.tmp 5) 0, none⟩,
 ⟨some 78, .ld (.tmp 77), none⟩,
 ⟨some 79, .fad (.tmp 5) 1, none⟩,
 ⟨some 80, .ld (.tmp 79), none⟩,
 ⟨some 81, .build [.int .i64 0, .slice none 0 0, .bool false, .slice none 0 0, .slice none 0 0] [(0, 1, .tmp 78), (1, 1, .tmp 80)], none⟩,
 ⟨none, .st (.tmp 6) 5 (.tmp 81), none⟩])
 (.ret)))),
 [.cells 6 5], 82)
def ir_lGiven_1 (F : Nat → Nat) : IC := (.seq (.blk [⟨some 20, .iad (.tmp 16) (.tmp 18) 5, none⟩,
 ⟨some 21, .ldn (.tmp 20) 5, none⟩,
 ⟨some 5, .alloc [.int .i64 0, .slice none 0 0, .bool false, .slice none 0 0, .slice none 0 0], none⟩,
 ⟨none, .st (.tmp 5) 5 (.tmp 21), none⟩])
 (.drw [⟨⟨some 22, .fad (.tmp 3) 3, none⟩, false, []⟩,
 ⟨⟨some 23, .ld (.tmp 22), none⟩, false, []⟩,
 ⟨⟨some 24, .ldn (.tmp 5) 5, none⟩, false, []⟩,
 ⟨⟨some 25, .call (F lGiven) [.tmp 24], none⟩, true, []⟩,
 ⟨⟨some 26, .bslice 1 [.int .i64 0, .slice none 0 0, .bool false, .slice none 0 0, .slice none 0 0] [(0, 5, .tmp 25)], none⟩, true, [3]⟩]
 [⟨some 27, .append (.tmp 23) (.tmp 26) 5 88, none⟩,
 ⟨some 28, .fad (.tmp 3) 3, none⟩,
 ⟨none, .st (.tmp 28) 1 (.tmp 27), none⟩]))
def ir_lGiven_2 (F : Nat → Nat) : IC := (.seq (.blk [⟨some 35, .iad (.tmp 31) (.tmp 33) 2, none⟩,
 ⟨some 36, .ldn (.tmp 35) 2, none⟩,
 ⟨some 7, .alloc [.int .u32 0, .slice none 0 0], none⟩,
 ⟨none, .st (.tmp 7) 2 (.tmp 36), none⟩])
 (.blk [⟨some 37, .fad (.tmp 3) 4, none⟩,
 ⟨some 38, .ld (.tmp 37), none⟩,
 ⟨some 39, .fad (.tmp 7) 0, none⟩,
 ⟨some 40, .ld (.tmp 39), none⟩,
 ⟨some 41, .fad (.tmp 7) 1, none⟩,
 ⟨some 42, .ld (.tmp 41), none⟩,
 ⟨some 43, .build [.int .u32 0, .slice none 0 0] [(0, 1, .tmp 40), (1, 1, .tmp 42)], none⟩,
 ⟨some 44, .bslice 1 [.int .u32 0, .slice none 0 0] [(0, 2, .tmp 43)], none⟩,
 ⟨some 45, .append (.tmp 38) (.tmp 44) 2 32, none⟩,
 ⟨some 46, .fad (.tmp 3) 4, none⟩,
 ⟨none, .st (.tmp 46) 1 (.tmp 45), none⟩]))
def ir_lGiven (F : Nat → Nat) : IC × List RV × Nat := (.seq (.blk [⟨some 1, .box (.tmp 0), none⟩,
 ⟨some 2, .alloc [.int .i64 0, .slice none 0 0, .bool false, .slice none 0 0, .slice none 0 0], none⟩])
 (.seq (.blk [⟨some 8, .fad (.tmp 1) 0, none⟩,
 ⟨some 9, .ld (.tmp 8), none⟩,
 ⟨some 10, .fad (.tmp 1) 1, none⟩,
 ⟨some 11, .ld (.tmp 10), none⟩,
 ⟨some 12, .fad (.tmp 1) 2, none⟩,
 ⟨some 13, .ld (.tmp 12), none⟩,
 ⟨some 14, .build [.int .i64 0, .slice none 0 0, .bool false, .slice none 0 0, .slice none 0 0] [(0, 1, .tmp 9), (1, 1, .tmp 11), (2, 1, .tmp 13)], none⟩,
 ⟨some 3, .alloc [.int .i64 0, .slice none 0 0, .bool false, .slice none 0 0, .slice none 0 0], none⟩,
 ⟨none, .st (.tmp 3) 5 (.tmp 14), none⟩])
 (.seq (.seq (.blk [⟨some 15, .fad (.tmp 1) 3, none⟩,
 ⟨some 16, .ld (.tmp 15), none⟩,
 ⟨some 17, .len (.tmp 16), none⟩,
 ⟨some 18, .mv (.const (.int .i64 0)), none⟩])
 (.block 0 (.loop (.seq (.blk [⟨some 19, .bin .lss (.tmp 18) (.tmp 17), none⟩])
 (.seq (.cond (.tmp 19)
 (.skip)
 (.exit 0))
 (.seq (.block 1 (ir_lGiven_1 F))
 (.blk [⟨some 29, .bin .add (.tmp 18) (.const (.int .i64 1)), none⟩,
 ⟨some 18, .mv (.tmp 29), none⟩])))))))
 (.seq (.seq (.blk [⟨some 30, .fad (.tmp 1) 4, none⟩,
 ⟨some 31, .ld (.tmp 30), none⟩,
 ⟨some 32, .len (.tmp 31), none⟩,
 ⟨some 33, .mv (.const (.int .i64 0)), none⟩])
 (.block 2 (.loop (.seq (.blk [⟨some 34, .bin .lss (.tmp 33) (.tmp 32), none⟩])
 (.seq (.cond (.tmp 34)
 (.skip)
 (.exit 2))
 (.seq (.block 3 (ir_lGiven_2 F))
 (.blk [⟨some 47, .bin .add (.tmp 33) (.const (.int .i64 1)), none⟩,
 ⟨some 33, .mv (.tmp 47), none⟩])))))))
 (.seq (.blk [⟨some 48, .ldn (.tmp 3) 5, none⟩,
 ⟨none, .st (.tmp 2) 5 (.tmp 48), none⟩])
 (.ret))))),
 [.cells 2 5], 49)
def ir_iAt (F : Nat → Nat) : IC × List RV × Nat := (.seq (.blk [⟨some 2, .box (.tmp 0), none⟩,
 ⟨some 4, .alloc [.int .i64 0, .slice none 0 0, .bool false, .slice none 0 0, .slice none 0 0], none⟩])
 (.seq (.seq (.blk [⟨some 5, .mv (.tmp 1), none⟩,
 ⟨some 6, .fad (.tmp 2) 3, none⟩,
 ⟨some 7, .ld (.tmp 6), none⟩,
 ⟨some 8, .len (.tmp 7), none⟩,
 ⟨some 9, .bin .lss (.tmp 5) (.tmp 8), none⟩])
 (.cond (.tmp 9)
 (.seq (.blk [⟨some 10, .fad (.tmp 2) 3, none⟩,
 ⟨some 11, .ld (.tmp 10), none⟩,
 ⟨some 12, .mv (.tmp 1), none⟩,
 ⟨some 13, .iad (.tmp 11) (.tmp 12) 5, none⟩,
 ⟨some 14, .ldn (.tmp 13) 5, none⟩,
 ⟨none, .st (.tmp 4) 5 (.tmp 14), none⟩])
 (.ret))
 (.skip)))
 (.seq (.blk [⟨some 15, .build [.int .i64 0, .slice none 0 0, .bool false, .slice none 0 0, .slice none 0 0] [], none⟩,
 ⟨none, .st (.tmp 4) 5 (.tmp 15), none⟩])
 (.ret))),
 [.cells 4 5], 16)
def ir_iSixteen (F : Nat → Nat) : IC × List RV × Nat := (.seq (.blk [⟨some 2, .alloc [.int .u8 0, .int .u8 0, .int .u8 0, .int .u8 0, .int .u8 0, .int .u8 0, .int .u8 0, .int .u8 0, .int .u8 0, .int .u8 0, .int .u8 0, .int .u8 0, .int .u8 0, .int .u8 0, .int .u8 0, .int .u8 0], none⟩])
 (.seq (.blk [⟨some 3, .slicea (.tmp 2) 16, none⟩,
 ⟨some 4, .mv (.tmp 0), none⟩,
 ⟨some 5, .copy (.tmp 3) (.tmp 4) 1, none⟩])
 (.seq (.blk [⟨some 6, .ldn (.tmp 2) 16, none⟩,
 ⟨none, .st (.tmp 2) 16 (.tmp 6), none⟩])
 (.ret))),
 [.cells 2 16], 7)
end Go.Msk

namespace Go.Msk
open Go.RowKit
set_option maxRecDepth 100000
def fitV (kind : Int) (part : TR → TR) (null : Bool) (t : TR) : TR :=
  if kind = 8 ∨ kind = 9 then .mk 0 (wholeP t.s) null [] []
  else if kind = 10 then .mk (part t).n (part t).s null (part t).l (part t).u
  else .mk t.n t.s false [] []
def fitU (fs : List FD) (u : List (Nat × List UInt8)) : List (Nat × List UInt8) := (unknownP fs u).map fun p => (p.1, wholeP p.2)
mutual
/-- A field that fits. -/
def FD.fit (ver : Int) : FD → TR → TR
  | .mk kind frm to null tag dfl of sub, t =>
    if kind = 11 then .mk 0 [] (FD.nullV (.mk kind frm to null tag dfl of sub) ver t || (decide (tag ≥ 0) && decide (t.l.length = 0))) ((t.l.take 32767).map (fitV of (fun y => .mk 0 [] false (fitL ver sub 0 y) (fitU sub y.u)) false)) []
    else fitV kind (fun y => .mk 0 [] false (fitL ver sub 0 y) (fitU sub y.u)) (FD.nullV (.mk kind frm to null tag dfl of sub) ver t) t
/-- Fields that fit. -/
def fitL (ver : Int) : List FD → Nat → TR → List TR
  | [], _, _ => []
  | f :: r, i, t => f.fit ver (t.at i) :: fitL ver r (i + 1) t
end
def fitT (ver : Int) (fs : List FD) (t : TR) : TR := .mk 0 [] false (fitL ver fs 0 t) (fitU fs t.u)
theorem fitL_length (ver : Int) : ∀ (fs : List FD) (i : Nat) (t : TR), (fitL ver fs i t).length = fs.length
  | [], _, _ => rfl
  | f :: r, i, t => by simp [fitL, fitL_length ver r]
theorem fitL_get (ver : Int) (t : TR) : ∀ (fs : List FD) (i j : Nat) (f : FD), fs[j]? = some f → (fitL ver fs i t)[j]? = some (f.fit ver (t.at (i + j)))
  | [], _, _, _, h => by simp at h
  | g :: r, i, 0, f, h => by simp at h; subst h; simp [fitL]
  | g :: r, i, j + 1, f, h => by
    simp only [List.getElem?_cons_succ] at h
    have := fitL_get ver t r (i + 1) j f h
    simp only [fitL, List.getElem?_cons_succ, this]
    congr 3; omega
def FitC (P : Program) (F : Nat → Nat) (fds : List FD) : Prop :=
  ∀ (N : Nat) (w : World) (sv : Value) (css : List (List Value)) (ver : Int) (t : TR) (ts : List Value), N ≤ w.heap.size → SlC anyB w sv fds.length css.flatten → RepFL anyB w fds css → RepT (fun b => b < N) w t ts →
    Calls P (F sFit) [sv, .int .i64 ver, .agg ts.toArray].toArray w fun e w' => ∃ cs', e = .returned (.agg cs'.toArray) ∧ RepT (fun b => b < N ∨ w.heap.size ≤ b) w' (fitT ver fds t) cs' ∧ Mod [] w w'
def FitdC (P : Program) (F : Nat → Nat) (f : FD) : Prop :=
  ∀ (N : Nat) (w : World) (fcs : List Value) (ver : Int) (t : TR) (ts : List Value), N ≤ w.heap.size → RepF anyB w f fcs → RepT (fun b => b < N) w t ts →
    Calls P (F sFitted) [.agg fcs.toArray, .int .i64 ver, .agg ts.toArray].toArray w fun e w' => ∃ cs', e = .returned (.agg cs'.toArray) ∧ RepT (fun b => b < N ∨ w.heap.size ≤ b) w' (f.fit ver t) cs' ∧ Mod [] w w'
theorem GU.same {w3 w w' : World} {Ob : Nat} {n : Int} {sv lv uv : Value} {null : Bool} {N : Nat} {us : List (Nat × List UInt8)} {ucs : List (List Value)} (h : GU w3 w Ob n sv lv uv null N us ucs) (hm : Mod [] w w') : GU w3 w' Ob n sv lv uv null N us ucs :=
  ⟨h.ob.mod hm (by simp), ⟨h.raw.two, h.raw.sl.imp id fun ⟨BA, cap, rest, g1, g2, g3, g4, g5⟩ => ⟨BA, cap, rest, g1, g2, g3, g4.mod hm (by simp), g5⟩⟩, h.rep.mod hm (by simp) (fun _ _ h => h), h.mod.trans hm.nil, h.lob, h.nob⟩
theorem GU.step {P : Program} {w3 w : World} {Ob : Nat} {n : Int} {sv lv uv : Value} {null : Bool} {N k : Nat} {us : List (Nat × List UInt8)} {ucs : List (List Value)} {v : Value} {b : List UInt8} {sb : Nat} {σ : Sl} {x y a : Operand} {d1 d2 : Nat} {Q : Sl → World → Prop} (h : GU w3 w Ob n sv lv uv null N us ucs)
    (hx : ev σ x = uv) (hy : ev σ y = .slice (some ⟨sb, 0, none⟩) 1 1) (hsb : Blk w sb [.int .u32 k, v]) (hv : SlC (fun b => b < N) w v b.length (u8s b)) (hlen : ucs.length ≤ 2147483647)
    (ha : ∀ v, ev (upd σ d1 v) a = .pointer (some ⟨Ob, 0, none⟩)) (hd : d1 ≠ d2)
    (hQ : ∀ w' uv', GU w3 w' Ob n sv lv uv' null N (us ++ [(k, b)]) (ucs ++ [[.int .u32 k, v]]) → Q (upd (upd σ d1 uv') d2 (.pointer (some ⟨Ob, 4, none⟩))) w') :
    wpR P [⟨some d1, .append x y 2 32, none⟩, ⟨some d2, .fad a 4, none⟩, ⟨none, .st (.tmp d2) 1 (.tmp d1), none⟩] σ w Q := by
  have hlob := h.lob
  have hnob := h.nob
  obtain ⟨vb, vc, evj⟩ := hv.shape
  refine wpR_run ?_
  refine append_two (lv := uv) (n0 := w3.heap.size) hx h.raw h.mod.size hy hsb rfl (by rw [evj]; simp [Value.oneCell']) (by omega) fun uv' w1 hraw1 hown => ?_
  have hge : ∀ b, own uv = some b → w3.heap.size ≤ b := fun b hb => by
    rcases h.raw.sl with ⟨e, -⟩ | ⟨BA, cap, rest, e, g2, g3, -⟩
    · rw [e] at hb; simp [own] at hb
    · rw [e] at hb; simp only [own, Option.some.injEq] at hb; omega
  have key : Blk w1 Ob [.int .i64 n, sv, .bool null, lv, uv] ∧ Mod [Ob] w3 w1 ∧ RepU (fun b => b < N) w1 (us ++ [(k, b)]) (ucs ++ [[.int .u32 k, v]]) := by
    have hS : ∀ b ∈ (own uv).toList, own uv = some b := fun b hb => by simpa using hb
    have hrep : RepU (fun b => b < N) w (us ++ [(k, b)]) (ucs ++ [[.int .u32 k, v]]) := h.rep.append (.cons hv .nil)
    rcases hown with ⟨⟨ho, hm⟩, -⟩ | ⟨ho, hm⟩
    · refine ⟨h.ob.mod hm (fun hc => by have := hge _ (hS _ hc); omega), ?_, hrep.mod hm (fun b hb hc => by have := hge _ (hS _ hb); omega) fun _ _ h => h⟩
      refine ⟨hm.os.trans h.mod.os, hm.tape.trans h.mod.tape, hm.output.trans h.mod.output, Nat.le_trans h.mod.size hm.size, fun k hk hn => ?_⟩
      rw [hm.block k (Nat.lt_of_lt_of_le hk h.mod.size) (fun hc => by have := hge _ (hS _ hc); omega)]
      exact h.mod.block k hk hn
    · exact ⟨h.ob.mod hm (by simp), h.mod.trans hm.nil, hrep.mod hm (by simp) fun _ _ h => h⟩
  obtain ⟨k1, k2, k3⟩ := key
  have o1 : uv'.cells = #[uv'] ∧ uv'.oneCell' = true := by
    rcases hraw1.sl with ⟨e, -⟩ | ⟨BA, cap, rest, e, -⟩ <;> subst e <;> exact ⟨rfl, rfl⟩
  have hput : Mod [Ob] w1 (putCells w1 ⟨Ob, 4, none⟩ 0 [uv']) := Mod.put (by simp)
  have hp := k1.put (o := 4) (vs := [uv']) (by simp)
  have e1 : splice [Value.int .i64 n, sv, .bool null, lv, uv] 4 [uv'] = [.int .i64 n, sv, .bool null, lv, uv'] := by simp [splice]
  rw [e1] at hp
  refine wpR_step (v := .pointer (some ⟨Ob, 4, none⟩)) (by
    show (RK.fad a 4).val? (upd σ d1 uv') w1 = _
    simp only [RK.val?, ha uv', Addr.add_mk, Nat.zero_add]) ?_
  have s1 : (updo (updo σ (some d1) uv') (some d2) (.pointer (some ⟨Ob, 4, none⟩))) d1 = uv' := by simp only [updo, upd, hd, if_false, if_true]
  have s2 : (updo (updo σ (some d1) uv') (some d2) (.pointer (some ⟨Ob, 4, none⟩))) d2 = .pointer (some ⟨Ob, 4, none⟩) := by simp only [updo, upd, if_true]
  have hge' : ∀ b, own uv' = some b → w3.heap.size ≤ b := fun b hb => by
    rcases hraw1.sl with ⟨e, -⟩ | ⟨BA, cap, rest, e, g2, g3, -⟩
    · rw [e] at hb; simp [own] at hb
    · rw [e] at hb; simp only [own, Option.some.injEq] at hb; omega
  refine wpR_run ?_
  simp only [RK.run, ev, s1, s2, o1]
  refine ⟨rfl, stOk_one k1 (by simp) o1.2, ?_⟩
  refine hQ _ uv' ⟨hp, ⟨hraw1.two, hraw1.sl.imp id fun ⟨BA, cap, rest, g1, g2, g3, g4, g5⟩ => ⟨BA, cap, rest, g1, g2, g3, g4.mod hput (by have := hge' BA (by rw [g1]; rfl); simp; omega), g5⟩⟩, k3.mod hput (fun b hb hc => by
    simp only [List.mem_singleton] at hb; omega) (fun _ _ h => h), k2.trans hput, hlob, hnob⟩
end Go.Msk

namespace Go.Msk
open Go.RowKit
set_option maxRecDepth 100000
section
variable {P : Program} {F : Nat → Nat}
attribute [local simp] bnd wpC wpR RI.wp gOk RK.run thenC inBlockC updo upd ev args0 postC rvals RV.val tup_one isShift
theorem got_loop2 {N : Nat} {w w3 : World} {Pb b2 Ob : Nat} {n : Int} {sv lv uv0 : Value} {null : Bool} {u : List (Nat × List UInt8)} {uss : List (List Value)} {σ : Sl} {Q : Exit → Sl → World → Prop}
    (hw : Mod [] w w3 ∨ (Mod [Ob] w w3)) (_hN : N ≤ w.heap.size) (hu : SlC (fun b => b < N) w uv0 u.length uss.flatten) (hr : RepU (fun b => b < N) w u uss) (hlen : u.length ≤ 2147483647)
    (hob : Blk w3 Ob [.int .i64 n, sv, .bool null, lv, .slice none 0 0]) (hoN : N ≤ Ob)
    (h1 : σ 1 = .pointer (some ⟨Pb, 0, none⟩)) (h2 : σ 2 = .pointer (some ⟨b2, 0, none⟩)) (h3 : σ 3 = .pointer (some ⟨Ob, 0, none⟩)) (hpb : w3.cell? ⟨Pb, 4, none⟩ = some uv0)
    (hQ : ∀ σ' w' uv ucs, σ' 2 = .pointer (some ⟨b2, 0, none⟩) → σ' 3 = .pointer (some ⟨Ob, 0, none⟩) → GU w3 w' Ob n sv lv uv null N u ucs → ucs.length = u.length → Q .normal σ' w') :
    wpC P (.seq (.blk [⟨some 30, .fad (.tmp 1) 4, none⟩, ⟨some 31, .ld (.tmp 30), none⟩, ⟨some 32, .len (.tmp 31), none⟩, ⟨some 33, .mv (.const (.int .i64 0)), none⟩])
      (.block 2 (.loop (.seq (.blk [⟨some 34, .bin .lss (.tmp 33) (.tmp 32), none⟩]) (.seq (.cond (.tmp 34) .skip (.exit 2))
        (.seq (.block 3 (.seq (.blk [⟨some 35, .iad (.tmp 31) (.tmp 33) 2, none⟩, ⟨some 36, .ldn (.tmp 35) 2, none⟩, ⟨some 7, .alloc uzero, none⟩, ⟨none, .st (.tmp 7) 2 (.tmp 36), none⟩])
            (.blk [⟨some 37, .fad (.tmp 3) 4, none⟩, ⟨some 38, .ld (.tmp 37), none⟩, ⟨some 39, .fad (.tmp 7) 0, none⟩, ⟨some 40, .ld (.tmp 39), none⟩, ⟨some 41, .fad (.tmp 7) 1, none⟩, ⟨some 42, .ld (.tmp 41), none⟩,
                ⟨some 43, .build uzero [(0, 1, .tmp 40), (1, 1, .tmp 42)], none⟩, ⟨some 44, .bslice 1 uzero [(0, 2, .tmp 43)], none⟩, ⟨some 45, .append (.tmp 38) (.tmp 44) 2 32, none⟩, ⟨some 46, .fad (.tmp 3) 4, none⟩, ⟨none, .st (.tmp 46) 1 (.tmp 45), none⟩])))
          (.blk [⟨some 47, .bin .add (.tmp 33) (.const (.int .i64 1)), none⟩, ⟨some 33, .mv (.tmp 47), none⟩])))))))
      Q σ w3 := by
  obtain ⟨lb, lc, elv⟩ := hu.shape
  have hol := hob.lt
  have hw' : Mod [Ob] w w3 := hw.elim (·.nil) id
  rw [wpC_seq, wpC_blk]
  refine wpR_step (v := .pointer (some ⟨Pb, 4, none⟩)) (by simp [RK.val?, h1, Addr.add_mk]) ?_
  refine wpR_step (v := uv0) (by simp [RK.val?, hpb]) ?_
  refine wpR_step (v := .int .i64 u.length) (by simp [RK.val?, elv]) ?_
  refine wpR_step (v := .int .i64 0) (by simp [RK.val?]) ?_
  simp only [wpR, thenC]
  rw [wpC_block, wpC_loop]
  refine ⟨fun σ1 w1 => ∃ j uv ucs, j ≤ u.length ∧ σ1 2 = .pointer (some ⟨b2, 0, none⟩) ∧ σ1 3 = .pointer (some ⟨Ob, 0, none⟩) ∧ σ1 31 = uv0 ∧ σ1 32 = .int .i64 u.length ∧ σ1 33 = .int .i64 j ∧
      GU w3 w1 Ob n sv lv uv null N (u.take j) ucs ∧ ucs.length = j,
    fun σ1 _ => u.length - (match σ1 33 with | .int _ j => j.toNat | _ => 0), ⟨0, .slice none 0 0, [], Nat.zero_le _, by simp [h2], by simp [h3], by simp, by simp, by simp, ⟨hob, ⟨by simp, .inl ⟨rfl, rfl⟩⟩, by simpa using .nil, Mod.refl _ _, hol, hoN⟩, rfl⟩, ?_⟩
  rintro σ1 w1 ⟨j, uv, ucs, hj, s2, s3, s31, s32, s33, hgs, htl⟩
  rw [wpC_seq, wpC_blk]
  refine wpR_step (v := .bool (decide ((j : Int) < u.length))) (by simp [RK.val?, s32, s33, intBin]) ?_
  simp only [wpR, thenC]
  rw [wpC_seq]
  by_cases hlt : j < u.length
  · rw [wpC_cond_t (by simp [hlt]), wpC_skip]
    simp only [thenC]
    rw [wpC_seq, wpC_block, wpC_seq, wpC_blk]
    obtain ⟨tj, htj⟩ : ∃ t, u[j]? = some t := ⟨u[j], List.getElem?_eq_getElem hlt⟩
    have hmw : Mod [Ob] w w1 := hw'.trans hgs.mod
    have hNob : ∀ b ∈ [Ob], ¬ b < N := fun b hb => by simp only [List.mem_singleton] at hb; have := hgs.nob; omega
    obtain ⟨vj, hcj, hrj⟩ := (hr.mod (ok' := fun b => b < N) hmw hNob fun _ _ h => h).nth htj
    obtain ⟨pa, pc, ep, -, hcells⟩ := (hu.mod (ok' := fun b => b < N) hmw hNob fun _ _ h => h).flat hr.length hr.two hcj
    obtain ⟨vb, vc, evj⟩ := hrj.shape
    refine wpR_step (v := .pointer (some (pa.add (j * 2)))) (by simp [RK.val?, s31, s33, ep, hlt]) ?_
    refine wpR_step (v := .agg [.int .u32 tj.1, vj].toArray) (by simp [RK.val?, hcells]) ?_
    refine wpR_run ?_
    intro Ty
    obtain ⟨q1, q2, q3⟩ := new_put w1 uzero [.int .u32 tj.1, vj] Ty rfl (by rw [evj]; simp [Value.oneCell'])
    refine wpR_run ?_
    have ec' : (Value.agg [.int .u32 tj.1, vj].toArray).cells.toList = [.int .u32 tj.1, vj] := rfl
    simp only [RK.run, ev, updo, upd]
    simp only [if_true, show (36 : Nat) ≠ 7 by decide, if_false, ec']
    refine ⟨rfl, q1, ?_⟩
    generalize hw4 : putCells (w1.alloc (.cells uzero.toArray Ty)) ⟨w1.heap.size, 0, none⟩ 0 [.int .u32 tj.1, vj] = w4 at q2 q3
    simp only [wpR, thenC]
    rw [wpC_blk]
    have hob4 := hgs.ob.mod q3 (by simp)
    have hraw4 : LRaw2 w4 w3.heap.size uv ucs := ⟨hgs.raw.two, hgs.raw.sl.imp id fun ⟨BA, cap, rest, g1, g2, g3, g4, g5⟩ => ⟨BA, cap, rest, g1, g2, g3, g4.mod q3 (by simp), g5⟩⟩
    have c0 := q2.cell 0
    have c1 := q2.cell 1
    refine wpR_step (v := .pointer (some ⟨Ob, 4, none⟩)) (by simp [RK.val?, s3, Addr.add_mk]) ?_
    refine wpR_step (v := uv) (by simp [RK.val?]; exact hob4.cell 4) ?_
    refine wpR_step (v := .pointer (some ⟨w1.heap.size, 0, none⟩)) (by simp [RK.val?, Addr.add_mk]) ?_
    refine wpR_step (v := .int .u32 tj.1) (by simp [RK.val?]; simpa using c0) ?_
    refine wpR_step (v := .pointer (some ⟨w1.heap.size, 1, none⟩)) (by simp [RK.val?, Addr.add_mk]) ?_
    refine wpR_step (v := vj) (by simp [RK.val?]; simpa using c1) ?_
    refine wpR_step (v := .agg [.int .u32 tj.1, vj].toArray) (by simp [RK.val?, uzero, fillL, splice, Value.cells, evj]) ?_
    refine wpR_run ?_
    have hf : fillL (zrep 1 uzero) [(0, 2, Value.agg [.int .u32 tj.1, vj].toArray)] = some [.int .u32 tj.1, vj] := by
      simp [zrep, uzero, fillL, splice, Value.cells]
    simp only [RK.run, List.map_cons, List.map_nil, ev, updo, upd, if_true, hf]
    intro T5
    have hm5 : Mod [] w4 (w4.alloc (.cells [.int .u32 tj.1, vj].toArray T5)) := Mod.alloc _ _ _
    have hb5 : Blk (w4.alloc (.cells [.int .u32 tj.1, vj].toArray T5)) w4.heap.size [.int .u32 tj.1, vj] := Blk.new _ _ _
    generalize w4.alloc (.cells [.int .u32 tj.1, vj].toArray T5) = w5 at hm5 hb5
    have hob5 := hob4.mod hm5 (by simp)
    have hraw5 : LRaw2 w5 w3.heap.size uv ucs := ⟨hraw4.two, hraw4.sl.imp id fun ⟨BA, cap, rest, g1, g2, g3, g4, g5⟩ => ⟨BA, cap, rest, g1, g2, g3, g4.mod hm5 (by simp), g5⟩⟩
    have hm15 : Mod [] w1 w5 := q3.trans hm5
    have hm35 : Mod [Ob] w3 w5 := hgs.mod.trans hm15.nil
    refine wpR_run ?_
    refine append_two (lv := uv) (n0 := w3.heap.size) (by simp) hraw5 hm35.size (by simp) hb5 rfl (by rw [evj]; simp [Value.oneCell']) (by omega) fun uv' w6 hraw6 hown => ?_
    have hlob := hgs.lob
    have hge : ∀ b, own uv = some b → w3.heap.size ≤ b := fun b hb => by
      rcases hraw5.sl with ⟨e, -⟩ | ⟨BA, cap, rest, e, g2, g3, -⟩
      · rw [e] at hb; simp [own] at hb
      · rw [e] at hb; simp only [own, Option.some.injEq] at hb; omega
    have hnN : N ≤ w3.heap.size := by have := hgs.nob; omega
    have key : Blk w6 Ob [.int .i64 n, sv, .bool null, lv, uv] ∧ Mod [Ob] w3 w6 ∧ RepU (fun b => b < N) w6 (u.take j ++ [tj]) (ucs ++ [[.int .u32 tj.1, vj]]) := by
      have hS : ∀ b ∈ (own uv).toList, own uv = some b := fun b hb => by simpa using hb
      have hrep5 : RepU (fun b => b < N) w5 (u.take j ++ [tj]) (ucs ++ [[.int .u32 tj.1, vj]]) := (hgs.rep.mod hm15 (by simp) fun _ _ h => h).append (.cons (hrj.mod hm15 (by simp) fun _ _ h => h) .nil)
      rcases hown with ⟨⟨ho, hm⟩, -⟩ | ⟨ho, hm⟩
      · refine ⟨hob5.mod hm (fun hc => by have := hge _ (hS _ hc); omega), ?_, hrep5.mod hm (fun b hb hc => by have := hge _ (hS _ hb); omega) fun _ _ h => h⟩
        refine ⟨hm.os.trans hm35.os, hm.tape.trans hm35.tape, hm.output.trans hm35.output, Nat.le_trans hm35.size hm.size, fun k hk hn => ?_⟩
        rw [hm.block k (Nat.lt_of_lt_of_le hk hm35.size) (fun hc => by have := hge _ (hS _ hc); omega)]
        exact hm35.block k hk hn
      · exact ⟨hob5.mod hm (by simp), hm35.trans hm.nil, hrep5.mod hm (by simp) fun _ _ h => h⟩
    obtain ⟨k1, k2, k3⟩ := key
    have o1 : uv'.cells = #[uv'] ∧ uv'.oneCell' = true := by
      rcases hraw6.sl with ⟨e, -⟩ | ⟨BA, cap, rest, e, -⟩ <;> subst e <;> exact ⟨rfl, rfl⟩
    have hput : Mod [Ob] w6 (putCells w6 ⟨Ob, 4, none⟩ 0 [uv']) := Mod.put (by simp)
    have hp := k1.put (o := 4) (vs := [uv']) (by simp)
    have e1 : splice [Value.int .i64 n, sv, .bool null, lv, uv] 4 [uv'] = [.int .i64 n, sv, .bool null, lv, uv'] := by simp [splice]
    rw [e1] at hp
    refine wpR_step (v := .pointer (some ⟨Ob, 4, none⟩)) (by simp [RK.val?, s3, Addr.add_mk]) ?_
    refine wpR_run ?_
    simp only [RK.run, ev, updo, upd, if_true, show (45 : Nat) ≠ 46 by decide, if_false, o1.1]
    refine ⟨rfl, stOk_one k1 (by simp) o1.2, ?_⟩
    have hge' : ∀ b, own uv' = some b → w3.heap.size ≤ b := fun b hb => by
      rcases hraw6.sl with ⟨e, -⟩ | ⟨BA, cap, rest, e, g2, g3, -⟩
      · rw [e] at hb; simp [own] at hb
      · rw [e] at hb; simp only [own, Option.some.injEq] at hb; omega
    simp only [wpR, inBlockC, thenC]
    have hw : IntKind.i64.wrap ((j : Int) + 1) = ((j + 1 : Nat) : Int) := by
      simp only [IntKind.wrap, IntKind.bits, IntKind.signed]; simp; omega
    rw [wpC_blk]
    refine wpR_step (v := .int .i64 ((j + 1 : Nat) : Int)) (by simp [RK.val?, intBin, s33, hw]) ?_
    refine wpR_step (v := .int .i64 ((j + 1 : Nat) : Int)) (by simp [RK.val?]) ?_
    simp only [wpR, thenC]
    refine ⟨⟨j + 1, uv', ucs ++ [[.int .u32 tj.1, vj]], hlt, by simp [s2], by simp [s3], by simp [s31], by simp [s32], by simp, ?_, by simp [htl]⟩, ?_⟩
    · rw [List.take_add_one, htj]
      refine ⟨by simpa using hp, ⟨hraw6.two, hraw6.sl.imp id fun ⟨BA, cap, rest, g1, g2, g3, g4, g5⟩ => ⟨BA, cap, rest, g1, g2, g3, by simpa using g4.mod hput (by have := hge' BA (by rw [g1]; rfl); simp; omega), g5⟩⟩, ?_, by simpa using k2.trans hput, hlob, hgs.nob⟩
      exact k3.mod hput (fun b hb hc => by simp only [List.mem_singleton] at hb; have := hgs.nob; omega) fun _ _ h => h
    · simp [s33]; show u.length - (j + 1) < u.length - j; omega
  · rw [wpC_cond_f (by simp; omega)]
    have hje : j = u.length := by omega
    subst hje
    rw [List.take_length] at hgs
    simp only [wpC, inBlockC, thenC, if_true]
    exact hQ _ w1 uv ucs (by simp [s2]) (by simp [s3]) hgs htl
end
end Go.Msk
