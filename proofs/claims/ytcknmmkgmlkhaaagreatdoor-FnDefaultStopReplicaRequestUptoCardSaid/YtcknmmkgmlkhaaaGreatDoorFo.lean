/- A small language of resolved operations, and what the generic and the generated functions do in it (part 15). -/
import Derived.Test.YtcknmmkgmlkhaaaGreatDoorFn

namespace Go.Msk
set_option maxRecDepth 100000
mutual
theorem FD.enc_wt (ver : Int) (x : Bool) : ∀ (f : FD) (t : TR), f.plain = true → t.kok → (f.enc ver x t).length ≤ f.kB * t.wt
  | .mk kind frm to null tag dfl of sub, t, hp, hk => by
    simp only [FD.plain, Bool.and_eq_true, decide_eq_true_eq] at hp
    have hpl := hp.2.2
    have h1 := t.wt_pos
    have part : ∀ y : TR, y.kok → (joinP x (bodyP ver x sub 0 y) (unknownP sub y.u)).length ≤ (FD.kL sub + 16) * y.wt := fun y hy => by
      rw [kok_body hpl, List.length_append, Nat.add_mul]
      have a := FD.bodyP_wt ver x sub 0 y hpl hy
      have b := tail_wt (x := x) hy
      omega
    rw [FD.enc_eq']
    simp only [FD.kind, FD.of, FD.null, FD.sub, FD.kB]
    have e60 : (60 + FD.kL sub) * t.wt = 60 * t.wt + FD.kL sub * t.wt := Nat.add_mul _ _ _
    unfold fieldP
    by_cases h11 : kind = 11
    · rw [if_pos h11, List.length_append]
      have hl : (if FD.nullV (.mk kind frm to null tag dfl of sub) ver t = true then [] else t.l.take 32767).length ≤ 32767 := by
        split
        · simp
        · exact take_le _
      have c := countedP_le (x := x) (nl := FD.nullV (.mk kind frm to null tag dfl of sub) ver t) (k := 4) hl (by omega)
      have hw : TR.wtL (if FD.nullV (.mk kind frm to null tag dfl of sub) ver t = true then [] else t.l.take 32767) + 1 ≤ t.wt := by
        split
        · simp only [TR.wtL]; omega
        · have := wtL_take t.l 32767
          cases t with
          | mk n s b l u => simp only [TR.l, TR.wt] at this ⊢; omega
      have f1 : ((if FD.nullV (.mk kind frm to null tag dfl of sub) ver t = true then [] else t.l.take 32767).flatMap (valP x of (fun y => joinP x (bodyP ver x sub 0 y) (unknownP sub y.u)) false)).length ≤ (20 + (FD.kL sub + 16)) * TR.wtL (if FD.nullV (.mk kind frm to null tag dfl of sub) ver t = true then [] else t.l.take 32767) :=
        wt_flat fun y hy => valP_wt (part y (by
          split at hy
          · simp at hy
          · exact TR.kok_mem hk (List.mem_of_mem_take hy)))
      have f2 : (20 + (FD.kL sub + 16)) * TR.wtL (if FD.nullV (.mk kind frm to null tag dfl of sub) ver t = true then [] else t.l.take 32767) ≤ (20 + (FD.kL sub + 16)) * t.wt := Nat.mul_le_mul_left _ (by omega)
      have f3 : (20 + (FD.kL sub + 16)) * t.wt = 36 * t.wt + FD.kL sub * t.wt := by rw [← Nat.add_mul]; congr 1; omega
      omega
    · rw [if_neg h11]
      have hpt : ((fun y => joinP x (bodyP ver x sub 0 y) (unknownP sub y.u)) t).length ≤ (FD.kL sub + 16) * t.wt := part t hk
      rw [Nat.add_mul] at hpt
      split
      · split
        · rw [beI_length]; omega
        · rw [List.length_append, beI_length]
          omega
      · have := valP_wt (x := x) (nl := FD.nullV (.mk kind frm to null tag dfl of sub) ver t) (k := kind) (part := fun y => joinP x (bodyP ver x sub 0 y) (unknownP sub y.u)) (part t hk)
        have f3 : (20 + (FD.kL sub + 16)) * t.wt = 36 * t.wt + FD.kL sub * t.wt := by rw [← Nat.add_mul]; congr 1; omega
        omega
theorem FD.bodyP_wt (ver : Int) (x : Bool) : ∀ (l : List FD) (i : Nat) (t : TR), FD.plainL l = true → t.kok → (bodyP ver x l i t).length ≤ FD.kL l * t.wt
  | [], _, _, _, _ => by simp [bodyP]
  | f :: l, i, t, hp, hk => by
    simp only [FD.plainL, Bool.and_eq_true] at hp
    have a := FD.enc_wt ver x f (t.at i) hp.1 (hk.at i)
    have a2 : f.kB * (t.at i).wt ≤ f.kB * t.wt := Nat.mul_le_mul_left _ (t.wt_at i)
    have b := FD.bodyP_wt ver x l (i + 1) t hp.2 hk
    simp only [bodyP, FD.kL, List.length_append, Nat.add_mul]
    split
    · omega
    · simp; omega
end
theorem writeP_wt {m : MD} {ver : Int} {t : TR} (hp : FD.plainL m.fs = true) (hk : t.kok) : (writeP m ver t).length ≤ (FD.kL m.fs + 16) * t.wt := by
  have e : writeP m ver t = bodyP ver (m.isFlex ver) m.fs 0 t ++ tailP (m.isFlex ver) t.u := by
    unfold writeP partP
    rw [unknownP_plain hp]; rfl
  rw [e, List.length_append, Nat.add_mul]
  have a := FD.bodyP_wt ver (m.isFlex ver) m.fs 0 t hp hk
  have b := tail_wt (x := m.isFlex ver) hk
  omega
end Go.Msk

namespace Go.Msk
open Go.RowKit
set_option maxRecDepth 100000
inductive FX where
  | mk (ps : List (Nat × Int)) (f : Option FuncId) (subs : List FX)
  deriving Inhabited
def applyPs (a : Nat → Int) : List (Nat × Int) → Nat → Int
  | [] => a
  | (o, n) :: r => applyPs (fun j => if j = o then n else a j) r
def cells8 (a : Nat → Int) (sv : Value) : List Value := [.int .i64 (a 0), .int .i64 (a 1), .int .i64 (a 2), .int .i64 (a 3), .int .i64 (a 4), .int .i64 (a 5), .int .i64 (a 6), sv]
mutual
def FX.fd : FX → FD
  | .mk ps _ subs => .mk (applyPs (fun _ => 0) ps 0) (applyPs (fun _ => 0) ps 1) (applyPs (fun _ => 0) ps 2) (applyPs (fun _ => 0) ps 3) (applyPs (fun _ => 0) ps 4) (applyPs (fun _ => 0) ps 5) (applyPs (fun _ => 0) ps 6) (FX.fds subs)
def FX.fds : List FX → List FD
  | [] => []
  | x :: l => x.fd :: FX.fds l
end
theorem FX.fds_length : ∀ l : List FX, (FX.fds l).length = l.length
  | [] => rfl
  | x :: l => by simp [FX.fds, FX.fds_length l]
def FX.cnt : FX → Nat
  | .mk _ none _ => 1
  | .mk _ (some _) _ => 2
def FX.slot (t : Nat) (x : FX) : Nat := t + x.cnt - 1
def FX.ops (t : Nat) : FX → List RI
  | .mk ps none _ => [⟨some t, .build fzero (ps.map fun p => (p.1, 1, .const (.int .i64 p.2))), none⟩]
  | .mk ps (some f) _ => [⟨some t, .call f [], none⟩, ⟨some (t + 1), .build fzero (ps.map (fun p => (p.1, 1, Operand.const (.int .i64 p.2))) ++ [(7, 1, .tmp t)]), none⟩]
def FX.gen (t : Nat) : List FX → List RI
  | [] => []
  | x :: l => x.ops t ++ FX.gen (t + x.cnt) l
def FX.cnts : List FX → Nat
  | [] => 0
  | x :: l => x.cnt + FX.cnts l
def FX.prts (o t : Nat) : List FX → List (Nat × Nat × Operand)
  | [] => []
  | x :: l => (o, 8, .tmp (x.slot t)) :: FX.prts (o + 8) (t + x.cnt) l
def FX.genSub (l : List FX) : IC × List RV × Nat :=
  (.seq (.blk [⟨some 0, .mv (.const (.slice none 0 0)), none⟩])
    (.seq (.blk (FX.gen 1 l ++ [⟨some (1 + FX.cnts l), .bslice l.length fzero (FX.prts 0 1 l), none⟩, ⟨some 0, .mv (.tmp (1 + FX.cnts l)), none⟩])) .ret), [.tmp 0], 2 + FX.cnts l)
def FX.genMsg (l : List FX) (flex : Int) : IC × List RV × Nat :=
  (.seq (.blk [⟨some 0, .alloc [.slice none 0 0, .int .i64 0], none⟩])
    (.seq (.blk (FX.gen 1 l ++ [⟨some (1 + FX.cnts l), .bslice l.length fzero (FX.prts 0 1 l), none⟩,
      ⟨some (2 + FX.cnts l), .build [.slice none 0 0, .int .i64 0] [(1, 1, .const (.int .i64 flex)), (0, 1, .tmp (1 + FX.cnts l))], none⟩, ⟨none, .st (.tmp 0) 2 (.tmp (2 + FX.cnts l)), none⟩])) .ret), [.cells 0 2], 3 + FX.cnts l)
mutual
/-- What is asked of the functions called, and of the places. -/
def FX.Ok (P : Program) : FX → Prop
  | .mk ps f subs => (ps.all fun p => Nat.blt p.1 7) = true ∧ (match f with | some f => liftF P f = some (FX.genSub subs) | none => subs = []) ∧ FX.OkL P subs
def FX.OkL (P : Program) : List FX → Prop
  | [] => True
  | x :: l => x.Ok P ∧ FX.OkL P l
end
theorem fill_ps (sv : Value) (σ : Sl) : ∀ (ps : List (Nat × Int)) (a : Nat → Int) (q : List (Nat × Nat × Value)), (ps.all fun p => Nat.blt p.1 7) = true →
    fillL (cells8 a sv) ((ps.map fun p => ((p.1, 1, Operand.const (.int .i64 p.2)) : Nat × Nat × Operand)).map (fun p => (p.1, p.2.1, ev σ p.2.2)) ++ q) = fillL (cells8 (applyPs a ps) sv) q
  | [], a, q, _ => rfl
  | (o, n) :: ps, a, q, h => by
    simp only [List.all_cons, Bool.and_eq_true] at h
    have ho : o < 7 := Nat.lt_of_succ_le (Nat.le_of_ble_eq_true h.1)
    simp only [List.map_cons, List.cons_append, fillL, ev, applyPs]
    rw [if_pos ⟨rfl, by simp [cells8]; omega⟩]
    have e : splice (cells8 a sv) o (Value.int .i64 n).cells.toList = cells8 (fun j => if j = o then n else a j) sv := by
      rcases (by omega : o = 0 ∨ o = 1 ∨ o = 2 ∨ o = 3 ∨ o = 4 ∨ o = 5 ∨ o = 6) with rfl | rfl | rfl | rfl | rfl | rfl | rfl <;> simp [splice, cells8, Value.cells]
    rw [e]
    exact fill_ps sv σ ps _ q h.2
theorem fill_parts : ∀ (css : List (List Value)) (pre : List Value), (∀ c ∈ css, c.length = 8) →
    fillL (pre ++ zrep css.length fzero) ((css.zipIdx 0).map fun p => (pre.length + p.2 * 8, 8, Value.agg p.1.toArray)) = some (pre ++ css.flatten) := by
  intro css
  have gen : ∀ (css : List (List Value)) (pre : List Value) (k : Nat) (o : Nat), (∀ c ∈ css, c.length = 8) → o + k * 8 = pre.length →
      fillL (pre ++ zrep css.length fzero) ((css.zipIdx k).map fun p => (o + p.2 * 8, 8, Value.agg p.1.toArray)) = some (pre ++ css.flatten) := by
    intro css
    induction css with
    | nil => intro pre k o _ _; simp [fillL, zrep]
    | cons c css ih =>
      intro pre k o h ho
      have hc := h c List.mem_cons_self
      simp only [List.zipIdx_cons, List.map_cons, fillL, List.length_cons]
      have ez : zrep (css.length + 1) fzero = fzero ++ zrep css.length fzero := by simp [zrep, List.replicate_succ]
      rw [ez, if_pos ⟨by simpa [Value.cells] using hc, by simp [fzero]; omega⟩]
      have : splice (pre ++ (fzero ++ zrep css.length fzero)) (o + k * 8) (Value.agg c.toArray).cells.toList = (pre ++ c) ++ zrep css.length fzero := by
        have e := splice_mid (pre := pre) (old := fzero) (post := zrep css.length fzero) (vs := c) ho.symm (by rw [hc]; rfl)
        simpa [Value.cells] using e
      rw [this, ih (pre ++ c) (k + 1) o (fun x hx => h x (List.mem_cons_of_mem _ hx)) (by simp; omega)]
      simp
  intro pre h
  exact gen css pre 0 pre.length h (by simp)
abbrev fromB (N : Nat) : Nat → Prop := fun b => N ≤ b
theorem SlC.fresh {N M : Nat} {w : World} {v : Value} {n : Nat} {cs : List Value} (h : SlC (fromB M) w v n cs) (hN : N ≤ M) : SlC (fromB N) w v n cs := h.mod (Mod.refl [] w) (by simp) fun _ _ h => Nat.le_trans hN h
theorem RepFL.fresh {N M : Nat} {w : World} {l : List FD} {cs : List (List Value)} (h : RepFL (fromB M) w l cs) (hN : N ≤ M) : RepFL (fromB N) w l cs := h.mod (Mod.refl [] w) (by simp) fun _ _ h => Nat.le_trans hN h
theorem SlC.hold {ok : Nat → Prop} {w w' : World} {v : Value} {n : Nat} {cs : List Value} (h : SlC ok w v n cs) (hm : Mod [] w w') : SlC ok w' v n cs := h.mod hm (by simp) fun _ _ h => h
theorem RepFL.hold {ok : Nat → Prop} {w w' : World} {l : List FD} {cs : List (List Value)} (h : RepFL ok w l cs) (hm : Mod [] w w') : RepFL ok w' l cs := h.mod hm (by simp) fun _ _ h => h
section
variable {P : Program}
attribute [local simp] gOk updo upd ev RK.val? isShift intBin Addr.add_mk args0 Value.cells undef
def SlotsR (N : Nat) (w : World) (σ : Sl) : List FX → Nat → List (List Value) → Prop
  | [], _, css => css = []
  | x :: l, t, css => ∃ cs r, css = cs :: r ∧ σ (x.slot t) = .agg cs.toArray ∧ RepF (fromB N) w x.fd cs ∧ SlotsR N w σ l (t + x.cnt) r
theorem SlotsR.rep {N : Nat} {w : World} {σ : Sl} : ∀ {l : List FX} {t : Nat} {css : List (List Value)}, SlotsR N w σ l t css → RepFL (fromB N) w (FX.fds l) css
  | [], _, _, h => by subst h; simp [FX.fds]; exact .nil
  | x :: l, t, _, ⟨cs, r, e1, e2, e3, e4⟩ => by subst e1; simp only [FX.fds]; exact .cons e3 e4.rep
theorem SlotsR.prts {N : Nat} {w : World} {σ : Sl} : ∀ {l : List FX} {t o k : Nat} {css : List (List Value)}, SlotsR N w σ l t css →
    (FX.prts (o + k * 8) t l).map (fun p => (p.1, p.2.1, ev σ p.2.2)) = (css.zipIdx k).map fun p => (o + p.2 * 8, 8, Value.agg p.1.toArray)
  | [], _, _, _, _, h => by subst h; rfl
  | x :: l, t, o, k, _, ⟨cs, r, e1, e2, e3, e4⟩ => by
    subst e1
    simp only [FX.prts, List.map_cons, List.zipIdx_cons, ev, e2]
    congr 1
    have := e4.prts (o := o) (k := k + 1)
    rw [show o + k * 8 + 8 = o + (k + 1) * 8 by omega]
    exact this
def SubC (P : Program) (f : FuncId) (l : List FX) : Prop :=
  ∀ w : World, Calls P f #[] w fun e w' => ∃ v css, e = .returned v ∧ SlC (fromB w.heap.size) w' v (FX.fds l).length css.flatten ∧ RepFL (fromB w.heap.size) w' (FX.fds l) css ∧ Mod [] w w'
def FX.SubsC (P : Program) : List FX → Prop
  | [] => True
  | .mk ps f subs :: l => (ps.all fun p => Nat.blt p.1 7) = true ∧ (match f with | some f => SubC P f subs | none => subs = []) ∧ FX.SubsC P l
theorem FX.gen_wp (N : Nat) : ∀ (l : List FX) (t : Nat) (σ : Sl) (w : World) (rest : List RI) (Q : Sl → World → Prop), FX.SubsC P l → 1 ≤ t → N ≤ w.heap.size →
    (∀ σ' w' css, (∀ s, s < t → σ' s = σ s) → Mod [] w w' → SlotsR N w' σ' l t css → wpR P rest σ' w' Q) → wpR P (FX.gen t l ++ rest) σ w Q
  | [], t, σ, w, rest, Q, _, _, _, hQ => hQ σ w [] (fun _ _ => rfl) (Mod.refl _ _) rfl
  | .mk ps f subs :: l, t, σ, w, rest, Q, hs, ht, hN, hQ => by
    obtain ⟨hps, hf, hl⟩ := hs
    simp only [FX.gen, List.append_assoc]
    cases f with
    | none =>
      simp only at hf
      subst hf
      simp only [FX.ops, List.cons_append, List.nil_append, FX.cnt]
      have hfill := fill_ps (.slice none 0 0) σ ps (fun _ => 0) [] hps
      simp only [List.append_nil] at hfill
      refine go1 (v := .agg (cells8 (applyPs (fun _ => 0) ps) (.slice none 0 0)).toArray) rfl (by
        simp only [RK.val?]
        rw [show fzero = cells8 (fun _ => 0) (.slice none 0 0) from rfl, hfill]; rfl) ?_
      refine FX.gen_wp N l (t + 1) _ w rest Q hl (by omega) hN fun σ' w' css hfr hm hsl => ?_
      refine hQ σ' w' (cells8 (applyPs (fun _ => 0) ps) (.slice none 0 0) :: css) (fun s h => by rw [hfr s (by omega)]; simp only [updo]; exact upd_ne _ _ (by omega)) hm ⟨_, _, rfl, ?_, ?_, hsl⟩
      · simp only [FX.slot, FX.cnt]
        rw [show t + 1 - 1 = t by omega, hfr t (by omega)]; simp only [updo]; exact upd_same _ _ _
      · rw [FX.fd]; simp only [FX.fds]; exact .mk (css := []) SlC.nil .nil
    | some f =>
      simp only at hf
      simp only [FX.ops, List.cons_append, List.nil_append, FX.cnt]
      refine goCall rfl (vs := []) rfl (hf w) ?_
      rintro e w1 ⟨v, css1, rfl, h1, h2, hm1⟩
      refine ⟨v, rfl, ?_⟩
      have hv1 : v.cells.size = 1 ∧ v.cells.toList = [v] := by obtain ⟨b, c, rfl⟩ := h1.shape; exact ⟨rfl, rfl⟩
      have hfill := fill_ps (.slice none 0 0) (upd σ t v) ps (fun _ => 0) [(7, 1, v)] hps
      refine go1 (v := .agg (cells8 (applyPs (fun _ => 0) ps) v).toArray) rfl (by
        simp only [RK.val?, List.map_append, List.map_cons, List.map_nil, updo]
        rw [show ev (upd σ t v) (.tmp t) = v from upd_same _ _ _, show fzero = cells8 (fun _ => 0) (.slice none 0 0) from rfl, hfill]
        simp only [fillL]
        rw [if_pos ⟨hv1.1, by simp [cells8]⟩, hv1.2]
        simp [splice, cells8]) ?_
      refine FX.gen_wp N l (t + 2) _ w1 rest Q hl (by omega) (Nat.le_trans hN hm1.size) fun σ' w' css hfr hm hsl => ?_
      refine hQ σ' w' (cells8 (applyPs (fun _ => 0) ps) v :: css) (fun s h => by rw [hfr s (by omega)]; simp only [updo, upd]; rw [if_neg (by omega), if_neg (by omega)]) (hm1.trans hm) ⟨_, _, rfl, ?_, ?_, hsl⟩
      · simp only [FX.slot, FX.cnt]
        rw [show t + 2 - 1 = t + 1 by omega, hfr (t + 1) (by omega)]; simp only [updo]; exact upd_same _ _ _
      · rw [FX.fd]; exact .mk ((h1.fresh hN).hold hm) ((h2.fresh hN).hold hm)
theorem FX.row_wp {N : Nat} {l : List FX} {css : List (List Value)} {σ : Sl} {w : World} {d : Nat} {rest : List RI} {Q : Sl → World → Prop} (hs : SlotsR N w σ l 1 css) (hN : N ≤ w.heap.size)
    (h : ∀ w', SlC (fromB N) w' (.slice (some ⟨w.heap.size, 0, none⟩) l.length l.length) (FX.fds l).length css.flatten → RepFL (fromB N) w' (FX.fds l) css → Mod [] w w' → wpR P rest (upd σ d (.slice (some ⟨w.heap.size, 0, none⟩) l.length l.length)) w' Q) :
    wpR P (⟨some d, .bslice l.length fzero (FX.prts 0 1 l), none⟩ :: rest) σ w Q := by
  refine wpR_run ?_
  have hrep := hs.rep
  have hlen : l.length = css.length := by rw [← FX.fds_length, hrep.length]
  have e1 := hs.prts (o := 0) (k := 0)
  have e2 := fill_parts css [] hrep.eight
  simp only [List.nil_append, List.length_nil, Nat.zero_add, Nat.zero_mul] at e1 e2
  simp only [RK.run, hlen]
  rw [e1, e2]
  intro T
  have hb := Blk.new w css.flatten T
  have hm : Mod [] w (w.alloc (.cells css.flatten.toArray T)) := Mod.alloc _ _ _
  have hsl : SlC (fromB N) (w.alloc (.cells css.flatten.toArray T)) (.slice (some ⟨w.heap.size, 0, none⟩) l.length l.length) (FX.fds l).length css.flatten :=
    ⟨_, _, by rw [FX.fds_length], by rw [FX.fds_length]; exact Nat.le_refl _, fun h => by simp at h, fun a ha _ => by
      simp only [Option.some.injEq] at ha; subst ha
      exact ⟨hN, hb.lt, hb.cells⟩⟩
  have := h _ hsl (hrep.hold hm) hm
  rw [hlen] at this
  exact this
theorem sub_call (hm : P.follows .mixedOrders = true) {f : FuncId} {l : List FX} (h : liftF P f = some (FX.genSub l)) (hs : FX.SubsC P l) : SubC P f l := by
  intro w
  unfold FX.genSub at h
  refine call_of (args := []) h hm (by simp) ?_
  clear h
  rw [wpC_seq, wpC_blk]
  refine go1 rfl rfl (wpR_done ?_)
  rw [wpC_seq, wpC_blk]
  refine FX.gen_wp w.heap.size l 1 _ w _ _ hs (Nat.le_refl _) (Nat.le_refl _) fun σ1 w1 css hfr hm1 hsl => ?_
  refine FX.row_wp hsl hm1.size fun w2 h1 h2 hm2 => ?_
  refine go1 (v := .slice (some ⟨w1.heap.size, 0, none⟩) l.length l.length) rfl (by simp) (wpR_done ?_)
  exact ret1 (v := .slice (some ⟨w1.heap.size, 0, none⟩) l.length l.length) (by simp) ⟨_, css, rfl, h1, h2, hm1.trans hm2⟩
mutual
theorem FX.okSub (hm : P.follows .mixedOrders = true) : ∀ x : FX, x.Ok P → (match x with | .mk ps f subs => (ps.all fun p => Nat.blt p.1 7) = true ∧ (match f with | some f => SubC P f subs | none => subs = []))
  | .mk ps f subs, h => by
    simp only [FX.Ok] at h
    refine ⟨h.1, ?_⟩
    cases f with
    | none => exact h.2.1
    | some f => exact sub_call hm h.2.1 (FX.okSubs hm subs h.2.2)
theorem FX.okSubs (hm : P.follows .mixedOrders = true) : ∀ l : List FX, FX.OkL P l → FX.SubsC P l
  | [], _ => trivial
  | .mk ps f subs :: l, h => by
    simp only [FX.OkL] at h
    have h1 := FX.okSub hm (.mk ps f subs) h.1
    exact ⟨h1.1, h1.2, FX.okSubs hm l h.2⟩
end
theorem msg_call (hm : P.follows .mixedOrders = true) {f : FuncId} {l : List FX} {flex : Int} (h : liftF P f = some (FX.genMsg l flex)) (hs : FX.OkL P l) {w : World} :
    Calls P f #[] w fun e w' => ∃ cs, e = .returned (.agg cs.toArray) ∧ RepM anyB w' ⟨FX.fds l, flex⟩ cs ∧ Mod [] w w' := by
  unfold FX.genMsg at h
  refine call_of (args := []) h hm (by simp) ?_
  clear h
  rw [wpC_seq, wpC_blk]
  refine goAlloc fun w0 hb0 hm0 => wpR_done ?_
  rw [wpC_seq, wpC_blk]
  refine FX.gen_wp w0.heap.size l 1 _ w0 _ _ (FX.okSubs hm l hs) (Nat.le_refl _) (Nat.le_refl _) fun σ1 w1 css hfr hm1 hsl => ?_
  refine FX.row_wp hsl hm1.size fun w2 h1 h2 hm2 => ?_
  refine go1 (v := .agg #[.slice (some ⟨w1.heap.size, 0, none⟩) l.length l.length, .int .i64 flex]) rfl (by
    simp only [RK.val?, List.map_cons, List.map_nil, ev, upd_same, fillL]
    simp [splice, Value.cells]) ?_
  have hb2 := hb0.mod (hm1.trans hm2) (by simp)
  refine goSt (b := w.heap.size) (v := .agg #[.slice (some ⟨w1.heap.size, 0, none⟩) l.length l.length, .int .i64 flex]) ?_ (by simp) hb2 rfl rfl (by simp [Value.cells, Value.oneCell']) fun w3 hb3 hm3 => ?_
  · simp only [ev, updo, upd]
    rw [if_neg (by omega), if_neg (by omega), hfr 0 (by omega)]
    simp
  have hm23 : Mod [] w w3 := Mod.drop (b := w.heap.size) (S := []) (((hm0.trans hm1).trans hm2).nil.trans hm3) (Nat.le_refl _)
  refine wpR_done (retN (cs := [.slice (some ⟨w1.heap.size, 0, none⟩) l.length l.length, .int .i64 flex]) (b := w.heap.size) ?_ (by simpa using hb3) rfl ⟨_, rfl, ?_, hm23⟩)
  · simp only [updo, upd]
    rw [if_neg (by omega), if_neg (by omega), hfr 0 (by omega)]
    simp
  · have hlt := hb0.lt
    exact .mk (h1.mod hm3 (by simp; omega) fun _ _ _ => trivial) (h2.mod hm3 (by simp; omega) fun _ _ _ => trivial)
end
end Go.Msk

namespace Go.Msk
open Go.RowKit
set_option maxRecDepth 100000
def headC (t off : Nat) : List DI :=
  [nd ⟨some t, .fad (.tmp 3) 3, none⟩, nd ⟨some (t + 1), .ld (.tmp t), none⟩, nd ⟨some (t + 2), .mv (.tmp 0), none⟩, nd ⟨some (t + 3), .nilc (.tmp (t + 2)), none⟩, nd ⟨some (t + 4), .fad (.tmp (t + 3)) off, none⟩]
def subF (f : FuncId) (i t off : Nat) : IC :=
  .drw (headC t off ++ [⟨⟨some (t + 5), .call f [.tmp (t + 4)], none⟩, true, []⟩, ⟨⟨some (t + 6), .iad (.tmp (t + 1)) (.const (.int .i64 i)) 5, none⟩, false, [5]⟩])
    [⟨none, .st (.tmp (t + 6)) 5 (.tmp (t + 5)), none⟩]
def uidF (i t off : Nat) : IC :=
  .drw (headC t off ++ [nd ⟨some (t + 5), .slicea (.tmp (t + 4)) 16, none⟩, ⟨⟨some (t + 6), .append (.const (.slice none 0 0)) (.tmp (t + 5)) 1 1, none⟩, true, []⟩, ⟨⟨some (t + 7), .build tzero [(1, 1, .tmp (t + 6))], none⟩, false, [6]⟩,
      ⟨⟨some (t + 8), .iad (.tmp (t + 1)) (.const (.int .i64 i)) 5, none⟩, false, [6]⟩])
    [⟨none, .st (.tmp (t + 8)) 5 (.tmp (t + 7)), none⟩]
section
variable {P : Program}
theorem headC_walkB {t off Tb Lb n B base : Nat} {σ : Sl} {w : World} {r l : List DI} {Φ : Nat → Value → World → Prop} {E : Sl → Prop} (ht : 4 ≤ t)
    (h0 : σ 0 = .pointer (some ⟨B, base, none⟩)) (h3 : σ 3 = .pointer (some ⟨Tb, 0, none⟩)) (c3 : w.cell? ⟨Tb, 3, none⟩ = some (.slice (some ⟨Lb, 0, none⟩) n n))
    (h : ∀ σ', Ag t σ σ' → σ' (t + 1) = .slice (some ⟨Lb, 0, none⟩) n n → σ' (t + 4) = .pointer (some ⟨B, base + off, none⟩) → walkB P l Φ w E 5 r σ') : walkB P l Φ w E 0 (headC t off ++ r) σ := by
  simp only [headC, nd, List.cons_append, List.nil_append]
  refine walkB_step (v := .pointer (some ⟨Tb, 3, none⟩)) (by simp only [RK.val?, ev, h3, Addr.add_mk, Nat.zero_add]) ?_
  refine walkB_step (v := .slice (some ⟨Lb, 0, none⟩) n n) (by simp only [RK.val?, ev, updo, upd_same, c3]) ?_
  refine walkB_step (v := .pointer (some ⟨B, base, none⟩)) (by simp only [RK.val?, ev, updo, upd, show (0 : Nat) ≠ t by omega, show (0 : Nat) ≠ t + 1 by omega, if_false, h0]) ?_
  refine walkB_step (v := .pointer (some ⟨B, base, none⟩)) (by simp only [RK.val?, ev, updo, upd_same]) ?_
  refine walkB_step (v := .pointer (some ⟨B, base + off, none⟩)) (by simp only [RK.val?, ev, updo, upd_same, Addr.add_mk]) ?_
  refine h _ (fun j hj => ?_) ?_ ?_
  · simp only [updo, upd, show j ≠ t by omega, show j ≠ t + 1 by omega, show j ≠ t + 2 by omega, show j ≠ t + 3 by omega, show j ≠ t + 4 by omega, if_false]
  · simp only [updo, upd, show t + 1 ≠ t + 4 by omega, show t + 1 ≠ t + 3 by omega, show t + 1 ≠ t + 2 by omega, if_false, if_true]
  · simp only [updo, upd_same]
theorem putTree {i t Tb Lb n : Nat} {pre post : List Value} {tr : TR} {σ : Sl} {w w1 : World} {cs : List Value} {Q : Exit → Sl → World → Prop} {x y : Nat} {σ1 : Sl} (hw : TW w Tb Lb n (pre ++ (tzero ++ post))) (hpre : pre.length = i * 5)
    (hm : Mod [] w w1) (hrep : RepT (fun b => w.heap.size ≤ b) w1 tr cs) (ha : Ag t σ σ1) (hx : σ1 x = .pointer (some ⟨Lb, i * 5, none⟩)) (hy : σ1 y = .agg cs.toArray)
    (hQ : ∀ σ' w' cs, Ag t σ σ' → Mod [Lb] w w' → RepT (fun b => w.heap.size ≤ b) w' tr cs → TW w' Tb Lb n (pre ++ (cs ++ post)) → Q .normal σ' w') : wpR P [⟨none, .st (.tmp x) 5 (.tmp y), none⟩] σ1 w1 (Q .normal) := by
  have hlb1 : Blk w1 Lb (pre ++ (tzero ++ post)) := hw.lb.mod hm (by simp)
  have h5 := hrep.five
  have hput : Mod [Lb] w1 (putCells w1 ⟨Lb, i * 5, none⟩ 0 cs) := Mod.put (by simp)
  have ec : (Value.agg cs.toArray).cells = cs.toArray := rfl
  refine wpR_run ?_
  simp only [RK.run, ev, hx, hy, ec]
  refine ⟨by simp [h5], stOk_many hlb1 (by simp [tzero]; omega) (by simpa using hrep.oneCell), ?_⟩
  simp only [wpR]
  refine hQ _ _ cs (fun j hj => ha j hj) (hm.nil.trans hput) (hrep.mod hput (fun b hb => ?_) fun _ _ h => h) ⟨?_, ?_, hw.ne⟩
  · simp only [List.mem_singleton] at hb; subst hb; have := hw.lb.lt; omega
  · exact (hw.tb.mod hm (by simp)).mod hput (by simpa using hw.ne)
  · have := hlb1.put (o := i * 5) (vs := cs) (by simp [tzero]; omega)
    rwa [splice_mid hpre (by simp [h5, tzero])] at this
theorem subF_wp {f : FuncId} {T : List GV → Prop} (hf : TellS P f T) {i t off Tb Lb n B base : Nat} {O : List Nat} {pre post : List Value} {gl : List GV} {css : List (List Value)} {σ : Sl} {w : World} {Q : Exit → Sl → World → Prop} (ht : 4 ≤ t)
    (h0 : σ 0 = .pointer (some ⟨B, base, none⟩)) (h3 : σ 3 = .pointer (some ⟨Tb, 0, none⟩)) (hw : TW w Tb Lb n (pre ++ (tzero ++ post))) (hpre : pre.length = i * 5) (hi : i < n)
    (hg : T gl) (hr : RepL O w gl css) (hc : Cells w ⟨B, base + off, none⟩ css.flatten)
    (hQ : ∀ σ' w' cs, Ag t σ σ' → Mod [Lb] w w' → RepT (fun b => w.heap.size ≤ b) w' (GV.rcd gl).told cs → TW w' Tb Lb n (pre ++ (cs ++ post)) → Q .normal σ' w') : wpC P (subF f i t off) Q σ w := by
  have c3' : w.drew.cell? ⟨Tb, 3, none⟩ = some (.slice (some ⟨Lb, 0, none⟩) n n) := hw.tb.cell 3
  unfold subF
  simp only [wpC]
  refine wpD_of_B (fun _ v w1 => ∃ cs, v = .agg cs.toArray ∧ RepT (fun b => w.heap.size ≤ b) w1 (GV.rcd gl).told cs) (fun _ v w1 w2 h hm => ?_) (headC_walkB ht h0 h3 c3' fun σ1 a1 s1 s4 => ?_)
  · obtain ⟨cs, h1, h2⟩ := h
    exact ⟨cs, h1, h2.mod hm (by simp) fun _ _ h => h⟩
  refine walkB_node (fun w1 hm1 _ => ?_) fun u hu => ?_
  · simp only [RK.run, ev, s4, List.map_cons, List.map_nil]
    have hm1' : Mod [] w w1 := (Mod.drew _ _).trans hm1
    refine (hf O w1 B (base + off) gl css hg (hr.fresh hm1' (by simp) (fun x hx => .inl hx)) (hc.mod hm1' (.inr (by simp)))).mono ?_
    rintro e w2 ⟨cs, rfl, hrep, hm2⟩
    exact ⟨_, rfl, hm2, cs, rfl, hrep.mod (Mod.refl [] _) (by simp) fun b _ hb => Nat.le_trans hm1'.size hb⟩
  refine walkB_step (v := .pointer (some ⟨Lb, i * 5, none⟩)) (by
      simp only [RK.val?, ev, updo, upd, show t + 1 ≠ t + 5 by omega, if_false, s1]
      rw [if_pos (by omega)]; simp [Addr.add_mk]) ?_
  simp only [walkB]
  intro w1 hm1 hkn
  have h6 := hkn 5 (by simp [headC]) ⟨⟨some (t + 5), .call f [.tmp (t + 4)], none⟩, true, []⟩ (by simp [headC]) rfl rfl (t + 5) rfl
  obtain ⟨cs, e1, h6⟩ := h6
  refine putTree hw hpre ((Mod.drew [] w).trans hm1) h6 (fun j hj => ?_) (by simp only [updo, upd_same]) e1 hQ
  simp only [updo, upd, show j ≠ t + 6 by omega, show j ≠ t + 5 by omega, if_false]
  exact a1 j hj
theorem uidF_wp {i t off Tb Lb n B base : Nat} {pre post : List Value} {l : List UInt8} {σ : Sl} {w : World} {Q : Exit → Sl → World → Prop} (ht : 4 ≤ t)
    (h0 : σ 0 = .pointer (some ⟨B, base, none⟩)) (h3 : σ 3 = .pointer (some ⟨Tb, 0, none⟩)) (hw : TW w Tb Lb n (pre ++ (tzero ++ post))) (hpre : pre.length = i * 5) (hi : i < n)
    (hl : l.length = 16) (hc : Cells w ⟨B, base + off, none⟩ (u8s l)) (hB : B < w.heap.size)
    (hQ : ∀ σ' w' cs, Ag t σ σ' → Mod [Lb] w w' → RepT (fun b => w.heap.size ≤ b) w' (GV.arr l).told cs → TW w' Tb Lb n (pre ++ (cs ++ post)) → Q .normal σ' w') : wpC P (uidF i t off) Q σ w := by
  have c3' : w.drew.cell? ⟨Tb, 3, none⟩ = some (.slice (some ⟨Lb, 0, none⟩) n n) := hw.tb.cell 3
  unfold uidF
  simp only [wpC]
  refine wpD_of_B (fun _ v w1 => SlC (fun b => w.heap.size ≤ b) w1 v l.length (u8s l)) (fun _ v w1 w2 h hm => h.mod hm (by simp) fun _ _ h => h) (headC_walkB ht h0 h3 c3' fun σ1 a1 s1 s4 => ?_)
  refine walkB_step (v := .slice (some ⟨B, base + off, none⟩) 16 16) (by simp only [RK.val?, ev, s4]) ?_
  refine walkB_node (fun w1 hm1 _ => ?_) fun u hu => ?_
  · have hm1' : Mod [] w w1 := (Mod.drew _ _).trans hm1
    refine appendNil_bytes (v := .slice (some ⟨B, base + off, none⟩) 16 16) (l := l) (ok := fun _ => True) (by simp only [ev, updo, upd_same])
      ⟨_, 16, by rw [hl], by omega, fun h => by simp at h, fun a ha _ => by
        simp only [Option.some.injEq] at ha; subst ha
        exact ⟨trivial, Nat.lt_of_lt_of_le hB hm1'.size, hc.mod hm1' (.inr (by simp))⟩⟩ (by omega) fun b c w2 hb _ hge hm2 => ⟨hm2, ?_⟩
    exact hb.slc fun a ha => ⟨Nat.le_trans hm1'.size (hge a ha).1, (hge a ha).2⟩
  obtain ⟨wu, b4, c4, rfl, -⟩ := hu
  refine walkB_step (v := .agg #[.int .i64 0, .slice b4 l.length c4, .bool false, .slice none 0 0, .slice none 0 0]) (by
    simp only [RK.val?, ev, updo, upd_same, tzero, fillL, List.map_cons, List.map_nil, Value.cells]; simp [splice]) ?_
  refine walkB_step (v := .pointer (some ⟨Lb, i * 5, none⟩)) (by
      simp only [RK.val?, ev, updo, upd, show t + 1 ≠ t + 5 by omega, show t + 1 ≠ t + 6 by omega, show t + 1 ≠ t + 7 by omega, if_false, s1]
      rw [if_pos (by omega)]; simp [Addr.add_mk]) ?_
  simp only [walkB]
  intro w1 hm1 hkn
  have h6 := hkn 6 (by simp [headC]) ⟨⟨some (t + 6), .append (.const (.slice none 0 0)) (.tmp (t + 5)) 1 1, none⟩, true, []⟩ (by simp [headC]) rfl rfl (t + 6) rfl
  simp only [updo, upd, show t + 6 ≠ t + 8 by omega, show t + 6 ≠ t + 7 by omega, if_false, if_true] at h6
  refine putTree (cs := [.int .i64 0, .slice b4 l.length c4, .bool false, .slice none 0 0, .slice none 0 0]) hw hpre ((Mod.drew [] w).trans hm1) (by simpa only [GV.told] using RepT.oct false h6) (fun j hj => ?_) (by simp only [updo, upd_same]) (by
    simp only [updo, upd, show t + 7 ≠ t + 8 by omega, if_false, if_true]) hQ
  simp only [updo, upd, show j ≠ t + 8 by omega, show j ≠ t + 7 by omega, show j ≠ t + 6 by omega, show j ≠ t + 5 by omega, if_false]
  exact a1 j hj
end
end Go.Msk

namespace Go.Msk
open Go.RowKit
set_option maxRecDepth 100000
inductive Tl where
  | nil
  | fld (k : TK) (rest : Tl)
  | lst (k : EK) (esz : Nat) (body : Tl) (rest : Tl)
  | uid (rest : Tl)
  | sub (f : FuncId) (size : Nat) (body : Tl) (rest : Tl)
  | tags (f1 each srt : FuncId)
  deriving Inhabited
def Tl.ty : Tl → List GV → Prop
  | .nil, gs => gs = []
  | .fld k rest, gs => ∃ g l, gs = g :: l ∧ k.ty g ∧ rest.ty l
  | .lst k esz body rest, gs => ∃ isnil sz x l, gs = .lst isnil sz x :: l ∧ (∀ g ∈ x, k.ty body.ty g) ∧ x.length ≤ 2147483647 ∧ (x = [] ∨ sz = esz) ∧ rest.ty l
  | .uid rest, gs => ∃ x l, gs = .arr x :: l ∧ x.length = 16 ∧ rest.ty l
  | .sub _ size body rest, gs => ∃ x l, gs = .rcd x :: l ∧ body.ty x ∧ rest.ty l ∧ size = size
  | .tags .., gs => ∃ m, gs = [.tag m] ∧ m.length ≤ 2147483647 ∧ ∀ p ∈ m, p.2.length ≤ 2147483647
def Tl.tg : Tl → Option (FuncId × FuncId × FuncId)
  | .nil => none
  | .fld _ rest => rest.tg
  | .lst _ _ _ rest => rest.tg
  | .uid rest => rest.tg
  | .sub _ _ _ rest => rest.tg
  | .tags a b c => some (a, b, c)
def Tl.size : Tl → Nat
  | .nil => 0
  | .fld _ rest => 1 + rest.size
  | .lst _ _ _ rest => 1 + rest.size
  | .uid rest => 16 + rest.size
  | .sub _ n _ rest => n + rest.size
  | .tags .. => 0
def Tl.Ok (P : Program) : Tl → Prop
  | .nil => True
  | .fld k rest => k.Ok P ∧ rest.Ok P
  | .lst k _ body rest => k.Ok P body.ty ∧ rest.Ok P
  | .uid rest => rest.Ok P
  | .sub f n body rest => TellS P f body.ty ∧ rest.Ok P ∧ ∀ O w gs css, body.ty gs → RepL O w gs css → css.flatten.length = n
  | .tags a b c => TagFs P a b c
def Tl.len : Tl → Nat
  | .nil => 0
  | .fld _ rest => 1 + rest.len
  | .lst _ _ _ rest => 1 + rest.len
  | .uid rest => 1 + rest.len
  | .sub _ _ _ rest => 1 + rest.len
  | .tags .. => 0
def Tl.nl : Tl → Nat
  | .nil => 0
  | .fld _ rest => rest.nl
  | .lst _ _ _ rest => 1 + rest.nl
  | .uid rest => rest.nl
  | .sub _ _ _ rest => rest.nl
  | .tags .. => 0
def Tl.nt : Tl → Nat
  | .nil => 0
  | .fld k rest => k.nt + rest.nt
  | .lst k _ _ rest => 54 + 2 * k.n + rest.nt
  | .uid rest => 9 + rest.nt
  | .sub _ _ _ rest => 7 + rest.nt
  | .tags .. => 0
def Tl.gen : Tl → (i t off iv nb : Nat) → List IC
  | .nil, _, _, _, _, _ => []
  | .fld k rest, i, t, off, iv, nb => k.gen i t off :: rest.gen (i + 1) (t + k.nt) (off + 1) iv nb
  | .lst k esz _ rest, i, t, off, iv, nb => nullF i t off :: loopT k i (t + 9) off iv nb esz :: rest.gen (i + 1) (t + (54 + 2 * k.n)) (off + 1) (iv + 1) (nb + 2)
  | .uid rest, i, t, off, iv, nb => uidF i t off :: rest.gen (i + 1) (t + 9) (off + 16) iv nb
  | .sub f n _ rest, i, t, off, iv, nb => subF f i t off :: rest.gen (i + 1) (t + 7) (off + n) iv nb
  | .tags .., _, _, _, _, _ => []
def Tl.t0 (tl : Tl) : Nat := 4 + tl.nl
def Tl.tail (tl : Tl) (t off : Nat) : List IC := match tl.tg with
  | none => []
  | some (a, b, c) => tagBlks a b c t off
def Tl.tn (tl : Tl) : Nat := match tl.tg with
  | none => 0
  | some _ => 8
def Tl.code (tl : Tl) (off : Nat) : IC × List RV × Nat :=
  (seqs ([.blk [⟨some 2, .alloc tzero, none⟩], .blk [⟨some tl.t0, .mkslice (.const (.int .i64 tl.len)) (.const (.int .i64 tl.len)) 88 tzero, none⟩, ⟨some (tl.t0 + 1), .build tzero [(3, 1, .tmp tl.t0)], none⟩, ⟨some 3, .alloc tzero, none⟩, ⟨none, .st (.tmp 3) 5 (.tmp (tl.t0 + 1)), none⟩]] ++
    (tl.gen 0 (tl.t0 + 2) off 4 0 ++ (tl.tail (tl.t0 + 2 + tl.nt) (off + tl.size) ++ [.blk [⟨some (tl.t0 + 2 + tl.nt + tl.tn), .ldn (.tmp 3) 5, none⟩, ⟨none, .st (.tmp 2) 5 (.tmp (tl.t0 + 2 + tl.nt + tl.tn)), none⟩], .ret]))),
   [.cells 2 5], tl.t0 + 3 + tl.nt + tl.tn)
section
variable {P : Program}
theorem Tl.sound {Tb Lb n B base : Nat} {O : List Nat} (hB : B ≠ Lb) (hLO : Lb ∈ O) : ∀ (tl : Tl) (i t off iv nb : Nat) (gs : List GV) (gcs : List (List Value)) (pre : List Value) (σ : Sl) (w : World) (Q : Exit → Sl → World → Prop), tl.Ok P → tl.ty gs →
    RepL O w gs gcs → B < w.heap.size → Cells w ⟨B, base + off, none⟩ gcs.flatten → σ 0 = .pointer (some ⟨B, base, none⟩) → σ 3 = .pointer (some ⟨Tb, 0, none⟩) → TW w Tb Lb n (pre ++ zrep tl.len tzero) → pre.length = i * 5 → i + tl.len ≤ n → 4 ≤ iv → iv + tl.nl ≤ t → 4 ≤ t →
    (∀ σ' w' tcs, Ag 4 σ σ' → Mod [Lb] w w' → RepTL (fun b => w.heap.size ≤ b) w' (GV.toldF gs) tcs → TW w' Tb Lb n (pre ++ tcs.flatten) → tcs.length = tl.len → Q .normal σ' w') → wpL P (tl.gen i t off iv nb) Q σ w := by
  intro tl
  induction tl with
  | nil =>
    intro i t off iv nb gs gcs pre σ w Q hO hT hr hBl hc h0 h3 hw hpre hi hiv hivt ht hQ
    simp only [Tl.ty] at hT
    subst hT
    exact hQ σ w [] (Ag.refl _ _) (Mod.refl _ _) (by simpa [GV.toldF] using .nil) (by simpa [Tl.len, zrep] using hw) rfl
  | fld k rest ih =>
    intro i t off iv nb gs gcs pre σ w Q hO hT hr hBl hc h0 h3 hw hpre hi hiv hivt ht hQ
    obtain ⟨g, l, rfl, hg, hT⟩ := hT
    obtain ⟨hk, hO⟩ := hO
    cases hr with
    | @cons _ _ cs css h1 h2 =>
      obtain ⟨v, rfl⟩ : ∃ v, cs = [v] := by
        cases k with
        | num c =>
          cases c with
          | true => obtain ⟨k, m, rfl⟩ := hg; cases h1; exact ⟨_, rfl⟩
          | false => obtain ⟨m, rfl, -⟩ := hg; cases h1; exact ⟨_, rfl⟩
        | str => obtain ⟨m, rfl⟩ := hg; cases h1; exact ⟨_, rfl⟩
        | boo f => obtain ⟨m, rfl⟩ := hg; cases h1; exact ⟨_, rfl⟩
        | txt f => obtain ⟨m, rfl⟩ := hg; cases h1 <;> exact ⟨_, rfl⟩
        | oct f => obtain ⟨m, rfl, -⟩ := hg; cases h1; exact ⟨_, rfl⟩
      simp only [Tl.gen, wpL, Tl.len] at hi ⊢
      have hz : zrep (1 + rest.len) tzero = tzero ++ zrep rest.len tzero := by rw [Nat.add_comm, zrep_succ]
      simp only [Tl.len, hz] at hw
      simp only [Tl.nl] at hivt
      simp only [List.flatten_cons] at hc
      refine TK.wp hk ht h0 h3 hw hpre (by omega) hg h1 (by simpa using hc.head) fun σ' w' cs' a' hm' hrep' htw' => ?_
      simp only [thenC]
      have h5 := hrep'.five
      have hsub := hc.sub 1
      refine ih (i + 1) (t + k.nt) (off + 1) iv nb l css (pre ++ cs') σ' w' Q hO hT (h2.mod hm' (by simpa using hLO)) (Nat.lt_of_lt_of_le hBl hm'.size) ?_ (by rw [a' 0 (by omega)]; exact h0) (by rw [a' 3 (by omega)]; exact h3) (by simpa only [List.append_assoc] using htw')
        (by simp only [List.length_append]; omega) (by omega) hiv (by omega) (by omega) fun σ2 w2 tcs a2 hm2 hrep2 htw2 hl2 => ?_
      · have : Cells w ⟨B, base + off + 1, none⟩ css.flatten := by simpa using hsub
        exact this.mod hm' (.inr (by simpa using hB))
      · refine hQ σ2 w2 (cs' :: tcs) (fun q hq => by rw [a2 q hq]; exact a' q (by omega)) (hm'.trans hm2) ?_ (by simpa only [List.flatten_cons, List.append_assoc] using htw2) (by simp [hl2, Tl.len]; omega)
        rw [GV.toldF_cons (by rintro m rfl; exact TK.ty_tag hg)]
        exact .cons (hrep'.mod hm2 (fun b hb hx => by simp only [List.mem_singleton] at hb; subst hb; have := hw.lb.lt; omega) fun _ _ h => h) (hrep2.mod (Mod.refl [] _) (by simp) fun b _ hb => Nat.le_trans hm'.size hb)
  | lst k esz body rest _ ih =>
    intro i t off iv nb gs gcs pre σ w Q hO hT hr hBl hc h0 h3 hw hpre hi hiv hivt ht hQ
    obtain ⟨isnil, sz, xs, l, rfl, hg, hlen, hsz, hT⟩ := hT
    obtain ⟨hk, hO⟩ := hO
    cases hr with
    | @cons _ _ cs css h1 h2 =>
      simp only [Tl.gen, wpL, Tl.len] at hi ⊢
      have hz : zrep (1 + rest.len) tzero = tzero ++ zrep rest.len tzero := by rw [Nat.add_comm, zrep_succ]
      simp only [Tl.len, hz] at hw
      simp only [Tl.nl] at hivt
      simp only [List.flatten_cons] at hc
      -- the slice that the field holds
      obtain ⟨sb, cap, xcs, rfl, hisn, hrx, hsbx, hsn, hszx⟩ : ∃ sb cap xcs, cs = [.slice sb xs.length cap] ∧ isnil = sb.isNone ∧ RepL O w xs xcs ∧ (∀ a, sb = some a → a.block ∉ O ∧ a.block < w.heap.size ∧ Cells w a xcs.flatten) ∧ (sb = none → xs = []) ∧ (∀ c ∈ xcs, c.length = esz) := by
        cases h1 with
        | lst0 => exact ⟨none, 0, [], rfl, rfl, .nil, fun a h => by simp at h, fun _ => rfl, by simp⟩
        | @lst1 a nn c _ _ xcs ha hlt hn hc' hs hl hcells =>
          refine ⟨some a, c, xcs, by rw [hn], rfl, hl, fun a' e => ?_, fun h => by simp at h, fun d hd => ?_⟩
          · simp only [Option.some.injEq] at e; subst e; exact ⟨ha, hlt, hcells⟩
          · rcases hsz with rfl | rfl
            · have := hl.length; cases xcs with | nil => simp at hd | cons a b => simp at this
            · exact hs d hd
      have hcell : w.cell? ⟨B, base + off, none⟩ = some (.slice sb xs.length cap) := by simpa using hc.head
      refine nullF_wp ht h0 h3 hw hpre (by omega) hcell fun σ1 w1 a1 hm1 hsz1 htw1 => ?_
      simp only [thenC]
      have hLn : ∀ x ∈ [Lb], x ∈ O := by simpa using hLO
      refine loopT_wp hk (by omega) (by omega) hiv (by rw [a1 0 (by omega)]; exact h0) (by rw [a1 3 (by omega)]; exact h3) (by omega) htw1 hpre (cell_mod hcell hm1 (by simpa using hB)) hB hLO (hrx.mod hm1 hLn)
        (fun a ha => ⟨(hsbx a ha).1, Nat.lt_of_lt_of_le (hsbx a ha).2.1 hm1.size, (hsbx a ha).2.2.mod hm1 (.inr (by simp only [List.mem_singleton]; exact fun e => (hsbx a ha).1 (e ▸ hLO)))⟩) hsn hszx hg hlen fun σ2 w2 cs' a2 hm2 hrep2 htw2 => ?_
      simp only [thenC]
      have h5 := hrep2.five
      have hsub := hc.sub 1
      have hm12 := hm1.trans hm2
      have a12 : Ag 4 σ σ2 := fun q hq => by rw [a2 q (by omega) (by omega)]; exact a1 q (by omega)
      refine ih (i + 1) (t + (54 + 2 * k.n)) (off + 1) (iv + 1) (nb + 2) l css (pre ++ cs') σ2 w2 Q hO hT (h2.mod hm12 hLn) (Nat.lt_of_lt_of_le hBl hm12.size) ?_ (by rw [a12 0 (by omega)]; exact h0) (by rw [a12 3 (by omega)]; exact h3) (by simpa only [List.append_assoc] using htw2)
        (by simp only [List.length_append]; omega) (by omega) (by omega) (by omega) (by omega) fun σ3 w3 tcs a3 hm3 hrep3 htw3 hl3 => ?_
      · have : Cells w ⟨B, base + off + 1, none⟩ css.flatten := by simpa using hsub
        exact this.mod hm12 (.inr (by simpa using hB))
      · refine hQ σ3 w3 (cs' :: tcs) (a12.trans a3) (hm12.trans hm3) ?_ (by simpa only [List.flatten_cons, List.append_assoc] using htw3) (by simp [hl3, Tl.len]; omega)
        rw [GV.toldF_cons (by rintro m h; simp at h)]
        simp only [GV.told, hisn]
        refine .cons (hrep2.mod hm3 (fun b hb hx => by simp only [List.mem_singleton] at hb; subst hb; have := hw.lb.lt; omega) fun b _ hb => by omega) (hrep3.mod (Mod.refl [] _) (by simp) fun b _ hb => Nat.le_trans hm12.size hb)

  | uid rest ih =>
    intro i t off iv nb gs gcs pre σ w Q hO hT hr hBl hc h0 h3 hw hpre hi hiv hivt ht hQ
    obtain ⟨x, l, rfl, hx, hT⟩ := hT
    cases hr with
    | @cons _ _ cs css h1 h2 =>
      have : cs = u8s x := by cases h1; rfl
      subst this
      simp only [Tl.gen, wpL, Tl.len] at hi ⊢
      have hz : zrep (1 + rest.len) tzero = tzero ++ zrep rest.len tzero := by rw [Nat.add_comm, zrep_succ]
      simp only [Tl.len, hz] at hw
      simp only [Tl.nl] at hivt
      simp only [List.flatten_cons] at hc
      have hcx : Cells w ⟨B, base + off, none⟩ (u8s x) := by have := hc.take (u8s x).length; simpa using this
      refine uidF_wp ht h0 h3 hw hpre (by omega) hx hcx hBl fun σ' w' cs' a' hm' hrep' htw' => ?_
      simp only [thenC]
      have h5 := hrep'.five
      have hsub := hc.sub 16
      refine ih (i + 1) (t + 9) (off + 16) iv nb l css (pre ++ cs') σ' w' Q hO hT (h2.mod hm' (by simpa using hLO)) (Nat.lt_of_lt_of_le hBl hm'.size) ?_ (by rw [a' 0 (by omega)]; exact h0) (by rw [a' 3 (by omega)]; exact h3) (by simpa only [List.append_assoc] using htw')
        (by simp only [List.length_append]; omega) (by omega) hiv (by omega) (by omega) fun σ2 w2 tcs a2 hm2 hrep2 htw2 hl2 => ?_
      · have : Cells w ⟨B, base + off + 16, none⟩ css.flatten := by
          have hlen : (u8s x).length = 16 := by rw [u8s_length, hx]
          rw [← hlen, List.drop_left] at hsub
          rw [hlen] at hsub
          exact hsub
        exact this.mod hm' (.inr (by simpa using hB))
      · refine hQ σ2 w2 (cs' :: tcs) (fun q hq => by rw [a2 q hq]; exact a' q (by omega)) (hm'.trans hm2) ?_ (by simpa only [List.flatten_cons, List.append_assoc] using htw2) (by simp [hl2, Tl.len]; omega)
        rw [GV.toldF_cons (by rintro m h; simp at h)]
        exact .cons (hrep'.mod hm2 (fun b hb hx => by simp only [List.mem_singleton] at hb; subst hb; have := hw.lb.lt; omega) fun _ _ h => h) (hrep2.mod (Mod.refl [] _) (by simp) fun b _ hb => Nat.le_trans hm'.size hb)
  | sub f sz body rest _ ih =>
    intro i t off iv nb gs gcs pre σ w Q hO hT hr hBl hc h0 h3 hw hpre hi hiv hivt ht hQ
    obtain ⟨x, l, rfl, hx, hT, -⟩ := hT
    obtain ⟨hk, hO, hsz⟩ := hO
    cases hr with
    | @cons _ _ cs css h1 h2 =>
      obtain ⟨xcs, rfl, hrx⟩ : ∃ xcs, cs = xcs.flatten ∧ RepL O w x xcs := by
        cases h1 with
        | rcd h => exact ⟨_, rfl, h⟩
      have hxl := hsz O w x xcs hx hrx
      simp only [Tl.gen, wpL, Tl.len] at hi ⊢
      have hz : zrep (1 + rest.len) tzero = tzero ++ zrep rest.len tzero := by rw [Nat.add_comm, zrep_succ]
      simp only [Tl.len, hz] at hw
      simp only [Tl.nl] at hivt
      rw [List.flatten_cons] at hc
      have hcx : Cells w ⟨B, base + off, none⟩ xcs.flatten := by have := hc.take xcs.flatten.length; simpa using this
      refine subF_wp hk ht h0 h3 hw hpre (by omega) hx hrx hcx fun σ' w' cs' a' hm' hrep' htw' => ?_
      simp only [thenC]
      have h5 := hrep'.five
      have hsub := hc.sub sz
      refine ih (i + 1) (t + 7) (off + sz) iv nb l css (pre ++ cs') σ' w' Q hO hT (h2.mod hm' (by simpa using hLO)) (Nat.lt_of_lt_of_le hBl hm'.size) ?_ (by rw [a' 0 (by omega)]; exact h0) (by rw [a' 3 (by omega)]; exact h3) (by simpa only [List.append_assoc] using htw')
        (by simp only [List.length_append]; omega) (by omega) hiv (by omega) (by omega) fun σ2 w2 tcs a2 hm2 hrep2 htw2 hl2 => ?_
      · have : Cells w ⟨B, base + (off + sz), none⟩ css.flatten := by
          rw [← hxl, List.drop_left] at hsub
          rw [hxl] at hsub
          rwa [← Nat.add_assoc]
        exact this.mod hm' (.inr (by simpa using hB))
      · refine hQ σ2 w2 (cs' :: tcs) (fun q hq => by rw [a2 q hq]; exact a' q (by omega)) (hm'.trans hm2) ?_ (by simpa only [List.flatten_cons, List.append_assoc] using htw2) (by simp [hl2, Tl.len]; omega)
        rw [GV.toldF_cons (by rintro m h; simp at h)]
        exact .cons (hrep'.mod hm2 (fun b hb hx => by simp only [List.mem_singleton] at hb; subst hb; have := hw.lb.lt; omega) fun _ _ h => h) (hrep2.mod (Mod.refl [] _) (by simp) fun b _ hb => Nat.le_trans hm'.size hb)
  | tags a b c =>
    intro i t off iv nb gs gcs pre σ w Q hO hT hr hBl hc h0 h3 hw hpre hi hiv hivt ht hQ
    obtain ⟨m, rfl, -⟩ := hT
    exact hQ σ w [] (Ag.refl _ _) (Mod.refl _ _) (by simpa [GV.toldF] using .nil) (by simpa [Tl.len, zrep] using hw) rfl
theorem Tl.no_tags : ∀ (tl : Tl) (gs : List GV), tl.tg = none → tl.ty gs → GV.tagsF gs = [] := by
  intro tl
  induction tl with
  | nil => intro gs _ h; simp only [Tl.ty] at h; subst h; rfl
  | fld k rest ih =>
    rintro gs h ⟨g, l, rfl, hg, hT⟩
    have := ih l h hT
    cases g <;> first | exact this | exact (TK.ty_tag hg).elim
  | lst k esz body rest _ ih => rintro gs h ⟨_, _, _, l, rfl, -, -, -, hT⟩; exact ih l h hT
  | uid rest ih => rintro gs h ⟨_, l, rfl, -, hT⟩; exact ih l h hT
  | sub f sz body rest _ ih => rintro gs h ⟨_, l, rfl, -, hT, -⟩; exact ih l h hT
  | tags a b c => intro gs h; simp [Tl.tg] at h
theorem Tl.tag_cell {O : List Nat} {w : World} : ∀ (tl : Tl) (gs : List GV) (gcs : List (List Value)) (a b c : FuncId), tl.tg = some (a, b, c) → tl.Ok P → tl.ty gs → RepL O w gs gcs →
    ∃ m v, gcs.flatten[tl.size]? = some v ∧ Rep O w (.tag m) [v] ∧ GV.tagsF gs = sortT m ∧ m.length ≤ 2147483647 ∧ (∀ p ∈ m, p.2.length ≤ 2147483647) ∧ TagFs P a b c := by
  intro tl
  have step : ∀ {n k : Nat} {g : GV} {l : List GV} {cs : List Value} {css : List (List Value)} {m : List (Nat × List UInt8)} {v : Value}, cs.length = n → (∀ m, g ≠ .tag m) → css.flatten[k]? = some v → GV.tagsF l = sortT m →
      (cs :: css).flatten[n + k]? = some v ∧ GV.tagsF (g :: l) = sortT m := by
    intro n k g l cs css m v hn hg hk ht
    refine ⟨?_, ?_⟩
    · rw [List.flatten_cons, List.getElem?_append_right (by omega), show n + k - cs.length = k by omega]; exact hk
    · cases g <;> first | exact ht | exact absurd rfl (hg _)
  induction tl with
  | nil => intro gs gcs a b c h; simp [Tl.tg] at h
  | fld k rest ih =>
    intro gs gcs a b c h hO hT hr
    obtain ⟨g, l, rfl, hg, hT⟩ := hT
    cases hr with
    | @cons _ _ cs css h1 h2 =>
      obtain ⟨m, v, e1, e2, e3, e4⟩ := ih l css a b c h hO.2 hT h2
      obtain ⟨q1, q2⟩ := step (n := 1) (g := g) (TK.one hg h1) (by rintro m rfl; exact TK.ty_tag hg) e1 e3
      exact ⟨m, v, q1, e2, q2, e4⟩
  | lst k esz body rest _ ih =>
    intro gs gcs a b c h hO hT hr
    obtain ⟨isnil, sz, x, l, rfl, -, -, -, hT⟩ := hT
    cases hr with
    | @cons _ _ cs css h1 h2 =>
      obtain ⟨m, v, e1, e2, e3, e4⟩ := ih l css a b c h hO.2 hT h2
      have hl : cs.length = 1 := by cases h1 <;> rfl
      obtain ⟨q1, q2⟩ := step (n := 1) (g := .lst isnil sz x) hl (by rintro m h; simp at h) e1 e3
      exact ⟨m, v, q1, e2, q2, e4⟩
  | uid rest ih =>
    intro gs gcs a b c h hO hT hr
    obtain ⟨x, l, rfl, hx, hT⟩ := hT
    cases hr with
    | @cons _ _ cs css h1 h2 =>
      obtain ⟨m, v, e1, e2, e3, e4⟩ := ih l css a b c h hO hT h2
      have hl : cs.length = 16 := by cases h1; rw [u8s_length, hx]
      obtain ⟨q1, q2⟩ := step (n := 16) (g := .arr x) hl (by rintro m h; simp at h) e1 e3
      exact ⟨m, v, q1, e2, q2, e4⟩
  | sub f sz body rest _ ih =>
    intro gs gcs a b c h hO hT hr
    obtain ⟨x, l, rfl, hx, hT, -⟩ := hT
    cases hr with
    | @cons _ _ cs css h1 h2 =>
      obtain ⟨m, v, e1, e2, e3, e4⟩ := ih l css a b c h hO.2.1 hT h2
      have hl : cs.length = sz := by cases h1 with | rcd h1 => exact hO.2.2 _ _ _ _ hx h1
      obtain ⟨q1, q2⟩ := step (n := sz) (g := .rcd x) hl (by rintro m h; simp at h) e1 e3
      exact ⟨m, v, q1, e2, q2, e4⟩
  | tags a' b' c' =>
    intro gs gcs a b c h hO hT hr
    simp only [Tl.tg, Option.some.injEq, Prod.mk.injEq] at h
    obtain ⟨rfl, rfl, rfl⟩ := h
    obtain ⟨m, rfl, h1, h2⟩ := hT
    cases hr with
    | @cons _ _ cs css q1 q2 =>
      cases q2
      obtain ⟨v, rfl⟩ : ∃ v, cs = [v] := by cases q1 <;> exact ⟨_, rfl⟩
      exact ⟨m, v, rfl, q1, rfl, h1, h2, hO⟩
def TellAt (P : Program) (f : FuncId) (off : Nat) (T : List GV → Prop) : Prop :=
  ∀ (O : List Nat) (w : World) (B base : Nat) (gs : List GV) (css : List (List Value)), T gs → RepL O w gs css → B < w.heap.size → Cells w ⟨B, base + off, none⟩ css.flatten →
    TellC P f [.pointer (some ⟨B, base, none⟩)] w (GV.rcd gs).told
theorem Tl.call {tl : Tl} {f off : Nat} (hm : P.follows .mixedOrders = true) (h : liftF P f = some (tl.code off)) (hO : tl.Ok P) (hlen : tl.len ≤ 1000) : TellAt P f off tl.ty := by
  intro O w B base gs css hT hr hBlt hc
  unfold Tl.code at h
  refine call_of h hm (by simp; omega) ?_
  rw [wpC_seqs]
  have s0 : args0 [.pointer (some ⟨B, base, none⟩)] 0 = .pointer (some ⟨B, base, none⟩) := rfl
  generalize args0 [.pointer (some ⟨B, base, none⟩)] = σ0 at s0
  have ht0 : tl.t0 = 4 + tl.nl := rfl
  simp only [List.cons_append, List.nil_append, wpL]
  simp only [wpC_blk, wpR, RI.wp, gOk, if_true, RK.run, ev, updo]
  intro T1
  simp only [thenC]
  have hmul : ((tl.len : Int) * (88 : Nat)) ≤ 70368744177664 := by omega
  refine ⟨by omega, by omega, hmul, by omega, ?_⟩
  intro T2
  simp only [Int.toNat_natCast, upd_same, List.map_cons, List.map_nil]
  have hf : ∀ v : Value, v.cells = #[v] → fillL tzero [(3, 1, v)] = some [.int .i64 0, .slice none 0 0, .bool false, v, .slice none 0 0] := by
    intro v hv
    simp only [fillL, hv]
    simp [tzero, splice]
  rw [hf _ rfl]
  simp only
  intro T3
  have ec : ∀ cs, (Value.agg cs).cells = cs := fun _ => rfl
  simp only [upd, if_true, show tl.t0 + 1 ≠ 3 by omega, if_false, ec]
  -- the three new blocks
  have b2 := Blk.new w tzero T1
  generalize hw1 : w.alloc (.cells tzero.toArray T1) = w1 at b2 ⊢
  have z1 : w1.heap.size = w.heap.size + 1 := by rw [← hw1]; simp
  have m1 : Mod [] w w1 := by rw [← hw1]; exact Mod.alloc _ _ _
  have bL := Blk.new w1 (zrep tl.len tzero) T2
  generalize hw2 : w1.alloc (.cells (zrep tl.len tzero).toArray T2) = w2 at bL ⊢
  have z2 : w2.heap.size = w1.heap.size + 1 := by rw [← hw2]; simp
  have m2 : Mod [] w1 w2 := by rw [← hw2]; exact Mod.alloc _ _ _
  obtain ⟨k1, k2, k3⟩ := new_put w2 tzero [.int .i64 0, .slice none 0 0, .bool false, .slice (some ⟨w1.heap.size, 0, none⟩) tl.len tl.len, .slice none 0 0] T3 rfl (by simp [Value.oneCell'])
  generalize hw3 : w2.alloc (.cells tzero.toArray T3) = w3 at k1 k2 k3 ⊢
  have z3 : w3.heap.size = w2.heap.size + 1 := by rw [← hw3]; simp
  refine ⟨by rfl, by simpa using k1, ?_⟩
  rw [wpL_append]
  have hput : (putCells w3 ⟨w2.heap.size, 0, none⟩ 0 [.int .i64 0, .slice none 0 0, .bool false, .slice (some ⟨w1.heap.size, 0, none⟩) tl.len tl.len, .slice none 0 0]).heap.size = w3.heap.size := size_putCells ..
  generalize hw4 : putCells w3 ⟨w2.heap.size, 0, none⟩ 0 [.int .i64 0, .slice none 0 0, .bool false, .slice (some ⟨w1.heap.size, 0, none⟩) tl.len tl.len, .slice none 0 0] = w4 at k2 k3 hput
  have m14 : Mod [] w w4 := (m1.trans m2).trans k3
  have htw : TW w4 w2.heap.size w1.heap.size tl.len (zrep tl.len tzero) := ⟨k2, bL.mod k3 (by simp), by omega⟩
  refine Tl.sound (Tb := w2.heap.size) (Lb := w1.heap.size) (n := tl.len) (B := B) (base := base) (O := w2.heap.size :: w1.heap.size :: O) (by omega) (by simp) tl 0 (tl.t0 + 2) off 4 0 gs css [] _ w4 _ hO hT
    (hr.fresh m14 (by simp) (fun x hx => by
      rcases List.mem_cons.1 hx with rfl | hx
      · exact .inr (by omega)
      · rcases List.mem_cons.1 hx with rfl | hx
        · exact .inr (by omega)
        · exact .inl hx)) (by omega) (hc.mod m14 (.inr (by simp))) ?_ ?_ htw rfl (by omega) (by omega) (by omega) (by omega) fun σ' w' tcs a' hm' hrep htw' hln => ?_
  · simp only [upd, show (0 : Nat) ≠ 3 by omega, show (0 : Nat) ≠ tl.t0 + 1 by omega, show (0 : Nat) ≠ tl.t0 by omega, show (0 : Nat) ≠ 2 by omega, if_false, s0]
  · simp only [upd, if_true]
  · have s2' : σ' 2 = .pointer (some ⟨w.heap.size, 0, none⟩) := by
      rw [a' 2 (by omega)]
      simp only [upd, show (2 : Nat) ≠ 3 by omega, show (2 : Nat) ≠ tl.t0 + 1 by omega, show (2 : Nat) ≠ tl.t0 by omega, if_false, if_true]
    have s3' : σ' 3 = .pointer (some ⟨w2.heap.size, 0, none⟩) := by
      rw [a' 3 (by omega)]
      simp only [upd, if_true]
    have s0' : σ' 0 = .pointer (some ⟨B, base, none⟩) := by
      rw [a' 0 (by omega)]
      simp only [upd, show (0 : Nat) ≠ 3 by omega, show (0 : Nat) ≠ tl.t0 + 1 by omega, show (0 : Nat) ≠ tl.t0 by omega, show (0 : Nat) ≠ 2 by omega, if_false, s0]
    have hb2 : Blk w' w.heap.size tzero := ((b2.mod (m2.trans k3) (by simp))).mod hm' (by simp; omega)
    -- behind the fields
    have fin : ∀ (σ5 : Sl) (w5 : World) (t : Nat) (uv : Value) (ucs : List (List Value)), 4 ≤ t → σ5 2 = .pointer (some ⟨w.heap.size, 0, none⟩) → σ5 3 = .pointer (some ⟨w2.heap.size, 0, none⟩) → Mod [w2.heap.size] w' w5 →
        Blk w5 w2.heap.size [.int .i64 0, .slice none 0 0, .bool false, .slice (some ⟨w1.heap.size, 0, none⟩) tl.len tl.len, uv] → SlC (fun b => w.heap.size ≤ b ∧ b ≠ w.heap.size) w5 uv (GV.tagsF gs).length ucs.flatten →
        RepU (fun b => w.heap.size ≤ b ∧ b ≠ w.heap.size) w5 (GV.tagsF gs) ucs → wpL P [.blk [⟨some t, .ldn (.tmp 3) 5, none⟩, ⟨none, .st (.tmp 2) 5 (.tmp t), none⟩], .ret] (postC [.cells 2 5] fun e w6 => ∃ cs, e = .returned (.agg cs.toArray) ∧ RepT (fun b => w.heap.size ≤ b) w6 (GV.rcd gs).told cs ∧ Mod [] w w6) σ5 w5 := by
      intro σ5 w5 t uv ucs ht5 q2 q3 hm5 hb5 hus hru
      have uone : uv.oneCell' = true := hus.one
      have hld : cellsAt w5 ⟨w2.heap.size, 0, none⟩ 0 5 = some [.int .i64 0, .slice none 0 0, .bool false, .slice (some ⟨w1.heap.size, 0, none⟩) tl.len tl.len, uv] := cellsAt_of' hb5.cells rfl
      have hb2' : Blk w5 w.heap.size tzero := hb2.mod hm5 (by simp; omega)
      have hput2 : Mod [w.heap.size] w5 (putCells w5 ⟨w.heap.size, 0, none⟩ 0 [.int .i64 0, .slice none 0 0, .bool false, .slice (some ⟨w1.heap.size, 0, none⟩) tl.len tl.len, uv]) := Mod.put (by simp)
      have hb3 := hb2'.put (o := 0) (vs := [.int .i64 0, .slice none 0 0, .bool false, .slice (some ⟨w1.heap.size, 0, none⟩) tl.len tl.len, uv]) (by simp [tzero])
      rw [splice_all (by rfl)] at hb3
      simp only [wpL]
      rw [wpC_blk]
      refine wpR_step (v := .agg [.int .i64 0, .slice none 0 0, .bool false, .slice (some ⟨w1.heap.size, 0, none⟩) tl.len tl.len, uv].toArray) (by simp only [RK.val?, ev, q3, hld, Option.map_some]) ?_
      refine wpR_run ?_
      simp only [RK.run, ev, updo, upd, show (2 : Nat) ≠ t by omega, if_false, if_true, q2, ec]
      refine ⟨rfl, stOk_many hb2' (by simp [tzero]) (fun x hx => by
        simp only [List.mem_cons, List.not_mem_nil, or_false] at hx
        rcases hx with rfl | rfl | rfl | rfl | rfl <;> first | rfl | exact uone), ?_⟩
      refine wpR_done ?_
      simp only [wpC, thenC, postC, rvals, List.mapM_cons, List.mapM_nil, RV.val, upd, show (2 : Nat) ≠ t by omega, if_false, q2, cellsAt_of' hb3.cells (n := 5) rfl, Option.bind_eq_bind, Option.map_some, Option.bind_some, Option.pure_def, tup_one]
      have m56 : Mod [w2.heap.size, w.heap.size] w' (putCells w5 ⟨w.heap.size, 0, none⟩ 0 [.int .i64 0, .slice none 0 0, .bool false, .slice (some ⟨w1.heap.size, 0, none⟩) tl.len tl.len, uv]) := (hm5.mono (by simp)).trans (hput2.mono (by simp))
      refine ⟨_, rfl, ?_, ?_⟩
      · have hlt : (GV.toldF gs).length = tl.len := hrep.length.trans hln
        simp only [GV.told]
        refine .mk (css := tcs) (uss := ucs) SlC.nil ⟨some ⟨w1.heap.size, 0, none⟩, tl.len, by rw [hlt], by rw [hlt]; exact Nat.le_refl _, fun h => by simp at h, fun a ha _ => ?_⟩ ?_
          (hus.mod hput2 (fun b hb hx => by simp only [List.mem_singleton] at hb; exact hx.2 hb) fun b _ hb => hb.1) (hru.mod hput2 (fun b hb hx => by simp only [List.mem_singleton] at hb; exact hx.2 hb) fun b _ hb => hb.1)
        · simp only [Option.some.injEq] at ha; subst ha
          refine ⟨show w.heap.size ≤ w1.heap.size by omega, ?_, ?_⟩
          · exact Nat.lt_of_lt_of_le htw'.lb.lt m56.size
          · have := (htw'.lb.mod m56 (by simp; omega)).cells
            simpa using this
        · exact (hrep.mod m56 (fun b hb hx => by simp only [List.mem_cons, List.not_mem_nil, or_false] at hb; omega) fun b _ hb => by omega)
      · refine Mod.drop (b := w.heap.size) (S := []) ?_ (Nat.le_refl _)
        refine Mod.drop (b := w1.heap.size) (S := [w.heap.size]) ?_ (by omega)
        refine Mod.drop (b := w2.heap.size) (S := [w1.heap.size, w.heap.size]) ?_ (by omega)
        exact (m14.nil.trans (hm'.mono (by simp))).trans (m56.mono (by simp))
    simp only [thenC]
    rw [wpL_append]
    cases htg : tl.tg with
    | none =>
      have e1 : tl.tail (tl.t0 + 2 + tl.nt) (off + tl.size) = [] := by unfold Tl.tail; rw [htg]
      rw [e1]
      have hnt : GV.tagsF gs = [] := Tl.no_tags tl gs htg hT
      have := fin σ' w' (tl.t0 + 2 + tl.nt + tl.tn) (.slice none 0 0) [] (by omega) s2' s3' (Mod.refl _ _) htw'.tb (by rw [hnt]; exact SlC.nil) (by rw [hnt]; exact .nil)
      simpa only [wpL, thenC] using this
    | some q =>
      obtain ⟨a, b, c⟩ := q
      have e1 : tl.tail (tl.t0 + 2 + tl.nt) (off + tl.size) = tagBlks a b c (tl.t0 + 2 + tl.nt) (off + tl.size) := by unfold Tl.tail; rw [htg]
      rw [e1]
      obtain ⟨m, v, u1, u2, u3, u4, u5, u6⟩ := Tl.tag_cell tl gs css a b c htg hO hT hr
      have hcv : w.cell? ⟨B, base + (off + tl.size), none⟩ = some v := by
        have := hc.2 tl.size v u1
        simpa [Nat.add_assoc] using this
      have hrv : Rep (w2.heap.size :: w1.heap.size :: O) w4 (.tag m) [v] := u2.fresh m14 (by simp) (fun x hx => by
        rcases List.mem_cons.1 hx with rfl | hx
        · exact .inr (by omega)
        · rcases List.mem_cons.1 hx with rfl | hx
          · exact .inr (by omega)
          · exact .inl hx)
      have hrv' := hrv.mod hm' (by simp)
      have hTM : TagM (fun b => b ∉ w2.heap.size :: w1.heap.size :: O) w' v m ∧ ∀ r, v = .map (some r) → r ≠ w2.heap.size := by
        cases hrv' with
        | tag0 => exact ⟨.inl ⟨rfl, rfl⟩, fun r h => by simp at h⟩
        | @tag1 r _ h1 h2 => exact ⟨.inr ⟨r, rfl, h2⟩, fun r' h => by simp only [Value.map.injEq, Option.some.injEq] at h; subst h; exact fun e => h1 (by simp [e])⟩
      refine tagBlks_wp u6 (okv := fun b => b ∉ w2.heap.size :: w1.heap.size :: O) (by omega) s0' s3' htw'.tb (cell_mod (cell_mod hcv m14 (by simp)) hm' (by simp; omega)) hTM.1 (fun b hb e => hb (by simp [e])) (by omega) hTM.2 u4 u5 fun σ6 w6 uv ucs a6 hm6 hb6 hs6 hr6 => ?_
      simp only [thenC]
      refine fin σ6 w6 (tl.t0 + 2 + tl.nt + tl.tn) uv ucs (by omega) (by rw [a6 2 (by omega)]; exact s2') (by rw [a6 3 (by omega)]; exact s3') hm6 hb6 ?_ ?_
      · rw [u3]; exact hs6.mod (Mod.refl [] _) (by simp) fun b _ hb => by have := hm'.size; omega
      · rw [u3]; exact hr6.mod (Mod.refl [] _) (by simp) fun b _ hb => by have := hm'.size; omega
end
end Go.Msk

namespace Go.Msk
open Go.RowKit
set_option maxRecDepth 100000
def PK.ty : PK → GV → Prop
  | .bool, g => ∃ b, g = .num (.bool b)
  | .i64, g => ∃ n, g = .num (.int .i64 n) ∧ IntKind.i64.wrap n = n
  | .str, g => ∃ l, g = .num (Msk.str l)
  | .nstr, g => ∃ o, g = .nstr o
  | .byt, g | .nbyt, g => ∃ o, g = .byt o ∧ ∀ l, o = some l → l.length ≤ 2147483647
  | .uuid, g => ∃ l, g = .arr l ∧ l.length = 16
  | _, g => ∃ k n, g = .num (.int k n)
def fitF : PK → TK → Bool
  | .bool, .boo _ => true
  | .i64, .num false => true
  | .str, .str => true
  | .nstr, .txt _ => true
  | .byt, .oct _ | .nbyt, .oct _ => true
  | .i8, .num true | .i16, .num true | .u16, .num true | .i32, .num true | .u32, .num true => true
  | _, _ => false
def fitE : PK → EK → Bool
  | .i64, .num false => true
  | .str, .str => true
  | .i8, .num true | .i16, .num true | .u16, .num true | .i32, .num true | .u32, .num true => true
  | _, _ => false
theorem fitF_ty {p : PK} {k : TK} {g : GV} (h : fitF p k = true) (hg : p.ty g) : k.ty g := by
  cases p <;> cases k <;> simp only [fitF, Bool.false_eq_true] at h <;> first | exact hg | (rename_i c; cases c <;> simp only [Bool.false_eq_true] at h <;> exact hg)
theorem fitE_ty {p : PK} {k : EK} {T : List GV → Prop} {g : GV} (h : fitE p k = true) (hg : p.ty g) : k.ty T g := by
  cases p <;> cases k <;> simp only [fitE, Bool.false_eq_true] at h <;> first | exact hg | (rename_i c; cases c <;> simp only [Bool.false_eq_true] at h <;> exact hg)
def fitD : PK → Df → Bool
  | .bool, .bool _ => true
  | .i64, .int .i64 n => decide (IntKind.i64.wrap n = n)
  | .str, .str _ => true
  | .nstr, .nstr => true
  | .byt, .byt | .nbyt, .byt => true
  | .uuid, .uuid => true
  | .i8, .int .. | .i16, .int .. | .u16, .int .. | .i32, .int .. | .u32, .int .. => true
  | _, _ => false
theorem fitD_ty {p : PK} {d : Df} (h : fitD p d = true) : p.ty d.gv := by
  cases p <;> cases d <;> simp only [fitD, Bool.false_eq_true] at h <;> first | exact ⟨_, _, rfl⟩ | exact ⟨_, rfl⟩ | exact ⟨none, rfl, by simp⟩ | exact ⟨_, rfl, by simp⟩ | skip
  rename_i k n
  cases k <;> simp only [Bool.false_eq_true, decide_eq_true_eq] at h
  exact ⟨n, rfl, h⟩
def fit : Sc → Tl → Bool
  | .nil, .nil => true
  | .prm _ _ _ p d rest, .fld k r => fitF p k && fitD p d && fit rest r
  | .prm _ _ _ p d rest, .uid r => decide (p = .uuid) && fitD p d && fit rest r
  | .enm _ _ _ p d rest, .fld k r => fitF p k && fitD p d && fit rest r
  | .lsp _ _ _ d _ _ p rest, .lst k esz _ r => fitE p k && decide (d.size = esz) && fit rest r
  | .lss _ _ _ _ _ body rest, .lst (.tell _) esz b r => fit body b && decide (body.size = esz) && fit rest r
  | .sub _ _ body rest, .sub _ n b r => fit body b && decide (body.size = n) && fit rest r
  | .tags _, .tags .. => true
  | .uid _ _ rest, .uid r => fit rest r
  | _, _ => false
theorem fit_dgv : ∀ (sc : Sc) (tl : Tl), fit sc tl = true → tl.ty sc.dgv := by
  intro sc
  induction sc with
  | nil => intro tl hf; cases tl <;> simp only [fit, Bool.false_eq_true] at hf; rfl
  | prm vc i r p d rest ih =>
    intro tl hf
    cases tl <;> simp only [fit, Bool.false_eq_true, Bool.and_eq_true] at hf
    · exact ⟨_, _, rfl, fitF_ty hf.1.1 (fitD_ty hf.1.2), ih _ hf.2⟩
    · have e : p = .uuid := by simpa using hf.1.1
      subst e
      obtain ⟨l, h1, h2⟩ := fitD_ty hf.1.2
      exact ⟨l, _, by rw [Sc.dgv, h1], h2, ih _ hf.2⟩
  | enm vc i r p d rest ih =>
    intro tl hf
    cases tl <;> simp only [fit, Bool.false_eq_true, Bool.and_eq_true] at hf
    exact ⟨_, _, rfl, fitF_ty hf.1.1 (fitD_ty hf.1.2), ih _ hf.2⟩
  | lsp vc len by' d i r p rest ih =>
    intro tl hf
    cases tl <;> simp only [fit, Bool.false_eq_true, Bool.and_eq_true] at hf
    exact ⟨_, _, _, _, rfl, by simp, by simp, .inl rfl, ih _ hf.2⟩
  | lss vc len by' z dfl body rest ihb ih =>
    intro tl hf
    cases tl with
    | lst k esz b r' =>
      cases k <;> simp only [fit, Bool.false_eq_true, Bool.and_eq_true] at hf
      exact ⟨_, _, _, _, rfl, by simp, by simp, .inl rfl, ih _ hf.2⟩
    | _ => simp [fit] at hf
  | sub vc dfl body rest ihb ih =>
    intro tl hf
    cases tl <;> simp only [fit, Bool.false_eq_true, Bool.and_eq_true] at hf
    exact ⟨_, _, rfl, ihb _ hf.1.1, ih _ hf.2, rfl⟩
  | uid vc f rest ih =>
    intro tl hf
    cases tl <;> simp only [fit, Bool.false_eq_true] at hf
    exact ⟨_, _, rfl, by simp, ih _ hf⟩
  | tags f =>
    intro tl hf
    cases tl <;> simp only [fit, Bool.false_eq_true] at hf
    exact ⟨[], rfl, by simp, by simp⟩
end Go.Msk

namespace Go.Msk
open Go.RowKit
set_option maxRecDepth 100000
section
variable {P : Program} {F : Nat → Nat}
attribute [local simp] bnd wpC wpR RI.wp gOk RK.run thenC inBlockC updo upd ev args0 postC rvals RV.val tup_one isShift
theorem got_loop2 {N : Nat} {w w3 : World} {Pb b2 Ob : Nat} {n : Int} {sv lv uv0 : Value} {null : Bool} {u : List (Nat × List UInt8)} {uss : List (List Value)} {σ : Sl} {Q : Exit → Sl → World → Prop}
    (hw : Mod [] w w3 ∨ (Mod [Ob] w w3)) (_hN : N ≤ w.heap.size) (hu : SlC (fun b => b < N) w uv0 u.length uss.flatten) (hr : RepU (fun b => b < N) w u uss) (hlen : u.length ≤ 2147483647)
    (hob : Blk w3 Ob [.int .i64 n, sv, .bool null, lv, .slice none 0 0]) (hoN : N ≤ Ob)
    (h1 : σ 1 = .pointer (some ⟨Pb, 0, none⟩)) (h2 : σ 2 = .pointer (some ⟨b2, 0, none⟩)) (h3 : σ 3 = .pointer (some ⟨Ob, 0, none⟩)) (hpb : w3.cell? ⟨Pb, 4, none⟩ = some uv0)
    (hQ : ∀ σ' w' uv ucs, σ' 2 = .pointer (some ⟨b2, 0, none⟩) → σ' 3 = .pointer (some ⟨Ob, 0, none⟩) → GU w3 w' Ob n sv lv uv null N u ucs → ucs.length = u.length → Q .normal σ' w') :
    wpC P (.seq (.blk [⟨some 30, .fad (.tmp 1) 4, none⟩, ⟨some 31, .ld (.tmp 30), none⟩, ⟨some 32, .len (.tmp 31), none⟩, ⟨some 33, .mv (.const (.int .i64 0)), none⟩])
      (.block 2 (.loop (.seq (.blk [⟨some 34, .bin .lss (.tmp 33) (.tmp 32), none⟩]) (.seq (.cond (.tmp 34) .skip (.exit 2))
        (.seq (.block 3 (.seq (.blk [⟨some 35, .iad (.tmp 31) (.tmp 33) 2, none⟩, ⟨some 36, .ldn (.tmp 35) 2, none⟩, ⟨some 7, .alloc uzero, none⟩, ⟨none, .st (.tmp 7) 2 (.tmp 36), none⟩])
            (.blk [⟨some 37, .fad (.tmp 3) 4, none⟩, ⟨some 38, .ld (.tmp 37), none⟩, ⟨some 39, .fad (.tmp 7) 0, none⟩, ⟨some 40, .ld (.tmp 39), none⟩, ⟨some 41, .fad (.tmp 7) 1, none⟩, ⟨some 42, .ld (.tmp 41), none⟩,
                ⟨some 43, .build uzero [(0, 1, .tmp 40), (1, 1, .tmp 42)], none⟩, ⟨some 44, .bslice 1 uzero [(0, 2, .tmp 43)], none⟩, ⟨some 45, .append (.tmp 38) (.tmp 44) 2 32, none⟩, ⟨some 46, .fad (.tmp 3) 4, none⟩, ⟨none, .st (.tmp 46) 1 (.tmp 45), none⟩])))
          (.blk [⟨some 47, .bin .add (.tmp 33) (.const (.int .i64 1)), none⟩, ⟨some 33, .mv (.tmp 47), none⟩])))))))
      Q σ w3 := by
  obtain ⟨lb, lc, elv⟩ := hu.shape
  have hol := hob.lt
  have hw' : Mod [Ob] w w3 := hw.elim (·.nil) id
  rw [wpC_seq, wpC_blk]
  refine wpR_step (v := .pointer (some ⟨Pb, 4, none⟩)) (by simp [RK.val?, h1, Addr.add_mk]) ?_
  refine wpR_step (v := uv0) (by simp [RK.val?, hpb]) ?_
  refine wpR_step (v := .int .i64 u.length) (by simp [RK.val?, elv]) ?_
  refine wpR_step (v := .int .i64 0) (by simp [RK.val?]) ?_
  simp only [wpR, thenC]
  rw [wpC_block, wpC_loop]
  refine ⟨fun σ1 w1 => ∃ j uv ucs, j ≤ u.length ∧ σ1 2 = .pointer (some ⟨b2, 0, none⟩) ∧ σ1 3 = .pointer (some ⟨Ob, 0, none⟩) ∧ σ1 31 = uv0 ∧ σ1 32 = .int .i64 u.length ∧ σ1 33 = .int .i64 j ∧
      GU w3 w1 Ob n sv lv uv null N (u.take j) ucs ∧ ucs.length = j,
    fun σ1 _ => u.length - (match σ1 33 with | .int _ j => j.toNat | _ => 0), ⟨0, .slice none 0 0, [], Nat.zero_le _, by simp [h2], by simp [h3], by simp, by simp, by simp, ⟨hob, ⟨by simp, .inl ⟨rfl, rfl⟩⟩, by simpa using .nil, Mod.refl _ _, hol, hoN⟩, rfl⟩, ?_⟩
  rintro σ1 w1 ⟨j, uv, ucs, hj, s2, s3, s31, s32, s33, hgs, htl⟩
  rw [wpC_seq, wpC_blk]
  refine wpR_step (v := .bool (decide ((j : Int) < u.length))) (by simp [RK.val?, s32, s33, intBin]) ?_
  simp only [wpR, thenC]
  rw [wpC_seq]
  by_cases hlt : j < u.length
  · rw [wpC_cond_t (by simp [hlt]), wpC_skip]
    simp only [thenC]
    rw [wpC_seq, wpC_block, wpC_seq, wpC_blk]
    obtain ⟨tj, htj⟩ : ∃ t, u[j]? = some t := ⟨u[j], List.getElem?_eq_getElem hlt⟩
    have hmw : Mod [Ob] w w1 := hw'.trans hgs.mod
    have hNob : ∀ b ∈ [Ob], ¬ b < N := fun b hb => by simp only [List.mem_singleton] at hb; have := hgs.nob; omega
    obtain ⟨vj, hcj, hrj⟩ := (hr.mod (ok' := fun b => b < N) hmw hNob fun _ _ h => h).nth htj
    obtain ⟨pa, pc, ep, -, hcells⟩ := (hu.mod (ok' := fun b => b < N) hmw hNob fun _ _ h => h).flat hr.length hr.two hcj
    obtain ⟨vb, vc, evj⟩ := hrj.shape
    refine wpR_step (v := .pointer (some (pa.add (j * 2)))) (by simp [RK.val?, s31, s33, ep, hlt]) ?_
    refine wpR_step (v := .agg [.int .u32 tj.1, vj].toArray) (by simp [RK.val?, hcells]) ?_
    refine wpR_run ?_
    intro Ty
    obtain ⟨q1, q2, q3⟩ := new_put w1 uzero [.int .u32 tj.1, vj] Ty rfl (by rw [evj]; simp [Value.oneCell'])
    refine wpR_run ?_
    have ec' : (Value.agg [.int .u32 tj.1, vj].toArray).cells.toList = [.int .u32 tj.1, vj] := rfl
    simp only [RK.run, ev, updo, upd]
    simp only [if_true, show (36 : Nat) ≠ 7 by decide, if_false, ec']
    refine ⟨rfl, q1, ?_⟩
    generalize hw4 : putCells (w1.alloc (.cells uzero.toArray Ty)) ⟨w1.heap.size, 0, none⟩ 0 [.int .u32 tj.1, vj] = w4 at q2 q3
    simp only [wpR, thenC]
    rw [wpC_blk]
    have hob4 := hgs.ob.mod q3 (by simp)
    have hraw4 : LRaw2 w4 w3.heap.size uv ucs := ⟨hgs.raw.two, hgs.raw.sl.imp id fun ⟨BA, cap, rest, g1, g2, g3, g4, g5⟩ => ⟨BA, cap, rest, g1, g2, g3, g4.mod q3 (by simp), g5⟩⟩
    have c0 := q2.cell 0
    have c1 := q2.cell 1
    refine wpR_step (v := .pointer (some ⟨Ob, 4, none⟩)) (by simp [RK.val?, s3, Addr.add_mk]) ?_
    refine wpR_step (v := uv) (by simp [RK.val?]; exact hob4.cell 4) ?_
    refine wpR_step (v := .pointer (some ⟨w1.heap.size, 0, none⟩)) (by simp [RK.val?, Addr.add_mk]) ?_
    refine wpR_step (v := .int .u32 tj.1) (by simp [RK.val?]; simpa using c0) ?_
    refine wpR_step (v := .pointer (some ⟨w1.heap.size, 1, none⟩)) (by simp [RK.val?, Addr.add_mk]) ?_
    refine wpR_step (v := vj) (by simp [RK.val?]; simpa using c1) ?_
    refine wpR_step (v := .agg [.int .u32 tj.1, vj].toArray) (by simp [RK.val?, uzero, fillL, splice, Value.cells, evj]) ?_
    refine wpR_run ?_
    have hf : fillL (zrep 1 uzero) [(0, 2, Value.agg [.int .u32 tj.1, vj].toArray)] = some [.int .u32 tj.1, vj] := by
      simp [zrep, uzero, fillL, splice, Value.cells]
    simp only [RK.run, List.map_cons, List.map_nil, ev, updo, upd, if_true, hf]
    intro T5
    have hm5 : Mod [] w4 (w4.alloc (.cells [.int .u32 tj.1, vj].toArray T5)) := Mod.alloc _ _ _
    have hb5 : Blk (w4.alloc (.cells [.int .u32 tj.1, vj].toArray T5)) w4.heap.size [.int .u32 tj.1, vj] := Blk.new _ _ _
    generalize w4.alloc (.cells [.int .u32 tj.1, vj].toArray T5) = w5 at hm5 hb5
    have hob5 := hob4.mod hm5 (by simp)
    have hraw5 : LRaw2 w5 w3.heap.size uv ucs := ⟨hraw4.two, hraw4.sl.imp id fun ⟨BA, cap, rest, g1, g2, g3, g4, g5⟩ => ⟨BA, cap, rest, g1, g2, g3, g4.mod hm5 (by simp), g5⟩⟩
    have hm15 : Mod [] w1 w5 := q3.trans hm5
    have hm35 : Mod [Ob] w3 w5 := hgs.mod.trans hm15.nil
    refine wpR_run ?_
    refine append_two (lv := uv) (n0 := w3.heap.size) (by simp) hraw5 hm35.size (by simp) hb5 rfl (by rw [evj]; simp [Value.oneCell']) (by omega) fun uv' w6 hraw6 hown => ?_
    have hlob := hgs.lob
    have hge : ∀ b, own uv = some b → w3.heap.size ≤ b := fun b hb => by
      rcases hraw5.sl with ⟨e, -⟩ | ⟨BA, cap, rest, e, g2, g3, -⟩
      · rw [e] at hb; simp [own] at hb
      · rw [e] at hb; simp only [own, Option.some.injEq] at hb; omega
    have hnN : N ≤ w3.heap.size := by have := hgs.nob; omega
    have key : Blk w6 Ob [.int .i64 n, sv, .bool null, lv, uv] ∧ Mod [Ob] w3 w6 ∧ RepU (fun b => b < N) w6 (u.take j ++ [tj]) (ucs ++ [[.int .u32 tj.1, vj]]) := by
      have hS : ∀ b ∈ (own uv).toList, own uv = some b := fun b hb => by simpa using hb
      have hrep5 : RepU (fun b => b < N) w5 (u.take j ++ [tj]) (ucs ++ [[.int .u32 tj.1, vj]]) := (hgs.rep.mod hm15 (by simp) fun _ _ h => h).append (.cons (hrj.mod hm15 (by simp) fun _ _ h => h) .nil)
      rcases hown with ⟨⟨ho, hm⟩, -⟩ | ⟨ho, hm⟩
      · refine ⟨hob5.mod hm (fun hc => by have := hge _ (hS _ hc); omega), ?_, hrep5.mod hm (fun b hb hc => by have := hge _ (hS _ hb); omega) fun _ _ h => h⟩
        refine ⟨hm.os.trans hm35.os, hm.tape.trans hm35.tape, hm.output.trans hm35.output, Nat.le_trans hm35.size hm.size, fun k hk hn => ?_⟩
        rw [hm.block k (Nat.lt_of_lt_of_le hk hm35.size) (fun hc => by have := hge _ (hS _ hc); omega)]
        exact hm35.block k hk hn
      · exact ⟨hob5.mod hm (by simp), hm35.trans hm.nil, hrep5.mod hm (by simp) fun _ _ h => h⟩
    obtain ⟨k1, k2, k3⟩ := key
    have o1 : uv'.cells = #[uv'] ∧ uv'.oneCell' = true := by
      rcases hraw6.sl with ⟨e, -⟩ | ⟨BA, cap, rest, e, -⟩ <;> subst e <;> exact ⟨rfl, rfl⟩
    have hput : Mod [Ob] w6 (putCells w6 ⟨Ob, 4, none⟩ 0 [uv']) := Mod.put (by simp)
    have hp := k1.put (o := 4) (vs := [uv']) (by simp)
    have e1 : splice [Value.int .i64 n, sv, .bool null, lv, uv] 4 [uv'] = [.int .i64 n, sv, .bool null, lv, uv'] := by simp [splice]
    rw [e1] at hp
    refine wpR_step (v := .pointer (some ⟨Ob, 4, none⟩)) (by simp [RK.val?, s3, Addr.add_mk]) ?_
    refine wpR_run ?_
    simp only [RK.run, ev, updo, upd, if_true, show (45 : Nat) ≠ 46 by decide, if_false, o1.1]
    refine ⟨rfl, stOk_one k1 (by simp) o1.2, ?_⟩
    have hge' : ∀ b, own uv' = some b → w3.heap.size ≤ b := fun b hb => by
      rcases hraw6.sl with ⟨e, -⟩ | ⟨BA, cap, rest, e, g2, g3, -⟩
      · rw [e] at hb; simp [own] at hb
      · rw [e] at hb; simp only [own, Option.some.injEq] at hb; omega
    simp only [wpR, inBlockC, thenC]
    have hw : IntKind.i64.wrap ((j : Int) + 1) = ((j + 1 : Nat) : Int) := by
      simp only [IntKind.wrap, IntKind.bits, IntKind.signed]; simp; omega
    rw [wpC_blk]
    refine wpR_step (v := .int .i64 ((j + 1 : Nat) : Int)) (by simp [RK.val?, intBin, s33, hw]) ?_
    refine wpR_step (v := .int .i64 ((j + 1 : Nat) : Int)) (by simp [RK.val?]) ?_
    simp only [wpR, thenC]
    refine ⟨⟨j + 1, uv', ucs ++ [[.int .u32 tj.1, vj]], hlt, by simp [s2], by simp [s3], by simp [s31], by simp [s32], by simp, ?_, by simp [htl]⟩, ?_⟩
    · rw [List.take_add_one, htj]
      refine ⟨by simpa using hp, ⟨hraw6.two, hraw6.sl.imp id fun ⟨BA, cap, rest, g1, g2, g3, g4, g5⟩ => ⟨BA, cap, rest, g1, g2, g3, by simpa using g4.mod hput (by have := hge' BA (by rw [g1]; rfl); simp; omega), g5⟩⟩, ?_, by simpa using k2.trans hput, hlob, hgs.nob⟩
      exact k3.mod hput (fun b hb hc => by simp only [List.mem_singleton] at hb; have := hgs.nob; omega) fun _ _ h => h
    · simp [s33]; show u.length - (j + 1) < u.length - j; omega
  · rw [wpC_cond_f (by simp; omega)]
    have hje : j = u.length := by omega
    subst hje
    rw [List.take_length] at hgs
    simp only [wpC, inBlockC, thenC, if_true]
    exact hQ _ w1 uv ucs (by simp [s2]) (by simp [s3]) hgs htl
end
end Go.Msk

namespace Go.Msk
open Go.RowKit
set_option maxRecDepth 100000
mutual
/-- Lists within what Go can hold. -/
def TR.small : TR → Prop
  | .mk _ s _ l u => s.length ≤ 2147483647 ∧ l.length ≤ 2147483647 ∧ u.length ≤ 2147483647 ∧ (∀ x ∈ u, x.2.length ≤ 2147483647) ∧ TR.smallL l
def TR.smallL : List TR → Prop
  | [] => True
  | t :: l => t.small ∧ TR.smallL l
end
theorem TR.smallL_mem : ∀ {l : List TR}, TR.smallL l → ∀ t ∈ l, t.small
  | [], _, t, h => by simp at h
  | a :: l, hs, t, h => by
    simp only [TR.smallL] at hs
    rcases List.mem_cons.1 h with rfl | h
    · exact hs.1
    · exact TR.smallL_mem hs.2 t h
section
variable {P : Program} {F : Nat → Nat}
theorem LRaw.slc {w : World} {n0 : Nat} {lv : Value} {css : List (List Value)} (h : LRaw w n0 lv css) {ok : Nat → Prop} (hok : ∀ b, n0 ≤ b → ok b) : SlC ok w lv css.length css.flatten := by
  rcases h.sl with ⟨rfl, rfl⟩ | ⟨BA, cap, rest, rfl, q2, q3, q4, q5⟩
  · exact SlC.nil
  · refine ⟨some ⟨BA, 0, none⟩, cap, rfl, q2, fun h => by simp at h, fun a ha _ => ?_⟩
    simp only [Option.some.injEq] at ha; subst ha
    refine ⟨hok _ q3, q4.lt, ?_⟩
    have := q4.cells.take css.flatten.length
    rwa [List.take_left] at this
theorem LRaw2.slc {w : World} {n0 : Nat} {lv : Value} {css : List (List Value)} (h : LRaw2 w n0 lv css) {ok : Nat → Prop} (hok : ∀ b, n0 ≤ b → ok b) : SlC ok w lv css.length css.flatten := by
  rcases h.sl with ⟨rfl, rfl⟩ | ⟨BA, cap, rest, rfl, q2, q3, q4, q5⟩
  · exact SlC.nil
  · refine ⟨some ⟨BA, 0, none⟩, cap, rfl, q2, fun h => by simp at h, fun a ha _ => ?_⟩
    simp only [Option.some.injEq] at ha; subst ha
    refine ⟨hok _ q3, q4.lt, ?_⟩
    have := q4.cells.take css.flatten.length
    rwa [List.take_left] at this
theorem got_one (hm : P.follows .mixedOrders = true) (h : liftF P (F lGot) = some (ir_lGot F)) {n : Int} {s : List UInt8} {null : Bool} {l : List TR} {u : List (Nat × List UInt8)} (hf : ∀ t ∈ l, GotAt P (F lGot) t)
    (hl : l.length ≤ 2147483647) (hul : u.length ≤ 2147483647) : GotAt P (F lGot) (.mk n s null l u) := by
  intro N w cs hN hrep
  obtain ⟨sv, lv0, uv0, css, uss, rfl, h1, h2, h3, h4, h5⟩ : ∃ sv lv0 uv0 css uss, cs = [.int .i64 n, sv, .bool null, lv0, uv0] ∧ SlC (fun b => b < N) w sv s.length (u8s s) ∧ SlC (fun b => b < N) w lv0 l.length css.flatten ∧ RepTL (fun b => b < N) w l css ∧
      SlC (fun b => b < N) w uv0 u.length uss.flatten ∧ RepU (fun b => b < N) w u uss := by
    cases hrep with | mk h1 h2 h3 h4 h5 => exact ⟨_, _, _, _, _, rfl, h1, h2, h3, h4, h5⟩
  refine call_of h hm (by simp) ?_
  have a0 : args0 [.agg [.int .i64 n, sv, .bool null, lv0, uv0].toArray] 0 = .agg [.int .i64 n, sv, .bool null, lv0, uv0].toArray := rfl
  generalize args0 [.agg [.int .i64 n, sv, .bool null, lv0, uv0].toArray] = σ0 at a0 ⊢
  rw [wpC_seq, wpC_blk]
  refine wpR_run ?_
  have ec : (Value.agg [.int .i64 n, sv, .bool null, lv0, uv0].toArray).cells.toList = [.int .i64 n, sv, .bool null, lv0, uv0] := rfl
  simp only [RK.run, ev, a0, ec]
  intro T1
  have b1 := Blk.new w [.int .i64 n, sv, .bool null, lv0, uv0] T1
  have m1 : Mod [] w (w.alloc (.cells [.int .i64 n, sv, .bool null, lv0, uv0].toArray T1)) := Mod.alloc _ _ _
  have z1 : (w.alloc (.cells [.int .i64 n, sv, .bool null, lv0, uv0].toArray T1)).heap.size = w.heap.size + 1 := by simp
  generalize w.alloc (.cells [.int .i64 n, sv, .bool null, lv0, uv0].toArray T1) = w1 at b1 m1 z1 ⊢
  refine wpR_run ?_
  have hz : ([Value.int .i64 0, .slice none 0 0, .bool false, .slice none 0 0, .slice none 0 0] : List Value) = tzero := rfl
  rw [hz]
  simp only [RK.run]
  intro T2
  have b2 := Blk.new w1 tzero T2
  have m2 : Mod [] w1 (w1.alloc (.cells tzero.toArray T2)) := Mod.alloc _ _ _
  have z2 : (w1.alloc (.cells tzero.toArray T2)).heap.size = w1.heap.size + 1 := by simp
  generalize w1.alloc (.cells tzero.toArray T2) = w2 at b2 m2 z2 ⊢
  simp only [wpR, thenC]
  rw [wpC_seq, wpC_blk]
  have b12 := b1.mod m2 (by simp)
  have s1 : ∀ x y, updo (updo σ0 (some 1) x) (some 2) y 1 = x := fun x y => by simp [updo, upd]
  have c0 := b12.cell 0
  have c1 := b12.cell 1
  have c2 := b12.cell 2
  simp only [List.getElem?_cons_zero, List.getElem?_cons_succ] at c0 c1 c2
  obtain ⟨svb, svc, esv⟩ := h1.shape
  refine wpR_step (v := .pointer (some ⟨w.heap.size, 0, none⟩)) (by simp [RK.val?, ev, updo, upd, Addr.add_mk]) ?_
  refine wpR_step (v := .int .i64 n) (by simp only [RK.val?, ev, updo, upd_same, c0]) ?_
  refine wpR_step (v := .pointer (some ⟨w.heap.size, 1, none⟩)) (by simp [RK.val?, ev, updo, upd, Addr.add_mk]) ?_
  refine wpR_step (v := sv) (by simp only [RK.val?, ev, updo, upd_same, c1]) ?_
  refine wpR_step (v := .pointer (some ⟨w.heap.size, 2, none⟩)) (by simp [RK.val?, ev, updo, upd, Addr.add_mk]) ?_
  refine wpR_step (v := .bool null) (by simp only [RK.val?, ev, updo, upd_same, c2]) ?_
  refine wpR_step (v := .agg [.int .i64 n, sv, .bool null, .slice none 0 0, .slice none 0 0].toArray) (by simp [RK.val?, ev, updo, upd, tzero, fillL, splice, Value.cells, esv]) ?_
  refine wpR_run ?_
  simp only [RK.run]
  intro T3
  obtain ⟨q1, q2, q3⟩ := new_put w2 tzero [.int .i64 n, sv, .bool null, .slice none 0 0, .slice none 0 0] T3 rfl (by rw [esv]; simp [Value.oneCell'])
  refine wpR_run ?_
  have ec2 : (Value.agg [.int .i64 n, sv, .bool null, .slice none 0 0, .slice none 0 0].toArray).cells.toList = [.int .i64 n, sv, .bool null, .slice none 0 0, .slice none 0 0] := rfl
  simp only [RK.run, ev, updo, upd]
  simp only [if_true, show (14 : Nat) ≠ 3 by decide, if_false, ec2]
  refine ⟨rfl, q1, ?_⟩
  have hsz3 : (putCells (w2.alloc (.cells tzero.toArray T3)) ⟨w2.heap.size, 0, none⟩ 0 [.int .i64 n, sv, .bool null, .slice none 0 0, .slice none 0 0]).heap.size = w2.heap.size + 1 := by rw [size_putCells]; simp
  generalize putCells (w2.alloc (.cells tzero.toArray T3)) ⟨w2.heap.size, 0, none⟩ 0 [.int .i64 n, sv, .bool null, .slice none 0 0, .slice none 0 0] = w3 at q2 q3 hsz3
  have m03 : Mod [] w w3 := (m1.trans m2).trans q3
  simp only [wpR, thenC]
  rw [wpC_seq]
  refine got_loop1 (Pb := w.heap.size) (b2 := w1.heap.size) (Ob := w2.heap.size) (n := n) (sv := sv) (null := null) hf m03 hN h2 h3 hl q2 (by omega) (by simp [upd]) (by simp [upd]) (by simp [upd]) ((b12.mod q3 (by simp)).cell 3) fun σ4 w4 lv tcs t1 t2 t3 hgs hln => ?_
  simp only [thenC]
  rw [wpC_seq]
  have m04 : Mod [w2.heap.size] w w4 := m03.nil.trans hgs.mod
  have nO : ∀ b ∈ [w2.heap.size], ¬ b < N := fun b hb => by simp only [List.mem_singleton] at hb; omega
  refine got_loop2 (Pb := w.heap.size) (b2 := w1.heap.size) (Ob := w2.heap.size) (n := n) (sv := sv) (null := null) (.inr m04) hN h4 h5 hul hgs.ob (by omega) t1 t2 t3 (((b12.mod q3 (by simp)).mod hgs.mod (by simp; omega)).cell 4) fun σ5 w5 uv ucs r2 r3 hgu hun => ?_
  simp only [thenC]
  rw [wpC_seq, wpC_blk]
  refine wpR_step (v := .agg [.int .i64 n, sv, .bool null, lv, uv].toArray) (by simp only [RK.val?, ev, r3, cellsAt_of' hgu.ob.cells (n := 5) rfl, Option.map_some]) ?_
  have m05 : Mod [w2.heap.size] w w5 := m04.trans hgu.mod
  have m45 := hgu.mod
  have own_ne : ∀ b, own lv = some b → w3.heap.size ≤ b := fun b hb => (hgs.raw.own hb).1
  have hraw5 : LRaw w5 w3.heap.size lv tcs := hgs.raw.mod m45 (fun b hb => by have := own_ne b hb; simp; omega)
  have hrep5 : RepTL (fun b => b < N ∨ (w3.heap.size ≤ b ∧ own lv ≠ some b)) w5 l tcs := hgs.rep.mod m45 (fun b hb hc => by
    simp only [List.mem_singleton] at hb
    rcases hc with hc | hc <;> omega) fun _ _ h => h
  have hb25 : Blk w5 w1.heap.size tzero := ((b2.mod q3 (by simp)).mod hgs.mod (by simp; omega)).mod m45 (by simp; omega)
  have hs5 := h1.mod (ok' := fun b => b < N) m05 nO fun _ _ h => h
  have hfin : RepT (fun b => (b < N ∨ w.heap.size ≤ b) ∧ b ≠ w1.heap.size) w5 (.mk n s null l u) [.int .i64 n, sv, .bool null, lv, uv] := by
    refine .mk (css := tcs) (uss := ucs) (hs5.mod (Mod.refl [] _) (by simp) fun b _ hb => ⟨.inl hb, by omega⟩) ?_ (hrep5.mod (Mod.refl [] _) (by simp) fun b _ hb => ?_) ?_ (hgu.rep.mod (Mod.refl [] _) (by simp) fun b _ hb => ⟨.inl hb, by omega⟩)
    · rw [← hln]; exact hraw5.slc fun b hb => ⟨.inr (by omega), by omega⟩
    · rcases hb with hb | hb
      · exact ⟨.inl hb, by omega⟩
      · exact ⟨.inr (by omega), by omega⟩
    · rw [← hun]; exact hgu.raw.slc fun b hb => ⟨.inr (by have := hgs.mod.size; omega), by have := hgs.mod.size; omega⟩
  have hput : Mod [w1.heap.size] w5 (putCells w5 ⟨w1.heap.size, 0, none⟩ 0 [.int .i64 n, sv, .bool null, lv, uv]) := Mod.put (by simp)
  have hp := hb25.put (o := 0) (vs := [.int .i64 n, sv, .bool null, lv, uv]) (by simp [tzero])
  rw [splice_all (by rfl)] at hp
  refine wpR_run ?_
  have ec3 : (Value.agg [.int .i64 n, sv, .bool null, lv, uv].toArray).cells.toList = [.int .i64 n, sv, .bool null, lv, uv] := rfl
  simp only [RK.run, ev, updo, upd]
  simp only [show (2 : Nat) ≠ 48 by decide, if_false, if_true, r2, ec3]
  refine ⟨rfl, stOk_many hb25 (by simp [tzero]) hfin.oneCell, ?_⟩
  simp only [wpR, wpC, thenC, postC, rvals, List.mapM_cons, List.mapM_nil, RV.val, upd, show (2 : Nat) ≠ 48 by decide, if_false, r2, cellsAt_of' hp.cells (n := 5) rfl, Option.bind_eq_bind, Option.map_some, Option.bind_some, Option.pure_def, tup_one]
  refine ⟨_, rfl, hfin.mod hput (fun b hb hc => by simp only [List.mem_singleton] at hb; exact hc.2 hb) (fun b _ hb => hb.1), ?_⟩
  refine Mod.drop (b := w1.heap.size) (S := []) ?_ (by omega)
  refine Mod.drop (b := w2.heap.size) (S := [w1.heap.size]) ?_ (by omega)
  exact (m05.mono (by simp)).trans (hput.mono (by simp))
theorem got_call (hm : P.follows .mixedOrders = true) (h : liftF P (F lGot) = some (ir_lGot F)) : ∀ t : TR, t.small → GotAt P (F lGot) t := by
  intro t
  refine TR.rec (motive_1 := fun t => t.small → GotAt P (F lGot) t) (motive_2 := fun l => ∀ t ∈ l, t.small → GotAt P (F lGot) t) ?_ ?_ ?_ t
  · intro n s null l u ih hs
    simp only [TR.small] at hs
    exact got_one hm h (fun t ht => ih t ht (TR.smallL_mem hs.2.2.2.2 t ht)) hs.2.1 hs.2.2.1
  · intro t ht; simp at ht
  · intro a l ih1 ih2 t ht
    rcases List.mem_cons.1 ht with rfl | ht
    · exact ih1
    · exact ih2 t ht
end
end Go.Msk
