/- A small language of resolved operations, and what the generic and the generated functions do in it (part 16). -/
import Derived.Test.YtljndbdfoiagpaaGreatDoorFo
import Derived.JoinedCond
import Derived.Shelf.GgSortFunc.Whole
import Derived.Shelf.GgSortFunc.Tiny

namespace Go.Msk
open Go.RowKit Go.ChangeShapes Go.WideShapes Go.ChangeAt
section
variable {H : Type} {enc : TypeId × Value → H}
theorem witness_cond {C : Checked} {os : Os} {f : FuncId} {fn : Func} {s : OpenSpec} {k : (H : Type) → List (DataW H) → Bool} (hk : s.cond = some k) {apart : Bool} {X : World → Array Value → Prop} (w0 : World) (args : Array Value) (fuel : Nat) (hos : w0.os = os)
    (hsh : (w0.forCall (fun _ _ => 0) ⟨#[], args, []⟩).Shaped C.prog)
    (hok : Input.okWideB C.prog (w0.forCall (fun _ _ => 0) ⟨#[], args, []⟩) f ⟨#[], args, []⟩ = true)
    (hpre : ((DataW.whole enc C.prog (w0.forCall (fun _ _ => 0) ⟨#[], args, []⟩).memory fn.params.toList s.vars apart args.toList fuel).any fun x => k H (x.1 ++ x.2.1)) = true)
    (hsz : s.bare.sizedB enc C.prog fn apart (w0.forCall (fun _ _ => 0) ⟨#[], args, []⟩).memory args fuel = true)
    (hx : X (w0.forCall (fun _ _ => 0) ⟨#[], args, []⟩).memory args) :
    ∃ (w : World) (tape : Tape) (i : Input), w.os = os ∧ (w.forCall tape i).Shaped C.prog ∧ i.vars = [] ∧ Input.okWide C.prog (w.forCall tape i) .any w.heap.size f i ∧
      ((s.pre enc C.prog fn [] apart (w.forCall tape i).memory i.args ∧ X (w.forCall tape i).memory i.args) ∧ sizedMet enc C.prog fn s apart (w.forCall tape i).memory i.args) ∧ ({} : Assume).holds C.prog (lone (Frame.enter C.prog f i.args .normal) [] (w.forCall tape i)) := by
  refine ⟨w0, fun _ _ => 0, ⟨#[], args, []⟩, hos, hsh, (Input.okWide_of_okWideB (base := 0) hok).1, (Input.okWide_of_okWideB hok).2, ⟨⟨?_, hx⟩, sizedMet_of_sizedB hsz⟩, ?_⟩
  · rw [Option.any_eq_true] at hpre
    obtain ⟨x, h1, h2⟩ := hpre
    exact (OpenSpec.pre_some hk [] apart _ _).2 ⟨x.1, x.2.1, x.2.2, DataW.Whole_of_whole h1, rfl, h2⟩
  · simp only [Assume.holds]
    exact ⟨by simp, by simp, fun _ => Modest.zero, by simp, by simp⟩
theorem returns_cond {a : Assume} {C : Checked} {os : Os} {f : FuncId} {fn : Func} {s : OpenSpec} {k : (H : Type) → List (DataW H) → Bool} (hk : s.cond = some k) {F : Stop.Interp} {apart fresh handsOn again : Bool} {X : World → Array Value → Prop}
    (hX : ∀ (w w' : World) (args : Array Value), w.heap = w'.heap → X w args → X w' args)
    (own : ownKnob C.prog.godebug = none) (started : os.Started) (noInit : C.prog.inits.idxOf? f = none) (hfn : C.prog.funcs[f]? = some fn)
    (witness : ∃ (w : World) (tape : Tape) (i : Input), w.os = os ∧ (w.forCall tape i).Shaped C.prog ∧ i.vars = [] ∧ Input.okWide C.prog (w.forCall tape i) .any w.heap.size f i ∧
      ((s.pre enc C.prog fn [] apart (w.forCall tape i).memory i.args ∧ X (w.forCall tape i).memory i.args) ∧ sizedMet enc C.prog fn s apart (w.forCall tape i).memory i.args) ∧ a.holds C.prog (lone (Frame.enter C.prog f i.args .normal) [] (w.forCall tape i)))
    (contract : ∀ (W : World) (base : Nat) (args : Array Value) (ds gs : List (DataW H)) (before : List MemPlace),
      (∀ (j : Nat) t v, fn.params[j]? = some t → args[j]? = some v → Value.okWide C.prog W .any base t v) →
      DataW.Whole enc C.prog fn.params.toList s.vars apart W args.toList ds gs before → k H (ds ++ gs) = true → X W args →
      Calls C.prog f args W fun e W' => ∃ v, e = .returned v ∧ (s.at F).post enc C.prog fn apart fresh handsOn again W args v W') :
    ReturnsInHanded a C os f .any (fun w args => (s.pre enc C.prog fn [] apart w args ∧ X w args) ∧ sizedMet enc C.prog fn s apart w args) ((s.at F).post enc C.prog fn apart fresh handsOn again) := by
  refine returnsInHanded_of_calls own started noInit witness ?_
  intro w tape i _ _ _ hok hpre _
  obtain ⟨_, _, _, fn', hfn', _, _, _, _, hval⟩ := hok
  have e : fn' = fn := Option.some.inj (hfn'.symm.trans hfn)
  subst e
  obtain ⟨⟨hp, hx⟩, -⟩ := hpre
  obtain ⟨ds, gs, before, hw, -, hkk⟩ := (OpenSpec.pre_some hk [] apart _ _).1 hp
  have hw' := DataW.Whole.of_heap (w' := w.forCall tape i) (by rfl) hw
  refine (contract (w.forCall tape i) w.heap.size i.args ds gs before hval hw' hkk (hX _ _ _ (by rfl) hx)).mono fun e W' ⟨v, he, hp⟩ => ?_
  subst he
  exact ChangeSpec.post_blind hp
end
end Go.Msk

namespace Go.Msk
set_option maxRecDepth 100000
mutual
theorem FD.enc_wt (ver : Int) (x : Bool) : ∀ (f : FD) (t : TR), f.plain = true → t.kok → (f.enc ver x t).length ≤ f.kB * t.wt
  | .mk kind frm to null tag dfl of sub, t, hp, hk => by
    simp only [FD.plain, Bool.and_eq_true, decide_eq_true_eq] at hp
    have hpl := hp.2.2
    have h1 := t.wt_pos
    have part : ∀ y : TR, y.kok → (joinP x (bodyP ver x sub 0 y) (unknownP sub y.u)).length ≤ (FD.kL sub + 16) * y.wt := fun y hy => by
      rw [kok_body hpl, List.length_append, Nat.add_mul]
      have a := FD.bodyP_wt ver x sub 0 y hpl hy
      have b := tail_wt (x := x) hy
      omega
    rw [FD.enc_eq']
    simp only [FD.kind, FD.of, FD.null, FD.sub, FD.kB]
    have e60 : (60 + FD.kL sub) * t.wt = 60 * t.wt + FD.kL sub * t.wt := Nat.add_mul _ _ _
    unfold fieldP
    by_cases h11 : kind = 11
    · rw [if_pos h11, List.length_append]
      have hl : (if FD.nullV (.mk kind frm to null tag dfl of sub) ver t = true then [] else t.l.take 32767).length ≤ 32767 := by
        split
        · simp
        · exact take_le _
      have c := countedP_le (x := x) (nl := FD.nullV (.mk kind frm to null tag dfl of sub) ver t) (k := 4) hl (by omega)
      have hw : TR.wtL (if FD.nullV (.mk kind frm to null tag dfl of sub) ver t = true then [] else t.l.take 32767) + 1 ≤ t.wt := by
        split
        · simp only [TR.wtL]; omega
        · have := wtL_take t.l 32767
          cases t with
          | mk n s b l u => simp only [TR.l, TR.wt] at this ⊢; omega
      have f1 : ((if FD.nullV (.mk kind frm to null tag dfl of sub) ver t = true then [] else t.l.take 32767).flatMap (valP x of (fun y => joinP x (bodyP ver x sub 0 y) (unknownP sub y.u)) false)).length ≤ (20 + (FD.kL sub + 16)) * TR.wtL (if FD.nullV (.mk kind frm to null tag dfl of sub) ver t = true then [] else t.l.take 32767) :=
        wt_flat fun y hy => valP_wt (part y (by
          split at hy
          · simp at hy
          · exact TR.kok_mem hk (List.mem_of_mem_take hy)))
      have f2 : (20 + (FD.kL sub + 16)) * TR.wtL (if FD.nullV (.mk kind frm to null tag dfl of sub) ver t = true then [] else t.l.take 32767) ≤ (20 + (FD.kL sub + 16)) * t.wt := Nat.mul_le_mul_left _ (by omega)
      have f3 : (20 + (FD.kL sub + 16)) * t.wt = 36 * t.wt + FD.kL sub * t.wt := by rw [← Nat.add_mul]; congr 1; omega
      omega
    · rw [if_neg h11]
      have hpt : ((fun y => joinP x (bodyP ver x sub 0 y) (unknownP sub y.u)) t).length ≤ (FD.kL sub + 16) * t.wt := part t hk
      rw [Nat.add_mul] at hpt
      split
      · split
        · rw [beI_length]; omega
        · rw [List.length_append, beI_length]
          omega
      · have := valP_wt (x := x) (nl := FD.nullV (.mk kind frm to null tag dfl of sub) ver t) (k := kind) (part := fun y => joinP x (bodyP ver x sub 0 y) (unknownP sub y.u)) (part t hk)
        have f3 : (20 + (FD.kL sub + 16)) * t.wt = 36 * t.wt + FD.kL sub * t.wt := by rw [← Nat.add_mul]; congr 1; omega
        omega
theorem FD.bodyP_wt (ver : Int) (x : Bool) : ∀ (l : List FD) (i : Nat) (t : TR), FD.plainL l = true → t.kok → (bodyP ver x l i t).length ≤ FD.kL l * t.wt
  | [], _, _, _, _ => by simp [bodyP]
  | f :: l, i, t, hp, hk => by
    simp only [FD.plainL, Bool.and_eq_true] at hp
    have a := FD.enc_wt ver x f (t.at i) hp.1 (hk.at i)
    have a2 : f.kB * (t.at i).wt ≤ f.kB * t.wt := Nat.mul_le_mul_left _ (t.wt_at i)
    have b := FD.bodyP_wt ver x l (i + 1) t hp.2 hk
    simp only [bodyP, FD.kL, List.length_append, Nat.add_mul]
    split
    · omega
    · simp; omega
end
theorem writeP_wt {m : MD} {ver : Int} {t : TR} (hp : FD.plainL m.fs = true) (hk : t.kok) : (writeP m ver t).length ≤ (FD.kL m.fs + 16) * t.wt := by
  have e : writeP m ver t = bodyP ver (m.isFlex ver) m.fs 0 t ++ tailP (m.isFlex ver) t.u := by
    unfold writeP partP
    rw [unknownP_plain hp]; rfl
  rw [e, List.length_append, Nat.add_mul]
  have a := FD.bodyP_wt ver (m.isFlex ver) m.fs 0 t hp hk
  have b := tail_wt (x := m.isFlex ver) hk
  omega
end Go.Msk

namespace Go.Msk
open Go.RowKit
set_option maxRecDepth 100000
inductive FX where
  | mk (ps : List (Nat × Int)) (f : Option FuncId) (subs : List FX)
  deriving Inhabited
def applyPs (a : Nat → Int) : List (Nat × Int) → Nat → Int
  | [] => a
  | (o, n) :: r => applyPs (fun j => if j = o then n else a j) r
def cells8 (a : Nat → Int) (sv : Value) : List Value := [.int .i64 (a 0), .int .i64 (a 1), .int .i64 (a 2), .int .i64 (a 3), .int .i64 (a 4), .int .i64 (a 5), .int .i64 (a 6), sv]
mutual
def FX.fd : FX → FD
  | .mk ps _ subs => .mk (applyPs (fun _ => 0) ps 0) (applyPs (fun _ => 0) ps 1) (applyPs (fun _ => 0) ps 2) (applyPs (fun _ => 0) ps 3) (applyPs (fun _ => 0) ps 4) (applyPs (fun _ => 0) ps 5) (applyPs (fun _ => 0) ps 6) (FX.fds subs)
def FX.fds : List FX → List FD
  | [] => []
  | x :: l => x.fd :: FX.fds l
end
theorem FX.fds_length : ∀ l : List FX, (FX.fds l).length = l.length
  | [] => rfl
  | x :: l => by simp [FX.fds, FX.fds_length l]
def FX.cnt : FX → Nat
  | .mk _ none _ => 1
  | .mk _ (some _) _ => 2
def FX.slot (t : Nat) (x : FX) : Nat := t + x.cnt - 1
def FX.ops (t : Nat) : FX → List RI
  | .mk ps none _ => [⟨some t, .build fzero (ps.map fun p => (p.1, 1, .const (.int .i64 p.2))), none⟩]
  | .mk ps (some f) _ => [⟨some t, .call f [], none⟩, ⟨some (t + 1), .build fzero (ps.map (fun p => (p.1, 1, Operand.const (.int .i64 p.2))) ++ [(7, 1, .tmp t)]), none⟩]
def FX.gen (t : Nat) : List FX → List RI
  | [] => []
  | x :: l => x.ops t ++ FX.gen (t + x.cnt) l
def FX.cnts : List FX → Nat
  | [] => 0
  | x :: l => x.cnt + FX.cnts l
def FX.prts (o t : Nat) : List FX → List (Nat × Nat × Operand)
  | [] => []
  | x :: l => (o, 8, .tmp (x.slot t)) :: FX.prts (o + 8) (t + x.cnt) l
def FX.genSub (l : List FX) : IC × List RV × Nat :=
  (.seq (.blk [⟨some 0, .mv (.const (.slice none 0 0)), none⟩])
    (.seq (.blk (FX.gen 1 l ++ [⟨some (1 + FX.cnts l), .bslice l.length fzero (FX.prts 0 1 l), none⟩, ⟨some 0, .mv (.tmp (1 + FX.cnts l)), none⟩])) .ret), [.tmp 0], 2 + FX.cnts l)
def FX.genMsg (l : List FX) (flex : Int) : IC × List RV × Nat :=
  (.seq (.blk [⟨some 0, .alloc [.slice none 0 0, .int .i64 0], none⟩])
    (.seq (.blk (FX.gen 1 l ++ [⟨some (1 + FX.cnts l), .bslice l.length fzero (FX.prts 0 1 l), none⟩,
      ⟨some (2 + FX.cnts l), .build [.slice none 0 0, .int .i64 0] [(1, 1, .const (.int .i64 flex)), (0, 1, .tmp (1 + FX.cnts l))], none⟩, ⟨none, .st (.tmp 0) 2 (.tmp (2 + FX.cnts l)), none⟩])) .ret), [.cells 0 2], 3 + FX.cnts l)
mutual
/-- What is asked of the functions called, and of the places. -/
def FX.Ok (P : Program) : FX → Prop
  | .mk ps f subs => (ps.all fun p => Nat.blt p.1 7) = true ∧ (match f with | some f => liftF P f = some (FX.genSub subs) | none => subs = []) ∧ FX.OkL P subs
def FX.OkL (P : Program) : List FX → Prop
  | [] => True
  | x :: l => x.Ok P ∧ FX.OkL P l
end
theorem fill_ps (sv : Value) (σ : Sl) : ∀ (ps : List (Nat × Int)) (a : Nat → Int) (q : List (Nat × Nat × Value)), (ps.all fun p => Nat.blt p.1 7) = true →
    fillL (cells8 a sv) ((ps.map fun p => ((p.1, 1, Operand.const (.int .i64 p.2)) : Nat × Nat × Operand)).map (fun p => (p.1, p.2.1, ev σ p.2.2)) ++ q) = fillL (cells8 (applyPs a ps) sv) q
  | [], a, q, _ => rfl
  | (o, n) :: ps, a, q, h => by
    simp only [List.all_cons, Bool.and_eq_true] at h
    have ho : o < 7 := Nat.lt_of_succ_le (Nat.le_of_ble_eq_true h.1)
    simp only [List.map_cons, List.cons_append, fillL, ev, applyPs]
    rw [if_pos ⟨rfl, by simp [cells8]; omega⟩]
    have e : splice (cells8 a sv) o (Value.int .i64 n).cells.toList = cells8 (fun j => if j = o then n else a j) sv := by
      rcases (by omega : o = 0 ∨ o = 1 ∨ o = 2 ∨ o = 3 ∨ o = 4 ∨ o = 5 ∨ o = 6) with rfl | rfl | rfl | rfl | rfl | rfl | rfl <;> simp [splice, cells8, Value.cells]
    rw [e]
    exact fill_ps sv σ ps _ q h.2
theorem fill_parts : ∀ (css : List (List Value)) (pre : List Value), (∀ c ∈ css, c.length = 8) →
    fillL (pre ++ zrep css.length fzero) ((css.zipIdx 0).map fun p => (pre.length + p.2 * 8, 8, Value.agg p.1.toArray)) = some (pre ++ css.flatten) := by
  intro css
  have gen : ∀ (css : List (List Value)) (pre : List Value) (k : Nat) (o : Nat), (∀ c ∈ css, c.length = 8) → o + k * 8 = pre.length →
      fillL (pre ++ zrep css.length fzero) ((css.zipIdx k).map fun p => (o + p.2 * 8, 8, Value.agg p.1.toArray)) = some (pre ++ css.flatten) := by
    intro css
    induction css with
    | nil => intro pre k o _ _; simp [fillL, zrep]
    | cons c css ih =>
      intro pre k o h ho
      have hc := h c List.mem_cons_self
      simp only [List.zipIdx_cons, List.map_cons, fillL, List.length_cons]
      have ez : zrep (css.length + 1) fzero = fzero ++ zrep css.length fzero := by simp [zrep, List.replicate_succ]
      rw [ez, if_pos ⟨by simpa [Value.cells] using hc, by simp [fzero]; omega⟩]
      have : splice (pre ++ (fzero ++ zrep css.length fzero)) (o + k * 8) (Value.agg c.toArray).cells.toList = (pre ++ c) ++ zrep css.length fzero := by
        have e := splice_mid (pre := pre) (old := fzero) (post := zrep css.length fzero) (vs := c) ho.symm (by rw [hc]; rfl)
        simpa [Value.cells] using e
      rw [this, ih (pre ++ c) (k + 1) o (fun x hx => h x (List.mem_cons_of_mem _ hx)) (by simp; omega)]
      simp
  intro pre h
  exact gen css pre 0 pre.length h (by simp)
abbrev fromB (N : Nat) : Nat → Prop := fun b => N ≤ b
theorem SlC.fresh {N M : Nat} {w : World} {v : Value} {n : Nat} {cs : List Value} (h : SlC (fromB M) w v n cs) (hN : N ≤ M) : SlC (fromB N) w v n cs := h.mod (Mod.refl [] w) (by simp) fun _ _ h => Nat.le_trans hN h
theorem RepFL.fresh {N M : Nat} {w : World} {l : List FD} {cs : List (List Value)} (h : RepFL (fromB M) w l cs) (hN : N ≤ M) : RepFL (fromB N) w l cs := h.mod (Mod.refl [] w) (by simp) fun _ _ h => Nat.le_trans hN h
theorem SlC.hold {ok : Nat → Prop} {w w' : World} {v : Value} {n : Nat} {cs : List Value} (h : SlC ok w v n cs) (hm : Mod [] w w') : SlC ok w' v n cs := h.mod hm (by simp) fun _ _ h => h
theorem RepFL.hold {ok : Nat → Prop} {w w' : World} {l : List FD} {cs : List (List Value)} (h : RepFL ok w l cs) (hm : Mod [] w w') : RepFL ok w' l cs := h.mod hm (by simp) fun _ _ h => h
section
variable {P : Program}
attribute [local simp] gOk updo upd ev RK.val? isShift intBin Addr.add_mk args0 Value.cells undef
def SlotsR (N : Nat) (w : World) (σ : Sl) : List FX → Nat → List (List Value) → Prop
  | [], _, css => css = []
  | x :: l, t, css => ∃ cs r, css = cs :: r ∧ σ (x.slot t) = .agg cs.toArray ∧ RepF (fromB N) w x.fd cs ∧ SlotsR N w σ l (t + x.cnt) r
theorem SlotsR.rep {N : Nat} {w : World} {σ : Sl} : ∀ {l : List FX} {t : Nat} {css : List (List Value)}, SlotsR N w σ l t css → RepFL (fromB N) w (FX.fds l) css
  | [], _, _, h => by subst h; simp [FX.fds]; exact .nil
  | x :: l, t, _, ⟨cs, r, e1, e2, e3, e4⟩ => by subst e1; simp only [FX.fds]; exact .cons e3 e4.rep
theorem SlotsR.prts {N : Nat} {w : World} {σ : Sl} : ∀ {l : List FX} {t o k : Nat} {css : List (List Value)}, SlotsR N w σ l t css →
    (FX.prts (o + k * 8) t l).map (fun p => (p.1, p.2.1, ev σ p.2.2)) = (css.zipIdx k).map fun p => (o + p.2 * 8, 8, Value.agg p.1.toArray)
  | [], _, _, _, _, h => by subst h; rfl
  | x :: l, t, o, k, _, ⟨cs, r, e1, e2, e3, e4⟩ => by
    subst e1
    simp only [FX.prts, List.map_cons, List.zipIdx_cons, ev, e2]
    congr 1
    have := e4.prts (o := o) (k := k + 1)
    rw [show o + k * 8 + 8 = o + (k + 1) * 8 by omega]
    exact this
def SubC (P : Program) (f : FuncId) (l : List FX) : Prop :=
  ∀ w : World, Calls P f #[] w fun e w' => ∃ v css, e = .returned v ∧ SlC (fromB w.heap.size) w' v (FX.fds l).length css.flatten ∧ RepFL (fromB w.heap.size) w' (FX.fds l) css ∧ Mod [] w w'
def FX.SubsC (P : Program) : List FX → Prop
  | [] => True
  | .mk ps f subs :: l => (ps.all fun p => Nat.blt p.1 7) = true ∧ (match f with | some f => SubC P f subs | none => subs = []) ∧ FX.SubsC P l
theorem FX.gen_wp (N : Nat) : ∀ (l : List FX) (t : Nat) (σ : Sl) (w : World) (rest : List RI) (Q : Sl → World → Prop), FX.SubsC P l → 1 ≤ t → N ≤ w.heap.size →
    (∀ σ' w' css, (∀ s, s < t → σ' s = σ s) → Mod [] w w' → SlotsR N w' σ' l t css → wpR P rest σ' w' Q) → wpR P (FX.gen t l ++ rest) σ w Q
  | [], t, σ, w, rest, Q, _, _, _, hQ => hQ σ w [] (fun _ _ => rfl) (Mod.refl _ _) rfl
  | .mk ps f subs :: l, t, σ, w, rest, Q, hs, ht, hN, hQ => by
    obtain ⟨hps, hf, hl⟩ := hs
    simp only [FX.gen, List.append_assoc]
    cases f with
    | none =>
      simp only at hf
      subst hf
      simp only [FX.ops, List.cons_append, List.nil_append, FX.cnt]
      have hfill := fill_ps (.slice none 0 0) σ ps (fun _ => 0) [] hps
      simp only [List.append_nil] at hfill
      refine go1 (v := .agg (cells8 (applyPs (fun _ => 0) ps) (.slice none 0 0)).toArray) rfl (by
        simp only [RK.val?]
        rw [show fzero = cells8 (fun _ => 0) (.slice none 0 0) from rfl, hfill]; rfl) ?_
      refine FX.gen_wp N l (t + 1) _ w rest Q hl (by omega) hN fun σ' w' css hfr hm hsl => ?_
      refine hQ σ' w' (cells8 (applyPs (fun _ => 0) ps) (.slice none 0 0) :: css) (fun s h => by rw [hfr s (by omega)]; simp only [updo]; exact upd_ne _ _ (by omega)) hm ⟨_, _, rfl, ?_, ?_, hsl⟩
      · simp only [FX.slot, FX.cnt]
        rw [show t + 1 - 1 = t by omega, hfr t (by omega)]; simp only [updo]; exact upd_same _ _ _
      · rw [FX.fd]; simp only [FX.fds]; exact .mk (css := []) SlC.nil .nil
    | some f =>
      simp only at hf
      simp only [FX.ops, List.cons_append, List.nil_append, FX.cnt]
      refine goCall rfl (vs := []) rfl (hf w) ?_
      rintro e w1 ⟨v, css1, rfl, h1, h2, hm1⟩
      refine ⟨v, rfl, ?_⟩
      have hv1 : v.cells.size = 1 ∧ v.cells.toList = [v] := by obtain ⟨b, c, rfl⟩ := h1.shape; exact ⟨rfl, rfl⟩
      have hfill := fill_ps (.slice none 0 0) (upd σ t v) ps (fun _ => 0) [(7, 1, v)] hps
      refine go1 (v := .agg (cells8 (applyPs (fun _ => 0) ps) v).toArray) rfl (by
        simp only [RK.val?, List.map_append, List.map_cons, List.map_nil, updo]
        rw [show ev (upd σ t v) (.tmp t) = v from upd_same _ _ _, show fzero = cells8 (fun _ => 0) (.slice none 0 0) from rfl, hfill]
        simp only [fillL]
        rw [if_pos ⟨hv1.1, by simp [cells8]⟩, hv1.2]
        simp [splice, cells8]) ?_
      refine FX.gen_wp N l (t + 2) _ w1 rest Q hl (by omega) (Nat.le_trans hN hm1.size) fun σ' w' css hfr hm hsl => ?_
      refine hQ σ' w' (cells8 (applyPs (fun _ => 0) ps) v :: css) (fun s h => by rw [hfr s (by omega)]; simp only [updo, upd]; rw [if_neg (by omega), if_neg (by omega)]) (hm1.trans hm) ⟨_, _, rfl, ?_, ?_, hsl⟩
      · simp only [FX.slot, FX.cnt]
        rw [show t + 2 - 1 = t + 1 by omega, hfr (t + 1) (by omega)]; simp only [updo]; exact upd_same _ _ _
      · rw [FX.fd]; exact .mk ((h1.fresh hN).hold hm) ((h2.fresh hN).hold hm)
theorem FX.row_wp {N : Nat} {l : List FX} {css : List (List Value)} {σ : Sl} {w : World} {d : Nat} {rest : List RI} {Q : Sl → World → Prop} (hs : SlotsR N w σ l 1 css) (hN : N ≤ w.heap.size)
    (h : ∀ w', SlC (fromB N) w' (.slice (some ⟨w.heap.size, 0, none⟩) l.length l.length) (FX.fds l).length css.flatten → RepFL (fromB N) w' (FX.fds l) css → Mod [] w w' → wpR P rest (upd σ d (.slice (some ⟨w.heap.size, 0, none⟩) l.length l.length)) w' Q) :
    wpR P (⟨some d, .bslice l.length fzero (FX.prts 0 1 l), none⟩ :: rest) σ w Q := by
  refine wpR_run ?_
  have hrep := hs.rep
  have hlen : l.length = css.length := by rw [← FX.fds_length, hrep.length]
  have e1 := hs.prts (o := 0) (k := 0)
  have e2 := fill_parts css [] hrep.eight
  simp only [List.nil_append, List.length_nil, Nat.zero_add, Nat.zero_mul] at e1 e2
  simp only [RK.run, hlen]
  rw [e1, e2]
  intro T
  have hb := Blk.new w css.flatten T
  have hm : Mod [] w (w.alloc (.cells css.flatten.toArray T)) := Mod.alloc _ _ _
  have hsl : SlC (fromB N) (w.alloc (.cells css.flatten.toArray T)) (.slice (some ⟨w.heap.size, 0, none⟩) l.length l.length) (FX.fds l).length css.flatten :=
    ⟨_, _, by rw [FX.fds_length], by rw [FX.fds_length]; exact Nat.le_refl _, fun h => by simp at h, fun a ha _ => by
      simp only [Option.some.injEq] at ha; subst ha
      exact ⟨hN, hb.lt, hb.cells⟩⟩
  have := h _ hsl (hrep.hold hm) hm
  rw [hlen] at this
  exact this
theorem sub_call (hm : P.follows .mixedOrders = true) {f : FuncId} {l : List FX} (h : liftF P f = some (FX.genSub l)) (hs : FX.SubsC P l) : SubC P f l := by
  intro w
  unfold FX.genSub at h
  refine call_of (args := []) h hm (by simp) ?_
  clear h
  rw [wpC_seq, wpC_blk]
  refine go1 rfl rfl (wpR_done ?_)
  rw [wpC_seq, wpC_blk]
  refine FX.gen_wp w.heap.size l 1 _ w _ _ hs (Nat.le_refl _) (Nat.le_refl _) fun σ1 w1 css hfr hm1 hsl => ?_
  refine FX.row_wp hsl hm1.size fun w2 h1 h2 hm2 => ?_
  refine go1 (v := .slice (some ⟨w1.heap.size, 0, none⟩) l.length l.length) rfl (by simp) (wpR_done ?_)
  exact ret1 (v := .slice (some ⟨w1.heap.size, 0, none⟩) l.length l.length) (by simp) ⟨_, css, rfl, h1, h2, hm1.trans hm2⟩
mutual
theorem FX.okSub (hm : P.follows .mixedOrders = true) : ∀ x : FX, x.Ok P → (match x with | .mk ps f subs => (ps.all fun p => Nat.blt p.1 7) = true ∧ (match f with | some f => SubC P f subs | none => subs = []))
  | .mk ps f subs, h => by
    simp only [FX.Ok] at h
    refine ⟨h.1, ?_⟩
    cases f with
    | none => exact h.2.1
    | some f => exact sub_call hm h.2.1 (FX.okSubs hm subs h.2.2)
theorem FX.okSubs (hm : P.follows .mixedOrders = true) : ∀ l : List FX, FX.OkL P l → FX.SubsC P l
  | [], _ => trivial
  | .mk ps f subs :: l, h => by
    simp only [FX.OkL] at h
    have h1 := FX.okSub hm (.mk ps f subs) h.1
    exact ⟨h1.1, h1.2, FX.okSubs hm l h.2⟩
end
theorem msg_call (hm : P.follows .mixedOrders = true) {f : FuncId} {l : List FX} {flex : Int} (h : liftF P f = some (FX.genMsg l flex)) (hs : FX.OkL P l) {w : World} :
    Calls P f #[] w fun e w' => ∃ cs, e = .returned (.agg cs.toArray) ∧ RepM anyB w' ⟨FX.fds l, flex⟩ cs ∧ Mod [] w w' := by
  unfold FX.genMsg at h
  refine call_of (args := []) h hm (by simp) ?_
  clear h
  rw [wpC_seq, wpC_blk]
  refine goAlloc fun w0 hb0 hm0 => wpR_done ?_
  rw [wpC_seq, wpC_blk]
  refine FX.gen_wp w0.heap.size l 1 _ w0 _ _ (FX.okSubs hm l hs) (Nat.le_refl _) (Nat.le_refl _) fun σ1 w1 css hfr hm1 hsl => ?_
  refine FX.row_wp hsl hm1.size fun w2 h1 h2 hm2 => ?_
  refine go1 (v := .agg #[.slice (some ⟨w1.heap.size, 0, none⟩) l.length l.length, .int .i64 flex]) rfl (by
    simp only [RK.val?, List.map_cons, List.map_nil, ev, upd_same, fillL]
    simp [splice, Value.cells]) ?_
  have hb2 := hb0.mod (hm1.trans hm2) (by simp)
  refine goSt (b := w.heap.size) (v := .agg #[.slice (some ⟨w1.heap.size, 0, none⟩) l.length l.length, .int .i64 flex]) ?_ (by simp) hb2 rfl rfl (by simp [Value.cells, Value.oneCell']) fun w3 hb3 hm3 => ?_
  · simp only [ev, updo, upd]
    rw [if_neg (by omega), if_neg (by omega), hfr 0 (by omega)]
    simp
  have hm23 : Mod [] w w3 := Mod.drop (b := w.heap.size) (S := []) (((hm0.trans hm1).trans hm2).nil.trans hm3) (Nat.le_refl _)
  refine wpR_done (retN (cs := [.slice (some ⟨w1.heap.size, 0, none⟩) l.length l.length, .int .i64 flex]) (b := w.heap.size) ?_ (by simpa using hb3) rfl ⟨_, rfl, ?_, hm23⟩)
  · simp only [updo, upd]
    rw [if_neg (by omega), if_neg (by omega), hfr 0 (by omega)]
    simp
  · have hlt := hb0.lt
    exact .mk (h1.mod hm3 (by simp; omega) fun _ _ _ => trivial) (h2.mod hm3 (by simp; omega) fun _ _ _ => trivial)
end
end Go.Msk

namespace Go.Msk
open Go.RowKit
set_option maxRecDepth 100000
structure LibA (P : Program) (F : Nat → Nat) (has : Nat → Bool) : Prop where
  mixed : P.follows .mixedOrders = true
  kAppendBool : has Msk.kAppendBool = true → liftF P (F Msk.kAppendBool) = some (ir_kAppendBool F)
  kAppendInt8 : has Msk.kAppendInt8 = true → liftF P (F Msk.kAppendInt8) = some (ir_kAppendInt8 F)
  kAppendInt16 : has Msk.kAppendInt16 = true → liftF P (F Msk.kAppendInt16) = some (ir_kAppendInt16 F)
  kAppendUint16 : has Msk.kAppendUint16 = true → liftF P (F Msk.kAppendUint16) = some (ir_kAppendUint16 F)
  kAppendInt32 : has Msk.kAppendInt32 = true → liftF P (F Msk.kAppendInt32) = some (ir_kAppendInt32 F)
  kAppendUint32 : has Msk.kAppendUint32 = true → liftF P (F Msk.kAppendUint32) = some (ir_kAppendUint32 F)
  kAppendInt64 : has Msk.kAppendInt64 = true → liftF P (F Msk.kAppendInt64) = some (ir_kAppendInt64 F)
  kAppendUint64 : has Msk.kAppendUint64 = true → liftF P (F Msk.kAppendUint64) = some (ir_kAppendUint64 F)
  kAppendUuid : has Msk.kAppendUuid = true → liftF P (F Msk.kAppendUuid) = some (ir_kAppendUuid F)
  kAppendUvarint : has Msk.kAppendUvarint = true → liftF P (F Msk.kAppendUvarint) = some (ir_kAppendUvarint F)
  kUvarintLen : has Msk.kUvarintLen = true → liftF P (F Msk.kUvarintLen) = some (ir_kUvarintLen F)
  bLen32 : has Msk.bLen32 = true → liftF P (F Msk.bLen32) = some (ir_bLen32 F)
  kAppendString : has Msk.kAppendString = true → liftF P (F Msk.kAppendString) = some (ir_kAppendString F)
  kAppendCompactString : has Msk.kAppendCompactString = true → liftF P (F Msk.kAppendCompactString) = some (ir_kAppendCompactString F)
  kAppendNullableString : has Msk.kAppendNullableString = true → liftF P (F Msk.kAppendNullableString) = some (ir_kAppendNullableString F)
  kAppendCompactNullableString : has Msk.kAppendCompactNullableString = true → liftF P (F Msk.kAppendCompactNullableString) = some (ir_kAppendCompactNullableString F)
  kAppendBytes : has Msk.kAppendBytes = true → liftF P (F Msk.kAppendBytes) = some (ir_kAppendBytes F)
  kAppendCompactBytes : has Msk.kAppendCompactBytes = true → liftF P (F Msk.kAppendCompactBytes) = some (ir_kAppendCompactBytes F)
  kAppendArrayLen : has Msk.kAppendArrayLen = true → liftF P (F Msk.kAppendArrayLen) = some (ir_kAppendArrayLen F)
  kAppendCompactArrayLen : has Msk.kAppendCompactArrayLen = true → liftF P (F Msk.kAppendCompactArrayLen) = some (ir_kAppendCompactArrayLen F)
  kAppendNullableArrayLen : has Msk.kAppendNullableArrayLen = true → liftF P (F Msk.kAppendNullableArrayLen) = some (ir_kAppendNullableArrayLen F)
  kAppendCompactNullableArrayLen : has Msk.kAppendCompactNullableArrayLen = true → liftF P (F Msk.kAppendCompactNullableArrayLen) = some (ir_kAppendCompactNullableArrayLen F)
  tLen : has Msk.tLen = true → liftF P (F Msk.tLen) = some (ir_tLen F)
  tAppendEach : has Msk.tAppendEach = true → liftF P (F Msk.tAppendEach) = some (ir_tAppendEach F)
  tAppendEach1 : has Msk.tAppendEach1 = true → liftF P (F Msk.tAppendEach1) = some (ir_tAppendEach1 F)
  body1 : has Msk.tAppendEach1 = true → hasBody P (F Msk.tAppendEach1) = true
  tEach : has Msk.tEach = true → liftF P (F Msk.tEach) = some (ir_tEach F)
  sort : has Msk.tEach = true → SortC P (F sortSlice) (F tEach1) (F tyU32s)
def apF (F : Nat → Nat) (has : Nat → Bool) (p : PK) (x : Bool) (f : FuncId) : Bool :=
  let ok (c : Nat) (l : List Nat) : Bool := f == F c && hasAll has (c :: l)
  let uv := [kAppendUvarint, kUvarintLen, bLen32]
  match p with
  | .bool => ok kAppendBool []
  | .i8 => ok kAppendInt8 []
  | .i16 => ok kAppendInt16 [kAppendUint16]
  | .u16 => ok kAppendUint16 []
  | .i32 => ok kAppendInt32 [kAppendUint32]
  | .i64 => ok kAppendInt64 [kAppendUint64]
  | .str => if x then ok kAppendCompactString uv else ok kAppendString [kAppendInt16, kAppendUint16]
  | .nstr => if x then ok kAppendCompactNullableString (kAppendCompactString :: uv) else ok kAppendNullableString [kAppendString, kAppendInt16, kAppendUint16]
  | .byt => if x then ok kAppendCompactBytes uv else ok kAppendBytes [kAppendInt32, kAppendUint32]
  | _ => false
def apL (F : Nat → Nat) (has : Nat → Bool) (nul x : Bool) (f : FuncId) : Bool :=
  let ok (c : Nat) (l : List Nat) : Bool := f == F c && hasAll has (c :: l)
  let uv := [kAppendUvarint, kUvarintLen, bLen32]
  if nul then (if x then ok kAppendCompactNullableArrayLen uv else ok kAppendNullableArrayLen [kAppendInt32, kAppendUint32])
  else (if x then ok kAppendCompactArrayLen uv else ok kAppendArrayLen [kAppendInt32, kAppendUint32])
def Ap.okB (F : Nat → Nat) (has : Nat → Bool) (hf x : Bool) : Ap → Bool
  | .nil => true
  | .prm _ _ p a rest => (!a.fx || hf) && apF F has p x (a.sel x) && rest.okB F has hf x
  | .uid _ f rest => (f == F kAppendUuid && has kAppendUuid) && rest.okB F has hf x
  | .vst _ _ a1 a2 rest => (!a1.fx || hf) && (!a2.fx || hf) && apF F has .str x (a1.sel x) && apF F has .nstr x (a2.sel x) && rest.okB F has hf x
  | .lsp _ nul ln p a rest => (!ln.fx || hf) && (!a.fx || hf) && apL F has nul x (ln.sel x) && apF F has p x (a.sel x) && rest.okB F has hf x
  | .lss _ nul ln _ body rest => (!ln.fx || hf) && apL F has nul x (ln.sel x) && body.okB F has hf x && rest.okB F has hf x
  | .sub _ _ body rest => body.okB F has hf x && rest.okB F has hf x
  | .tags ln uv ap => hf && (ln == F tLen && uv == F kAppendUvarint && ap == F tAppendEach && hasAll has [tLen, kAppendUvarint, kUvarintLen, bLen32, tAppendEach, tAppendEach1, tEach])
section
variable {P : Program} {F : Nat → Nat} {has : Nat → Bool} {f : FuncId}
theorem imp_of {a b : Bool} (h : (!a || b) = true) (ha : a = true) : b = true := by
  rw [ha] at h; simpa using h
theorem spl_of {c : Nat} {l : List Nat} (h : (f == F c && hasAll has (c :: l)) = true) : f = F c ∧ ∀ y ∈ c :: l, has y = true := by
  simp only [Bool.and_eq_true, beq_iff_eq] at h
  exact ⟨h.1, hasAll_mem h.2⟩
theorem apF_of (L : LibA P F has) {p : PK} {x : Bool} (h : apF F has p x f = true) : ApF P f p x := by
  have hm := L.mixed
  cases p with
  | bool => obtain ⟨rfl, q⟩ := spl_of h; exact ApF.bool (fun b => (kAppendBool_call hm (L.kAppendBool (q _ (by simp)))).k fun _ _ _ h => h) x
  | i8 => obtain ⟨rfl, q⟩ := spl_of h; exact ApF.int (.inl ⟨rfl, rfl, rfl⟩) fun n => (kAppendInt8_call hm (L.kAppendInt8 (q _ (by simp)))).k fun _ _ _ h => h
  | i16 => obtain ⟨rfl, q⟩ := spl_of h; exact ApF.int (.inr (.inl ⟨rfl, rfl, rfl⟩)) fun n => (kAppendInt16_call hm (L.kAppendInt16 (q _ (by simp))) (L.kAppendUint16 (q _ (by simp)))).k fun _ _ _ h => h
  | u16 => obtain ⟨rfl, q⟩ := spl_of h; exact ApF.u16 fun n h1 h2 => (kAppendUint16_call hm (L.kAppendUint16 (q _ (by simp))) ⟨h1, h2⟩).k fun _ _ _ h => h
  | i32 => obtain ⟨rfl, q⟩ := spl_of h; exact ApF.int (.inr (.inr (.inl ⟨rfl, rfl, rfl⟩))) fun n => (kAppendInt32_call hm (L.kAppendInt32 (q _ (by simp))) (L.kAppendUint32 (q _ (by simp)))).k fun _ _ _ h => h
  | i64 => obtain ⟨rfl, q⟩ := spl_of h; exact ApF.int (.inr (.inr (.inr ⟨rfl, rfl, rfl⟩))) fun n => (kAppendInt64_call hm (L.kAppendInt64 (q _ (by simp))) (L.kAppendUint64 (q _ (by simp)))).k fun _ _ _ h => h
  | str =>
    cases x with
    | true => obtain ⟨rfl, q⟩ := spl_of h; exact ApF.str fun s hs => by simpa using kAppendCompactString_call hm (L.kAppendCompactString (q _ (by simp))) (L.kAppendUvarint (q _ (by simp))) (L.kUvarintLen (q _ (by simp))) (L.bLen32 (q _ (by simp))) hs
    | false => obtain ⟨rfl, q⟩ := spl_of h; exact ApF.str fun s hs => by simpa using kAppendString_call hm (L.kAppendString (q _ (by simp))) (L.kAppendInt16 (q _ (by simp))) (L.kAppendUint16 (q _ (by simp)))
  | nstr =>
    cases x with
    | true => obtain ⟨rfl, q⟩ := spl_of h; exact ApF.nstr fun o ho => kAppendCompactNullableString_call hm (L.kAppendCompactNullableString (q _ (by simp))) (L.kAppendCompactString (q _ (by simp))) (L.kAppendUvarint (q _ (by simp))) (L.kUvarintLen (q _ (by simp))) (L.bLen32 (q _ (by simp))) ho
    | false => obtain ⟨rfl, q⟩ := spl_of h; exact ApF.nstr fun o ho => kAppendNullableString_call hm (L.kAppendNullableString (q _ (by simp))) (L.kAppendString (q _ (by simp))) (L.kAppendInt16 (q _ (by simp))) (L.kAppendUint16 (q _ (by simp)))
  | byt =>
    cases x with
    | true => obtain ⟨rfl, q⟩ := spl_of h; exact ApF.byt fun s hs => by simpa using kAppendCompactBytes_call hm (L.kAppendCompactBytes (q _ (by simp))) (L.kAppendUvarint (q _ (by simp))) (L.kUvarintLen (q _ (by simp))) (L.bLen32 (q _ (by simp))) hs
    | false => obtain ⟨rfl, q⟩ := spl_of h; exact ApF.byt fun s hs => by simpa using kAppendBytes_call hm (L.kAppendBytes (q _ (by simp))) (L.kAppendInt32 (q _ (by simp))) (L.kAppendUint32 (q _ (by simp)))
  | u32 => simp [apF] at h
  | uuid => simp [apF] at h
  | nbyt => simp [apF] at h
theorem apL_of (L : LibA P F has) {nul x : Bool} (h : apL F has nul x f = true) : ApL P f nul x := by
  have hm := L.mixed
  intro w0 w dv l n isnil hn hm0 hd hl
  cases nul with
  | true =>
    cases x with
    | true =>
      obtain ⟨rfl, q⟩ := spl_of h
      have k := kAppendCompactNullableArrayLen_call hm (L.kAppendCompactNullableArrayLen (q _ (by simp))) (L.kAppendUvarint (q _ (by simp))) (L.kUvarintLen (q _ (by simp))) (L.bLen32 (q _ (by simp))) (n := n) (null := isnil) hn
      have e : encLen true true isnil n = if isnil then [0] else uvE (n + 1) := by simp [encLen]
      rw [e] at hl ⊢
      exact k w0 w dv l hm0 hd hl
    | false =>
      obtain ⟨rfl, q⟩ := spl_of h
      have k := kAppendNullableArrayLen_call hm (L.kAppendNullableArrayLen (q _ (by simp))) (L.kAppendInt32 (q _ (by simp))) (L.kAppendUint32 (q _ (by simp))) (n := n) (null := isnil)
      have e : encLen true false isnil n = if isnil then beI 4 (-1) else beI 4 n := by simp [encLen]
      rw [e] at hl ⊢
      exact k w0 w dv l hm0 hd hl
  | false =>
    cases x with
    | true =>
      obtain ⟨rfl, q⟩ := spl_of h
      have k := kAppendCompactArrayLen_call hm (L.kAppendCompactArrayLen (q _ (by simp))) (L.kAppendUvarint (q _ (by simp))) (L.kUvarintLen (q _ (by simp))) (L.bLen32 (q _ (by simp))) (n := n) hn
      have e : encLen false true isnil n = uvE (n + 1) := by simp [encLen]
      rw [e] at hl ⊢
      exact k w0 w dv _ l hm0 hd hl rfl
    | false =>
      obtain ⟨rfl, q⟩ := spl_of h
      have k := (kAppendArrayLen_call hm (L.kAppendArrayLen (q _ (by simp))) (L.kAppendInt32 (q _ (by simp))) (L.kAppendUint32 (q _ (by simp))) (n := (n : Int))).k fun _ _ _ h => h
      have e : encLen false false isnil n = beI 4 n := by simp [encLen]
      rw [e] at hl ⊢
      exact k w0 w dv _ l hm0 hd hl rfl
theorem Ap.ok_of (L : LibA P F has) {hf x : Bool} : ∀ ap : Ap, ap.okB F has hf x = true → ap.Ok P hf x := by
  intro ap
  induction ap with
  | nil => intro _; trivial
  | prm vc cp p a rest ih =>
    intro h
    simp only [Ap.okB, Bool.and_eq_true] at h
    exact ⟨imp_of h.1.1, apF_of L h.1.2, ih h.2⟩
  | uid vc ff rest ih =>
    intro h
    simp only [Ap.okB, Bool.and_eq_true, beq_iff_eq] at h
    obtain ⟨⟨rfl, h1⟩, h2⟩ := h
    exact ⟨fun u hu => kAppendUuid_call L.mixed (L.kAppendUuid h1) hu, ih h2⟩
  | vst vc V a1 a2 rest ih =>
    intro h
    simp only [Ap.okB, Bool.and_eq_true] at h
    exact ⟨imp_of h.1.1.1.1, imp_of h.1.1.1.2, apF_of L h.1.1.2, apF_of L h.1.2, ih h.2⟩
  | lsp vc nul ln p a rest ih =>
    intro h
    simp only [Ap.okB, Bool.and_eq_true] at h
    exact ⟨imp_of h.1.1.1.1, imp_of h.1.1.1.2, apL_of L h.1.1.2, apF_of L h.1.2, ih h.2⟩
  | lss vc nul ln sz body rest ihb ih =>
    intro h
    simp only [Ap.okB, Bool.and_eq_true] at h
    exact ⟨imp_of h.1.1.1, apL_of L h.1.1.2, ihb h.1.2, ih h.2⟩
  | sub vc sz body rest ihb ih =>
    intro h
    simp only [Ap.okB, Bool.and_eq_true] at h
    exact ⟨ihb h.1, ih h.2⟩
  | tags ln uv ap =>
    intro h
    simp only [Ap.okB, Bool.and_eq_true, beq_iff_eq] at h
    obtain ⟨h0, ⟨⟨rfl, rfl⟩, rfl⟩, h1⟩ := h
    have q := hasAll_mem h1
    refine ⟨h0, fun w B o v m hc hM => tLen_call L.mixed (L.tLen (q _ (by simp))) hc hM, fun n hn => (kAppendUvarint_call L.mixed (L.kAppendUvarint (q _ (by simp))) (L.kUvarintLen (q _ (by simp))) (L.bLen32 (q _ (by simp))) hn).k fun _ _ _ h => h, ?_⟩
    intro w0 w B o dv v l m hm0 hd hl hc hM hml hmv
    exact tAppendEach_call L.mixed (L.tAppendEach (q _ (by simp))) (L.tAppendEach1 (q _ (by simp))) (L.body1 (q _ (by simp))) (L.tEach (q _ (by simp))) (L.sort (q _ (by simp))) (L.kAppendUvarint (q _ (by simp))) (L.kUvarintLen (q _ (by simp))) (L.bLen32 (q _ (by simp))) hm0 hd hl hc hM hml hmv
structure BehFs where
  mx : FuncId
  newp : FuncId
  maxv : FuncId
  setv : FuncId
  rf : FuncId
  rd : FuncId
  ap : FuncId
  beh : FuncId
  sm : FuncId
structure BehOk (P : Program) (F : Nat → Nat) (has : Nat → Bool) (M : BehFs) (T : Top) (A : ATop) (fx : List FX) (flex : Int) (z : List Value) (most : Nat) : Prop where
  mx : liftF P M.mx = some (impMaxCode M.newp M.maxv)
  maxv : liftF P M.maxv = some (maxCode most)
  newp : liftF P M.newp = some (newCode z T.dfl)
  setv : liftF P M.setv = some setCode
  rf : liftF P M.rf = some (rfCode M.rd false)
  rd : liftF P M.rd = some T.gen
  ap : liftF P M.ap = some A.gen
  beh : liftF P M.beh = some (behCode M.newp M.setv M.rf M.ap)
  sm : liftF P M.sm = some (FX.genMsg fx flex)
  fxs : FX.OkL P fx
  cnt : Nat.blt fx.length 1000 = true
  dfl : ∃ l, liftF P T.dfl = some (dfGen l) ∧ dfOk l (T.sc.dcs.flatten.length + 1) ∧ z.length = T.sc.dcs.flatten.length + 1 ∧ dfRes l z = .int .i16 0 :: T.sc.dcs.flatten ∧ ∀ ver, dfRes l (.int .i16 ver :: T.sc.dcs.flatten) = .int .i16 ver :: T.sc.dcs.flatten
  dfs : DfsOk P T.sc.dfs
  okT : T.okB F has = true
  okA : (A.ap.okB F has A.flex.isSome false && (A.flex.isNone || A.ap.okB F has A.flex.isSome true)) = true
  rt : rtOk T A ⟨FX.fds fx, flex⟩ most = true
  most : most < 32768
variable {M : BehFs} {T : Top} {A : ATop} {fx : List FX} {flex : Int} {z : List Value} {most : Nat}
theorem ATop.ok_all (L : LibA P F has) (h : (A.ap.okB F has A.flex.isSome false && (A.flex.isNone || A.ap.okB F has A.flex.isSome true)) = true) (ver : Int) : A.ap.Ok P A.flex.isSome (A.x ver) := by
  simp only [Bool.and_eq_true, Bool.or_eq_true] at h
  cases hx : A.x ver with
  | false => exact Ap.ok_of L _ h.1
  | true =>
    refine Ap.ok_of L _ (h.2.resolve_left ?_)
    unfold ATop.x at hx
    cases hf : A.flex with
    | none => rw [hf] at hx; simp at hx
    | some n => simp
theorem BehOk.lenW (h : BehOk P F has M T A fx flex z most) (size : Nat.ble (FD.kL (FX.fds fx)) 1000000 = true) {t : TR} (hk : t.kok) (hw : t.wt ≤ 1048576) (v : Int) : (writeP ⟨FX.fds fx, flex⟩ v t).length + 1000 ≤ lim := by
  have hp : FD.plainL (FX.fds fx) = true := by have := h.rt; simp only [rtOk, Bool.and_eq_true] at this; exact this.1
  have a := writeP_wt (m := ⟨FX.fds fx, flex⟩) (ver := v) hp hk
  have b := Nat.le_of_ble_eq_true size
  have c : (FD.kL (FX.fds fx) + 16) * t.wt ≤ 1000016 * 1048576 := Nat.mul_le_mul (by omega) hw
  have d : (FD.kL (MD.fs ⟨FX.fds fx, flex⟩) + 16) * t.wt = (FD.kL (FX.fds fx) + 16) * t.wt := rfl
  unfold lim
  omega
theorem BehOk.behOf (L : Lib P F has) (LA : LibA P F has) (h : BehOk P F has M T A fx flex z most) {Te : TypeId} {ve : Value} : BehOf P M.beh ⟨FX.fds fx, flex⟩ most (F gErr) Te ve := by
  intro w ver t dv sv ld hk hlen h0 h1 hld hd hs hg
  unfold lim at hlen
  obtain ⟨l, e1, e2, e3, e4, e5⟩ := h.dfl
  have hz : DfC P T.dfl z (.int .i16 0 :: T.sc.dcs.flatten) := df_call L.mixed e1 (by rw [e3]; exact e2) e4
  obtain ⟨hpos, gs, hdec, henc, hfit⟩ := top_rt h.rt h0 h1 hk
  have hmost := h.most
  have := beh_call (A := A) L.mixed h.beh h.newp hz h.setv h.rf h.rd (Top.ok_of L h.okT h.dfs e1 e2 e5 false) h.ap (ATop.ok_all LA h.okA ver) hdec rfl hfit hd hs hpos (by unfold lim; omega) (by rw [henc]; unfold lim; omega)
    (by simp only [IntKind.wrap, IntKind.bits, IntKind.signed]; simp; omega) hg
  rw [henc] at this
  exact this.mono fun e w' ⟨v', he, hv, hm⟩ => ⟨v', he, hv.any, hm⟩
theorem beh_msg (L : Lib P F has) (LA : LibA P F has) (SL : SLib P F) (h : BehOk P F has M T A fx flex z most) {f zz z2 z3 : FuncId} (hf : liftF P f = some (behLaw zz M.mx M.sm (F lVersion) (F sWrite) M.beh (F sSame))) (hz1 : liftF P zz = some (zz1Code z2)) (hz2 : liftF P z2 = some (zz2Code z3)) (hz3 : liftF P z3 = some zz3Code)
    (hv : liftF P (F lVersion) = some (ir_lVersion F)) (hs : liftF P (F sSame) = some (ir_sSame F)) {Te : TypeId} {ve : Value} {w : World} {n : Int} (hn : 0 ≤ n ∧ n < 256) {dv : Value} {ld : List UInt8} {t : TR} {ts : List Value}
    (hd : SlC anyB w dv ld.length (u8s ld)) (ht : RepT anyB w t ts) (hk : t.kok) (hlen : ∀ v, (writeP ⟨FX.fds fx, flex⟩ v t).length + 1000 ≤ lim) (hge : GErr (F gErr) w Te ve) : Calls P f [.int .u8 n, dv, .agg ts.toArray].toArray w fun e w' => e = .returned (.bool true) ∧ Mod [] w w' := by
  obtain ⟨l, e1, e2, e3, e4, e5⟩ := h.dfl
  have hz : DfC P T.dfl z (.int .i16 0 :: T.sc.dcs.flatten) := df_call L.mixed e1 (by rw [e3]; exact e2) e4
  have hmost : (0 : Int) ≤ most ∧ (most : Int) < 32768 := ⟨by omega, by have := h.most; omega⟩
  have hp : FD.plainL (FX.fds fx) = true := by have := h.rt; simp only [rtOk, Bool.and_eq_true] at this; exact this.1
  refine beh_law L.mixed hf hmost (fun w t ts ht => zz1_call L.mixed hz1 hz2 hz3 ht) (fun w => impMax_call L.mixed h.mx h.newp hz h.maxv hmost) (fun w => msg_call L.mixed h.sm h.fxs) (fun w n hn => version_call L.mixed hv hn hmost) (fun v w ms t ts a b c d => ?_) (h.behOf L LA) (fun w v1 v2 l1 l2 a b c => same_call L.mixed hs a b c) hn hd ht hk hlen hge
  · refine writeC_plain SL (m := ⟨FX.fds fx, flex⟩) (ver := v) hp ?_ w ms t ts a b c d
    show (FX.fds fx).length < 1000
    rw [FX.fds_length]
    have := h.cnt
    exact Nat.lt_of_succ_le (Nat.le_of_ble_eq_true this)
end
end Go.Msk

namespace Go.Msk
open Go.RowKit Go.Shelf Go.Proofs
set_option maxRecDepth 100000
def ltN (x y : Nat) : Bool := decide (x < y)
theorem swo_ltN : Go.Sort.SWO ltN where
  irrefl := fun x => by simp [ltN]
  trans := fun x y z => by simp only [ltN, decide_eq_true_eq]; omega
  ntrans := fun x y z => by simp only [ltN, decide_eq_false_iff_not]; omega
theorem sortWorld_ok {w : World} {B m : Nat} {cs : List Value} {dk : Array Nat} {os : Array Obj} (h : Blk w B cs) (hl : cs.length = dk.size) :
    Mod [B] w (Go.Sort.grow (Go.Sort.putRow u32v (Go.Sort.ahead w m) B 0 dk) os) ∧ Blk (Go.Sort.grow (Go.Sort.putRow u32v (Go.Sort.ahead w m) B 0 dk) os) B (dk.toList.map u32v) := by
  obtain ⟨T, fr, hb, hfr⟩ := h
  have hlt : B < w.heap.size := (Array.getElem?_eq_some_iff.1 hb).1
  have hsz : (w.heap.modify B (Go.Sort.onCells (Go.Sort.putCells u32v 0 dk))).size = w.heap.size := by simp
  have hget : ∀ k, k < w.heap.size → (Go.Sort.grow (Go.Sort.putRow u32v (Go.Sort.ahead w m) B 0 dk) os).heap[k]? = (w.heap.modify B (Go.Sort.onCells (Go.Sort.putCells u32v 0 dk)))[k]? := fun k hk => by
    show ((w.heap.modify B (Go.Sort.onCells (Go.Sort.putCells u32v 0 dk))) ++ os)[k]? = _
    rw [Array.getElem?_append_left (by omega)]
  refine ⟨⟨rfl, rfl, rfl, ?_, fun k hk hn => ?_⟩, T, fr, ?_, ?_⟩
  · show w.heap.size ≤ ((w.heap.modify B (Go.Sort.onCells (Go.Sort.putCells u32v 0 dk))) ++ os).size
    simp
  · rw [hget k hk, Array.getElem?_modify, if_neg (by simp only [List.mem_singleton] at hn; omega)]
  · rw [hget B hlt, Array.getElem?_modify, if_pos rfl, hb]
    simp only [Option.map_some, Go.Sort.onCells, Option.some.injEq, Obj.cells.injEq, and_true]
    apply Array.ext_getElem?
    intro k
    simp only [Go.Sort.putCells, Array.getElem?_mapIdx, List.getElem?_toArray, List.getElem?_map, Array.getElem?_toList, Nat.zero_add, Nat.zero_le, true_and, Nat.sub_zero]
    by_cases hk : k < dk.size
    · have e1 : cs[k]? = some cs[k] := List.getElem?_eq_getElem (by omega)
      have e2 : dk[k]? = some dk[k] := Array.getElem?_eq_getElem hk
      rw [e1, e2]
      simp only [Option.map_some, if_pos hk]
      rw [getElem!_pos dk k hk]
    · rw [List.getElem?_eq_none (by omega), Array.getElem?_eq_none (by omega)]
      rfl
  · simp only [List.length_map, Array.length_toList]
    rw [← hl]; exact hfr
section
variable {P : Program} {F : Nat → Nat}
theorem each1_call (hm : P.follows .mixedOrders = true) (h : liftF P (F tEach1) = some (ir_tEach1 F)) {w : World} {B Bs n : Nat} {G : Nat → Nat} (hs : w.cell? ⟨Bs, 0, none⟩ = some (.slice (some ⟨B, 0, none⟩) n n))
    (hc : ∀ t, t < n → w.cell? ⟨B, t, none⟩ = some (u32v (G t))) {i j : Nat} (hi : i < n) (hj : j < n) :
    Calls P (F tEach1) [.int .i64 i, .int .i64 j, .pointer (some ⟨Bs, 0, none⟩)].toArray w fun e w' => e = .returned (.bool (ltN (G i) (G j))) ∧ w' = w.drew := by
  unfold ir_tEach1 at h
  refine call_of h hm (by simp) ?_
  have a0 : args0 [.int .i64 i, .int .i64 j, .pointer (some ⟨Bs, 0, none⟩)] 0 = .int .i64 i := rfl
  have a1 : args0 [.int .i64 i, .int .i64 j, .pointer (some ⟨Bs, 0, none⟩)] 1 = .int .i64 j := rfl
  have a2 : args0 [.int .i64 i, .int .i64 j, .pointer (some ⟨Bs, 0, none⟩)] 2 = .pointer (some ⟨Bs, 0, none⟩) := rfl
  generalize args0 [.int .i64 i, .int .i64 j, .pointer (some ⟨Bs, 0, none⟩)] = σ at a0 a1 a2 ⊢
  rw [wpC_seq, wpC_blk]
  refine wpR_step (v := .bool false) rfl ?_
  refine wpR_done ?_
  rw [wpC_seq]
  show wpD P _ [] _ w.drew _
  have hs' : w.drew.cell? ⟨Bs, 0, none⟩ = some (.slice (some ⟨B, 0, none⟩) n n) := hs
  have hi' : w.drew.cell? ⟨B, i, none⟩ = some (u32v (G i)) := hc i hi
  have hj' : w.drew.cell? ⟨B, j, none⟩ = some (u32v (G j)) := hc j hj
  refine wpD_pure rfl ?_
  simp only [List.map_cons, List.map_nil, List.cons_append, List.nil_append]
  refine wpR_step (v := .slice (some ⟨B, 0, none⟩) n n) (by simp only [RK.val?, ev, updo, upd]; simp [a2, hs']) ?_
  refine wpR_step (v := .int .i64 i) (by simp only [RK.val?, ev, updo, upd]; simp [a0]) ?_
  refine wpR_step (v := .pointer (some ⟨B, i, none⟩)) (by
    simp only [RK.val?, ev, updo, upd, show (6 : Nat) ≠ 7 by decide, if_false, if_true]
    rw [if_pos (by omega)]; simp [Addr.add_mk]) ?_
  refine wpR_step (v := u32v (G i)) (by simp only [RK.val?, ev, updo, upd, if_true, hi']) ?_
  refine wpR_step (v := .slice (some ⟨B, 0, none⟩) n n) (by simp only [RK.val?, ev, updo, upd]; simp [a2, hs']) ?_
  refine wpR_step (v := .int .i64 j) (by simp only [RK.val?, ev, updo, upd]; simp [a1]) ?_
  refine wpR_step (v := .pointer (some ⟨B, j, none⟩)) (by
    simp only [RK.val?, ev, updo, upd, show (10 : Nat) ≠ 11 by decide, if_false, if_true]
    rw [if_pos (by omega)]; simp [Addr.add_mk]) ?_
  refine wpR_step (v := u32v (G j)) (by simp only [RK.val?, ev, updo, upd, if_true, hj']) ?_
  refine wpR_step (v := .bool (ltN (G i) (G j))) (by
    simp only [RK.val?, ev, updo, upd, show (9 : Nat) ≠ 13 by decide, show (9 : Nat) ≠ 12 by decide, show (9 : Nat) ≠ 11 by decide, show (9 : Nat) ≠ 10 by decide, if_false, if_true, u32v, isShift, decide_true, Bool.or_true, intBin, ltN]
    congr 2; exact decide_eq_decide.2 (by omega)) ?_
  refine wpR_step (v := .bool (ltN (G i) (G j))) (by simp only [RK.val?, ev, updo, upd, if_true]) ?_
  refine wpR_done ?_
  simp only [wpC, postC, rvals, List.mapM_cons, List.mapM_nil, RV.val, updo, upd, if_true, Option.bind_eq_bind, Option.bind_some, Option.pure_def, tup_one]
  exact ⟨trivial, trivial⟩
theorem sortC_of {ρ : Ren} (L : LaysGg.n6 P ρ) (hm : P.follows .mixedOrders = true) (hl : liftF P (F tEach1) = some (ir_tEach1 F)) (hf : ρ.f 6 = F sortSlice) {e : TypeId} {i ie : TypeInfo} (hi : P.info? (F tyU32s) = some i) (hd : i.desc = .slice e)
    (hpk : P.packed (F tyU32s) = false) (hie : P.info? e = some ie) (ke : Nat) (hke : ∀ w, (Extern.Rtype.kind e).run P w = .ok ke w) (hs1 : ie.size = 1) (hagg : ∀ w, (isAgg e).run P w = .ok false w) (hp : ie.hasPointers = false) (hb : ie.bytes = 4)
    (eg : ∀ args w, (callFunc (F tEach1) args).run P w = .ok (.enter (F tEach1) args) w) (f1 f2 f6 : Nat) (h1 : P.funcs.findIdx? (·.name == "internal/reflectlite" ++ ".Swapper$" ++ toString 1) = some f1) (h2 : P.funcs.findIdx? (·.name == "internal/reflectlite" ++ ".Swapper$" ++ toString 2) = some f2)
    (h6 : P.funcs.findIdx? (·.name == "internal/reflectlite" ++ ".Swapper$" ++ toString 6) = some f6) (gS : Bool) (hx : ∀ args W, (callFunc f6 args).run P W = ((Extern.ReflectliteSwapper.swap gS args).run P W).andThen fun v w' => .ok (.value v) w') :
    SortC P (F sortSlice) (F tEach1) (F tyU32s) := by
  intro w B Bs ks hB hBs hne hlen hk32
  rw [← hf]
  by_cases hn : 2 ≤ ks.length
  · have hK : Go.Lib.swapperK ks.toArray.size ie ke = 6 := by
      have c : (ks.toArray.size == 0) = false := by simp; intro h; rw [h] at hn; simp at hn
      have d : (ks.toArray.size == 1) = false := by simp; omega
      simp only [Go.Lib.swapperK, hp, hb, c, d, Bool.false_and, Bool.false_eq_true, if_false]
    have hH : Go.Sort.Holds u32v w B 0 ks.toArray := by
      intro j hj
      have hj' : j < ks.length := by simpa using hj
      refine ⟨?_, ?_⟩
      · rw [Nat.zero_add, hB.cell j, List.getElem?_map, List.getElem?_eq_getElem hj', getElem!_pos ks.toArray j hj]
        simp
      · obtain ⟨T, fr, hb, hfr⟩ := hB
        obtain ⟨lo, hi⟩ := fr
        simp only [World.frozen?, hb, Nat.zero_add]
        simp only [List.length_map] at hfr
        simp only [Bool.and_eq_false_iff, decide_eq_false_iff_not]
        omega
    have hless : LessReads P (F tEach1) #[.pointer (some ⟨Bs, 0, none⟩)] u32v ltN B 0 ks.toArray.size w := by
      intro m os dk hs a b ha hb
      have hs' : dk.size = ks.length := by simpa using hs
      obtain ⟨q1, q2⟩ := sortWorld_ok (w := w) (B := B) (m := m) (dk := dk) (os := os) hB (by simpa using hs'.symm)
      have q3 := hBs.mod q1 (by simpa using hne)
      refine (each1_call hm hl (w := sortWorld u32v w B 0 m dk os) (B := B) (Bs := Bs) (n := ks.length) (G := fun t => dk[t]!) (q3.cell 0) (fun t ht => ?_) (i := a) (j := b) (by simpa using ha) (by simpa using hb)).mono fun en w' hh => ⟨hh.1, 1, hh.2⟩
      have := q2.cell t
      rw [List.getElem?_map] at this
      have ht' : t < dk.size := by omega
      rw [show (sortWorld u32v w B 0 m dk os).cell? ⟨B, t, none⟩ = _ from this, getElem!_pos dk t ht']
      simp [Array.getElem?_eq_getElem ht']
    have hS := Any.sort_Slice_sorted L (F tyU32s) e i ie hi hd hpk hie ke hke hs1 hagg u32v (fun _ => rfl) ltN swo_ltN (F tEach1) #[.pointer (some ⟨Bs, 0, none⟩)] eg B 0 ks.length ks.toArray (by simpa using hn) (by simp; omega) f6 (by rw [hK]; exact h6) gS hx w hless hH hB.lt
    have hsz : ks.toArray.size = ks.length := by simp
    rw [hsz] at hS
    refine hS.mono ?_
    rintro en w' ⟨rfl, d', n, os, ⟨p1, -, p3⟩, hso, rfl⟩
    have hd' : d'.size = ks.length := by simpa using p1
    obtain ⟨q1, q2⟩ := sortWorld_ok (w := w) (B := B) (m := n) (dk := d') (os := os) hB (by simpa using hd'.symm)
    refine ⟨rfl, d'.toList, ?_, ?_, q2, q1⟩
    · have x1 : d'.extract 0 ks.length = d' := by rw [← hd']; exact Array.extract_size
      have x2 : ks.toArray.extract 0 ks.length = ks.toArray := by rw [← hsz]; exact Array.extract_size
      rw [x1, x2] at p3
      exact p3
    · rw [List.pairwise_iff_getElem]
      intro a b ha hb hab
      have ha' : a < d'.size := by simpa using ha
      have hb' : b < d'.size := by simpa using hb
      have := hso a b (Nat.zero_le _) hab (by omega)
      rw [getElem!_pos d' a ha', getElem!_pos d' b hb'] at this
      simp only [ltN, decide_eq_false_iff_not] at this
      simp only [Array.getElem_toList]
      omega
  · have hks : ks.length = 0 ∨ ks.length = 1 := by omega
    have hfn : ∃ f, P.funcs.findIdx? (·.name == "internal/reflectlite" ++ ".Swapper$" ++ toString (Go.Lib.swapperK ks.length ie ke)) = some f := by
      rcases hks with h | h
      · rw [h]; exact ⟨f1, h1⟩
      · rw [h]; exact ⟨f2, h2⟩
    obtain ⟨f0, hf0⟩ := hfn
    refine (Any.sort_Slice_tiny L (F tyU32s) e i ie hi hd hpk hie ke hke (some ⟨B, 0, none⟩) ks.length ks.length (by omega) f0 hf0 (.func (F tEach1)) #[] #[.pointer (some ⟨Bs, 0, none⟩)] w).mono ?_
    rintro en w' ⟨rfl, os, rfl⟩
    have hm' : Mod [] w (Go.Sort.grow w os) := ⟨rfl, rfl, rfl, by show w.heap.size ≤ (w.heap ++ os).size; simp, fun k hk _ => by show (w.heap ++ os)[k]? = _; rw [Array.getElem?_append_left hk]⟩
    refine ⟨rfl, ks, .refl _, ?_, hB.mod hm' (by simp), hm'.nil⟩
    match ks, hks with
    | [], _ => exact .nil
    | [x], _ => simp
end
end Go.Msk
