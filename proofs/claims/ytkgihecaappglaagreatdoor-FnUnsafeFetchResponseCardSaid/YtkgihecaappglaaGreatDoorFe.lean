/- A small language of resolved operations, and what the generic and the generated functions do in it (part 5). -/
import Derived.Test.YtkgihecaappglaaGreatDoorFd

namespace Go.Msk
open Go.RowKit
set_option maxRecDepth 100000
structure RE where
  b : Nat
  vs : Nat
  fx : Nat
  un : Nat
  ret : Nat
  hasFx : Bool
  ok : FuncId
  cpl : FuncId
  deriving Inhabited
inductive VR where
  | call (f : FuncId)
  | uns (a b : VR)
  | flx (a b : VR)
  deriving Inhabited
def VR.sel (u x : Bool) : VR → FuncId
  | .call f => f
  | .uns a b => if u then a.sel u x else b.sel u x
  | .flx a b => if x then a.sel u x else b.sel u x
def VR.nt (h : Bool) : VR → Nat
  | .call _ => 1
  | .uns a b => 1 + (a.nt h + b.nt h)
  | .flx a b => if h then 1 + (a.nt h + b.nt h) else b.nt h
def VR.gen (E : RE) (x : Nat) : VR → Nat → IC
  | .call f, t => .blk [⟨some t, .call f [.tmp E.b], none⟩, ⟨some x, .mv (.tmp t), none⟩]
  | .uns a b, t => .seq (.blk [⟨some t, .mv (.tmp E.un), none⟩]) (.cond (.tmp t) (a.gen E x (t + 1)) (b.gen E x (t + 1 + a.nt E.hasFx)))
  | .flx a b, t => if E.hasFx then .seq (.blk [⟨some t, .mv (.tmp E.fx), none⟩]) (.cond (.tmp t) (a.gen E x (t + 1)) (b.gen E x (t + 1 + a.nt E.hasFx))) else b.gen E x t
def VR.genS (E : RE) (x : Nat) : VR → Nat → IC
  | .call f, t => .blk [⟨some t, .call f [.tmp E.b], none⟩, ⟨none, .st (.tmp x) 1 (.tmp t), none⟩]
  | .uns a b, t => .seq (.blk [⟨some t, .mv (.tmp E.un), none⟩]) (.cond (.tmp t) (a.genS E x (t + 1)) (b.genS E x (t + 1 + a.nt E.hasFx)))
  | .flx a b, t => if E.hasFx then .seq (.blk [⟨some t, .mv (.tmp E.fx), none⟩]) (.cond (.tmp t) (a.genS E x (t + 1)) (b.genS E x (t + 1 + a.nt E.hasFx))) else b.genS E x t
structure RV.Env (E : RE) (n rb : Nat) (u x : Bool) (ver : Int) (σ : Sl) : Prop where
  lb : E.b < n
  lv : E.vs < n
  lf : E.hasFx = true → E.fx < n
  lu : E.un < n
  hb : σ E.b = .pointer (some ⟨rb, 0, none⟩)
  hv : σ E.vs = .int .i16 ver
  hu : σ E.un = .bool u
  hx : E.hasFx = true → σ E.fx = .bool x
  h0 : E.hasFx = false → x = false
theorem RV.Env.ag {E : RE} {n m rb : Nat} {u x : Bool} {ver : Int} {σ σ' : Sl} (h : RV.Env E n rb u x ver σ) (ha : Ag n σ σ') (hm : n ≤ m) : RV.Env E m rb u x ver σ' :=
  ⟨Nat.lt_of_lt_of_le h.lb hm, Nat.lt_of_lt_of_le h.lv hm, fun e => Nat.lt_of_lt_of_le (h.lf e) hm, Nat.lt_of_lt_of_le h.lu hm,
   (ha _ h.lb).trans h.hb, (ha _ h.lv).trans h.hv, (ha _ h.lu).trans h.hu, fun e => (ha _ (h.lf e)).trans (h.hx e), h.h0⟩
def RdV (P : Program) (f : FuncId) (Φ : List Nat → RS → Value → World → Prop) (nx : RS → RS) : Prop :=
  ∀ (S : List Nat) (w : World) (rb : Nat) (s : RS), IsRd S w rb s → rb ∉ S → (∀ y ∈ S, y < w.heap.size) →
    Calls P f [.pointer (some ⟨rb, 0, none⟩)].toArray w fun e w' => ∃ v, e = .returned v ∧ Φ (rb :: S) s v w' ∧ IsRd S w' rb (nx s) ∧ Mod [rb] w w'
def RdG (P : Program) (f : FuncId) (n : Nat) (dec : RS → GV × RS) : Prop :=
  RdV P f (fun O s v w => v.cells.size = n ∧ Rep O w (dec s).1 v.cells.toList) fun s => (dec s).2
def RdL (P : Program) (f : FuncId) (dec : RS → Int × RS) : Prop :=
  RdV P f (fun _ s v _ => v = .int .i32 (dec s).1) fun s => (dec s).2
section
variable {P : Program} {E : RE}
theorem VR.wp {u x : Bool} {ver : Int} {rb n : Nat} {S : List Nat} {s : RS} {d : Nat} {Φ : List Nat → RS → Value → World → Prop} {nx : RS → RS} {Q : Exit → Sl → World → Prop} :
    ∀ (r : VR) (t : Nat) (σ : Sl) (w : World), RV.Env E n rb u x ver σ → d < t → n ≤ t → RdV P (r.sel u x) Φ nx → IsRd S w rb s → rb ∉ S → (∀ y ∈ S, y < w.heap.size) →
    (∀ σ' w' v, (∀ j, j < t → j ≠ d → σ' j = σ j) → σ' d = v → Φ (rb :: S) s v w' → IsRd S w' rb (nx s) → Mod [rb] w w' → Q .normal σ' w') →
    wpC P (r.gen E d t) Q σ w := by
  intro r
  induction r with
  | call f =>
    intro t σ w hE hd hn hR hr hrb hS hQ
    simp only [VR.gen, wpC, wpR, RI.wp, gOk, RK.run, if_true, List.map_cons, List.map_nil, ev, hE.hb]
    refine (hR S w rb s hr hrb hS).mono ?_
    rintro e w1 ⟨v, rfl, hv, hr1, hm1⟩
    refine ⟨v, rfl, hQ _ _ v ?_ ?_ hv hr1 hm1⟩
    · intro j hj hne
      simp only [updo, upd, if_neg hne]
      rw [if_neg (by omega)]
    · simp only [updo, upd, if_true]
  | uns a b iha ihb =>
    intro t σ w hE hd hn hR hr hrb hS hQ
    simp only [VR.gen, wpC, wpR, RI.wp, gOk, RK.run, if_true, ev, thenC, updo, upd_same, hE.hu]
    have hag : Ag t σ (upd σ t (.bool u)) := (Ag.refl _ _).upd (Nat.le_refl _)
    have hE' : RV.Env E n rb u x ver (upd σ t (.bool u)) := hE.ag (hag.mono hn) (Nat.le_refl _)
    cases u with
    | true =>
      refine iha (t + 1) _ w hE' (by omega) (by omega) hR hr hrb hS fun σ' w' v h1 h2 h3 h4 h5 => hQ σ' w' v (fun j hj hne => ?_) h2 h3 h4 h5
      rw [h1 j (by omega) hne]; exact hag j hj
    | false =>
      refine ihb _ _ w hE' (by omega) (by omega) hR hr hrb hS fun σ' w' v h1 h2 h3 h4 h5 => hQ σ' w' v (fun j hj hne => ?_) h2 h3 h4 h5
      rw [h1 j (by omega) hne]; exact hag j hj
  | flx a b iha ihb =>
    intro t σ w hE hd hn hR hr hrb hS hQ
    cases hf : E.hasFx with
    | false =>
      have h0 := hE.h0 hf
      subst h0
      simp only [VR.gen, hf, Bool.false_eq_true, if_false]
      exact ihb t σ w hE hd hn hR hr hrb hS hQ
    | true =>
      simp only [VR.gen, hf, if_true, wpC, wpR, RI.wp, gOk, RK.run, ev, thenC, updo, upd_same, hE.hx hf]
      have hag : Ag t σ (upd σ t (.bool x)) := (Ag.refl _ _).upd (Nat.le_refl _)
      have hE' : RV.Env E n rb u x ver (upd σ t (.bool x)) := hE.ag (hag.mono hn) (Nat.le_refl _)
      cases x with
      | true =>
        refine iha (t + 1) _ w hE' (by omega) (by omega) hR hr hrb hS fun σ' w' v h1 h2 h3 h4 h5 => hQ σ' w' v (fun j hj hne => ?_) h2 h3 h4 h5
        rw [h1 j (by omega) hne]; exact hag j hj
      | false =>
        refine ihb _ _ w hE' (by omega) (by omega) hR hr hrb hS fun σ' w' v h1 h2 h3 h4 h5 => hQ σ' w' v (fun j hj hne => ?_) h2 h3 h4 h5
        rw [h1 j (by omega) hne]; exact hag j hj
def stF (sp x t off n : Nat) : IC :=
  .blk [⟨some t, .mv (.tmp sp), none⟩, ⟨some (t + 1), .mv (.tmp x), none⟩, ⟨some (t + 2), .nilc (.tmp t), none⟩, ⟨some (t + 3), .fad (.tmp (t + 2)) off, none⟩, ⟨none, .st (.tmp (t + 3)) n (.tmp (t + 1)), none⟩]
theorem stF_wp {sp x t off n B o : Nat} {σ : Sl} {w : World} {v : Value} {cs : List Value} {Q : Exit → Sl → World → Prop} (hs : σ sp = .pointer (some ⟨B, o, none⟩)) (hx : σ x = v)
    (hb : Blk w B cs) (ho : o + off + v.cells.toList.length ≤ cs.length) (hv : v.cells.size = n) (h1 : ∀ y ∈ v.cells.toList, y.oneCell' = true) (lx : x < t) (_ls : sp < t)
    (hQ : ∀ σ', Ag t σ σ' → Q .normal σ' (putCells w ⟨B, o + off, none⟩ 0 v.cells.toList)) : wpC P (stF sp x t off n) Q σ w := by
  have e1 : x ≠ t := by omega
  simp only [stF, wpC, wpR, RI.wp, gOk, if_true, RK.run, ev, updo, upd_same, hs]
  simp only [upd, e1, if_true, if_false, hx, show t ≠ t + 1 by omega, show t + 1 ≠ t + 2 by omega, show t + 1 ≠ t + 3 by omega, Addr.add_mk]
  refine ⟨hv, stOk_many hb ho h1, hQ _ ?_⟩
  intro j hj
  simp only [upd, show j ≠ t by omega, show j ≠ t + 1 by omega, show j ≠ t + 2 by omega, show j ≠ t + 3 by omega, if_false]
def ldF (sp x t off : Nat) : IC :=
  .blk [⟨some t, .mv (.tmp sp), none⟩, ⟨some (t + 1), .nilc (.tmp t), none⟩, ⟨some (t + 2), .fad (.tmp (t + 1)) off, none⟩, ⟨some (t + 3), .ld (.tmp (t + 2)), none⟩, ⟨some x, .mv (.tmp (t + 3)), none⟩]
theorem ldF_wp {sp x t off B o : Nat} {σ : Sl} {w : World} {v : Value} {cs : List Value} {Q : Exit → Sl → World → Prop} (hs : σ sp = .pointer (some ⟨B, o, none⟩))
    (hb : Blk w B cs) (hv : cs[o + off]? = some v) (_lx : x < t) (_ls : sp < t)
    (hQ : ∀ σ', (∀ j, j < t → j ≠ x → σ' j = σ j) → σ' x = v → Q .normal σ' w) : wpC P (ldF sp x t off) Q σ w := by
  have hc := hb.cell (o + off)
  simp only [ldF, wpC, wpR, RI.wp, gOk, if_true, RK.run, ev, updo, upd_same, hs]
  simp only [Addr.add_mk, hc, hv]
  refine hQ _ ?_ ?_
  · intro j hj hne
    simp only [upd, hne, show j ≠ t by omega, show j ≠ t + 1 by omega, show j ≠ t + 2 by omega, show j ≠ t + 3 by omega, if_false]
  · simp [upd]
def cpF (y x t : Nat) : IC := .blk [⟨some t, .mv (.tmp y), none⟩, ⟨some x, .mv (.tmp t), none⟩]
theorem cpF_wp {y x t : Nat} {σ : Sl} {w : World} {Q : Exit → Sl → World → Prop} (_lx : x < t)
    (hQ : ∀ σ', (∀ j, j < t → j ≠ x → σ' j = σ j) → σ' x = σ y → Q .normal σ' w) : wpC P (cpF y x t) Q σ w := by
  simp only [cpF, wpC, wpR, RI.wp, gOk, if_true, RK.run, ev, updo]
  refine hQ _ ?_ ?_
  · intro j hj hne
    simp only [upd, hne, show j ≠ t by omega, if_false]
  · simp [upd]
def cF (x : Nat) (v : Value) : IC := .blk [⟨some x, .mv (.const v), none⟩]
theorem cF_wp {x : Nat} {v : Value} {σ : Sl} {w : World} {Q : Exit → Sl → World → Prop} (hQ : Q .normal (upd σ x v) w) : wpC P (cF x v) Q σ w := by
  simpa only [cF, wpC, wpR, RI.wp, gOk, if_true, RK.run, ev, updo] using hQ
def okF (E : RE) (t : Nat) : IC :=
  .seq (.blk [⟨some t, .call E.ok [.tmp E.b], none⟩, ⟨some (t + 1), .lnot (.tmp t), none⟩])
    (.cond (.tmp (t + 1)) (.seq (.blk [⟨some (t + 2), .call E.cpl [.tmp E.b], none⟩, ⟨some E.ret, .mv (.tmp (t + 2)), none⟩]) .ret) .skip)
def OkC (P : Program) (f : FuncId) : Prop := ∀ (S : List Nat) (w : World) (rb : Nat) (s : RS), IsRd S w rb s →
  Calls P f [.pointer (some ⟨rb, 0, none⟩)].toArray w fun e w' => e = .returned (.bool !s.bad) ∧ w' = w
def CplC (P : Program) (f : FuncId) (g : Nat) : Prop := ∀ (S : List Nat) (w : World) (rb : Nat) (s : RS) (T : TypeId) (v : Value), IsRd S w rb s → GErr g w T v →
  Calls P f [.pointer (some ⟨rb, 0, none⟩)].toArray w fun e w' => e = .returned (errVal s.bad T v) ∧ w' = w
theorem okF_wp {g : Nat} {T : TypeId} {ve : Value} {u x : Bool} {ver : Int} {rb n : Nat} {S : List Nat} {s : RS} {t : Nat} {σ : Sl} {w : World} {Q : Exit → Sl → World → Prop}
    (hE : RV.Env E n rb u x ver σ) (hn : n ≤ t) (hr : IsRd S w rb s) (hg : GErr g w T ve) (hok : OkC P E.ok) (hcpl : CplC P E.cpl g)
    (h0 : s.bad = false → ∀ σ', Ag t σ σ' → Q .normal σ' w) (h1 : s.bad = true → ∀ σ', σ' E.ret = .iface T ve → Q .ret σ' w) : wpC P (okF E t) Q σ w := by
  have lb := hE.lb
  simp only [okF, wpC, wpR, RI.wp, gOk, if_true, RK.run, ev, List.map_cons, List.map_nil, hE.hb]
  refine (hok S w rb s hr).mono ?_
  rintro e w1 ⟨rfl, rfl⟩
  refine ⟨_, rfl, ?_⟩
  simp only [updo, upd_same, thenC]
  cases hbad : s.bad with
  | false =>
    simp only [Bool.not_false, Bool.not_true]
    refine h0 hbad _ ?_
    intro j hj
    simp only [upd, show j ≠ t by omega, show j ≠ t + 1 by omega, if_false]
  | true =>
    simp only [Bool.not_false, Bool.not_true]
    simp only [upd, show E.b ≠ t by omega, show E.b ≠ t + 1 by omega, if_false, hE.hb]
    refine (hcpl S w1 rb s T ve hr hg).mono ?_
    rintro e w2 ⟨rfl, rfl⟩
    refine ⟨_, rfl, ?_⟩
    simp only [hbad, errVal, if_true]
    exact h1 hbad _ (by simp [upd])
end
end Go.Msk

namespace Go.Msk
open Go.RowKit
set_option maxRecDepth 100000
def decList (el : RS → Option (GV × RS)) : Nat → RS → Option (List GV × RS)
  | 0, s => some ([], s)
  | n + 1, s => match el s with
    | none => none
    | some (g, s1) => match decList el n s1 with
      | none => none
      | some (l, s2) => some (g :: l, s2)
def loopF (nv nb t : Nat) (elem : List IC) : IC :=
  .seq (cF (nv + 3) (.int .i32 0)) (.block nb (.loop (.seq
    (.seq (.blk [⟨some t, .mv (.tmp (nv + 3)), none⟩, ⟨some (t + 1), .mv (.tmp (nv + 2)), none⟩, ⟨some (t + 2), .bin .lss (.tmp t) (.tmp (t + 1)), none⟩])
      (.cond (.tmp (t + 2)) .skip (.exit nb)))
    (.seq (.block (nb + 1) (seqs elem))
      (.blk [⟨some (t + 3), .mv (.tmp (nv + 3)), none⟩, ⟨some (t + 4), .bin .add (.tmp (t + 3)) (.const (.int .i32 1)), none⟩, ⟨some (nv + 3), .mv (.tmp (t + 4)), none⟩])))))
def ElC (P : Program) (code : List IC) (ret m ic n sz A rb : Nat) (S : List Nat) (z : List Value) (Te : TypeId) (ve : Value) (σ0 : Sl) (w0 : World) (el : RS → Option (GV × RS)) : Prop :=
  ∀ (i : Nat) (σ : Sl) (w : World) (s : RS) (pre post : List Value) (Q : Exit → Sl → World → Prop), i < n → (∀ j, j < m → j ≠ ic → σ j = σ0 j) → σ ic = .int .i32 i →
    Mod [rb, A] w0 w → IsRd (A :: S) w rb s → Blk w A (pre ++ (z ++ post)) → pre.length = i * sz →
    (match el s with
      | some (g, s') => ∀ σ' w' cs, Ag m σ σ' → Mod [rb, A] w w' → IsRd (A :: S) w' rb s' → Rep (rb :: A :: S) w' g cs → cs.length = sz → Blk w' A (pre ++ (cs ++ post)) → Q .normal σ' w'
      | none => ∀ σ' w', Mod [rb, A] w w' → σ' ret = .iface Te ve → Q .ret σ' w') →
    wpL P code Q σ w
section
variable {P : Program}
theorem zrep_succ (n : Nat) (z : List Value) : zrep (n + 1) z = z ++ zrep n z := by simp [zrep, List.replicate_succ]
theorem zrep_length (n : Nat) (z : List Value) : (zrep n z).length = n * z.length := by simp [zrep]
theorem flatten_length {css : List (List Value)} {sz : Nat} (h : ∀ cs ∈ css, cs.length = sz) : css.flatten.length = css.length * sz := by
  induction css with
  | nil => simp
  | cons c css ih =>
    simp only [List.flatten_cons, List.length_append, List.length_cons, ih fun cs hcs => h cs (List.mem_cons_of_mem _ hcs), h c List.mem_cons_self]
    rw [Nat.succ_mul]; omega
theorem wrap_i32 {n : Nat} (h : n ≤ 2147483647) : IntKind.i32.wrap (n : Int) = n := by
  simp [IntKind.wrap, IntKind.bits, IntKind.signed]; omega
theorem loopF_zero {nv nb t : Nat} {elem : List IC} {σ : Sl} {w : World} {l : Int} {Q : Exit → Sl → World → Prop} (hl : σ (nv + 2) = .int .i32 l) (h0 : l ≤ 0) (ht : nv + 4 ≤ t)
    (hQ : ∀ σ', (∀ j, j < nv + 3 → σ' j = σ j) → Q .normal σ' w) : wpC P (loopF nv nb t elem) Q σ w := by
  simp only [loopF, wpC]
  refine cF_wp ?_
  simp only [thenC]
  refine ⟨fun σ' w' => σ' = upd σ (nv + 3) (.int .i32 0) ∧ w' = w, fun _ _ => 0, ⟨rfl, rfl⟩, ?_⟩
  rintro σ1 w1 ⟨rfl, rfl⟩
  have e1 : nv + 2 ≠ t := by omega
  have e2 : nv + 2 ≠ nv + 3 := by omega
  simp only [wpR, RI.wp, gOk, if_true, RK.run, ev, updo]
  simp only [upd, if_true, e1, e2, if_false, hl, show t ≠ t + 1 by omega, isShift, decide_true, Bool.or_true, intBin, thenC]
  have : decide ((0 : Int) < l) = false := by simp; omega
  simp only [this, inBlockC, if_true]
  refine hQ _ fun j hj => ?_
  simp only [upd, show j ≠ t by omega, show j ≠ t + 1 by omega, show j ≠ t + 2 by omega, show j ≠ nv + 3 by omega, if_false]
theorem loopF_wp {nv nb t ret n sz A rb : Nat} {elem : List IC} {S : List Nat} {z rest : List Value} {Te : TypeId} {ve : Value} {σ : Sl} {w : World} {s : RS} {el : RS → Option (GV × RS)}
    {Q : Exit → Sl → World → Prop} (hl : σ (nv + 2) = .int .i32 n) (hn : n ≤ 2147483647) (ht : nv + 4 ≤ t) (_hz : z.length = sz)
    (hb : Blk w A (zrep n z ++ rest)) (hr : IsRd (A :: S) w rb s)
    (hel : ElC P elem ret (nv + 4) (nv + 3) n sz A rb S z Te ve σ w el)
    (hQ : match decList el n s with
      | some (gs, s') => ∀ σ' w' css, Ag (nv + 3) σ σ' → Mod [rb, A] w w' → IsRd (A :: S) w' rb s' → RepL (rb :: A :: S) w' gs css → (∀ cs ∈ css, cs.length = sz) → css.length = n →
          Blk w' A (css.flatten ++ rest) → Q .normal σ' w'
      | none => ∀ σ' w', Mod [rb, A] w w' → σ' ret = .iface Te ve → Q .ret σ' w') : wpC P (loopF nv nb t elem) Q σ w := by
  simp only [loopF, wpC]
  refine cF_wp ?_
  simp only [thenC]
  refine ⟨fun σ1 w1 => ∃ (i : Nat) (gs : List GV) (css : List (List Value)) (s1 : RS), i ≤ n ∧ (∀ j, j < nv + 4 → j ≠ nv + 3 → σ1 j = σ j) ∧ σ1 (nv + 3) = .int .i32 i ∧ Mod [rb, A] w w1 ∧
      IsRd (A :: S) w1 rb s1 ∧ RepL (rb :: A :: S) w1 gs css ∧ css.length = i ∧ (∀ cs ∈ css, cs.length = sz) ∧ Blk w1 A (css.flatten ++ (zrep (n - i) z ++ rest)) ∧
      decList el n s = (decList el (n - i) s1).map fun p => (gs ++ p.1, p.2),
    fun σ1 _ => n - (match σ1 (nv + 3) with | .int _ i => i.toNat | _ => 0), ?_, ?_⟩
  · refine ⟨0, [], [], s, Nat.zero_le _, ?_, by simp [upd], Mod.refl _ _, hr, .nil, rfl, by simp, by simpa using hb, ?_⟩
    · intro j hj hne; simp only [upd, if_neg hne]
    · simp
  rintro σ1 w1 ⟨i, gs, css, s1, hi, hag, hi3, hm1, hr1, hrep, hlen, hsz, hb1, hdec⟩
  have hl1 : σ1 (nv + 2) = .int .i32 n := by rw [hag _ (by omega) (by omega)]; exact hl
  simp only [wpR, RI.wp, gOk, if_true, RK.run, ev, updo]
  simp only [upd, if_true, hi3, show nv + 2 ≠ t by omega, if_false, hl1, show t ≠ t + 1 by omega, isShift, decide_true, Bool.or_true, intBin, thenC]
  have hfr : ∀ j, j < t → (upd (upd (upd σ1 t (.int .i32 i)) (t + 1) (.int .i32 n)) (t + 2) (.bool (decide ((i : Int) < n)))) j = σ1 j := by
    intro j hj
    simp only [upd, show j ≠ t by omega, show j ≠ t + 1 by omega, show j ≠ t + 2 by omega, if_false]
  by_cases hlt : i < n
  · have hd : decide ((i : Int) < n) = true := by simp; omega
    simp only [hd]
    rw [hd] at hfr
    rw [wpC_seqs]
    obtain ⟨k, hk⟩ : ∃ k, n - i = k + 1 := ⟨n - i - 1, by omega⟩
    rw [hk, zrep_succ, List.append_assoc] at hb1
    rw [hk] at hdec
    have hki : n - (i + 1) = k := by omega
    refine hel i _ w1 s1 css.flatten (zrep k z ++ rest) _ hlt (fun j hj hne => ?_) ?_ hm1 hr1 hb1 (by rw [flatten_length hsz, hlen]) ?_
    · exact (hfr j (by omega)).trans (hag j hj hne)
    · exact (hfr _ (by omega)).trans hi3
    simp only [decList] at hdec
    cases he : el s1 with
    | none =>
      simp only [he, Option.map_none] at hdec
      rw [hdec] at hQ
      intro σ' w' hm' hret
      simp only [inBlockC, thenC]
      exact hQ σ' w' (hm1.trans hm') hret
    | some p =>
      obtain ⟨g, s2⟩ := p
      intro σ' w' cs hag' hm' hr' hrep' hcs hb'
      simp only [inBlockC, thenC]
      have h3 : σ' (nv + 3) = .int .i32 i := (hag' _ (by omega)).trans ((hfr _ (by omega)).trans hi3)
      have hw : IntKind.i32.wrap ((i : Int) + 1) = ((i + 1 : Nat) : Int) := by
        have := wrap_i32 (n := i + 1) (by omega)
        rw [← this]; congr 1
      simp only [if_true, h3, decide_true, Bool.or_true, hw]
      refine ⟨⟨i + 1, gs ++ [g], css ++ [cs], s2, by omega, ?_, ?_, hm1.trans hm', hr', ?_, by simp [hlen], ?_, ?_, ?_⟩, ?_⟩
      · intro j hj hne
        simp only [hne, show j ≠ t + 3 by omega, show j ≠ t + 4 by omega, if_false]
        exact (hag' j (by omega)).trans ((hfr j (by omega)).trans (hag j hj hne))
      · rfl
      · exact (RepL.mod hm' (by simp) hrep).append (.cons hrep' .nil)
      · intro c hc
        rcases List.mem_append.1 hc with hc | hc
        · exact hsz c hc
        · simp only [List.mem_singleton] at hc; rw [hc]; exact hcs
      · rw [hki]; simpa using hb'
      · rw [hki, hdec, he]
        cases hq : decList el k s2 with
        | none => simp [hq]
        | some q => obtain ⟨l, s3⟩ := q; simp [hq]
      · simp only [Int.toNat_natCast]
        omega
  · have hd : decide ((i : Int) < n) = false := by simp; omega
    simp only [hd, inBlockC, if_true]
    rw [hd] at hfr
    have hin : i = n := by omega
    subst hin
    simp only [Nat.sub_self, zrep, List.replicate_zero, List.flatten_nil, List.nil_append, decList, Option.map_some, List.append_nil] at hb1 hdec
    rw [hdec] at hQ
    exact hQ _ w1 css (fun j hj => (hfr j (by omega)).trans (hag j (by omega) (by omega))) hm1 hr1 hrep hsz hlen hb1
end
end Go.Msk

namespace Go.Msk
def ir_rBool (_F : Nat → Nat) : IC × List RV × Nat := (.seq (.blk [⟨some 2, .mv (.const (.bool false)), none⟩])
 (.seq (.seq (.blk [⟨some 4, .mv (.tmp 0), none⟩,
 ⟨some 5, .nilc (.tmp 4), none⟩,
 ⟨some 6, .fad (.tmp 5) 0, none⟩,
 ⟨some 7, .ld (.tmp 6), none⟩,
 ⟨some 8, .len (.tmp 7), none⟩,
 ⟨some 9, .bin .lss (.tmp 8) (.const (.int .i64 1)), none⟩])
 (.cond (.tmp 9)
 (.seq (.blk [⟨some 10, .mv (.tmp 0), none⟩,
 ⟨some 11, .nilc (.tmp 10), none⟩,
 ⟨some 12, .fad (.tmp 11) 1, none⟩,
 ⟨none, .st (.tmp 12) 1 (.const (.bool true)), none⟩])
 (.seq (.blk [⟨some 13, .mv (.tmp 0), none⟩,
 ⟨some 14, .nilc (.tmp 13), none⟩,
 ⟨some 15, .fad (.tmp 14) 0, none⟩,
 ⟨none, .st (.tmp 15) 1 (.const (.slice none 0 0)), none⟩])
 (.seq (.blk [⟨some 2, .mv (.const (.bool false)), none⟩])
 (.ret))))
 (.skip)))
 (.seq (.blk [⟨some 16, .mv (.tmp 0), none⟩,
 ⟨some 17, .nilc (.tmp 16), none⟩,
 ⟨some 18, .fad (.tmp 17) 0, none⟩,
 ⟨some 19, .ld (.tmp 18), none⟩,
 ⟨some 20, .iad (.tmp 19) (.const (.int .i64 0)) 1, none⟩,
 ⟨some 21, .ld (.tmp 20), none⟩,
 ⟨some 22, .bin .neq (.tmp 21) (.const (.int .u8 0)), none⟩,
 ⟨some 3, .mv (.tmp 22), none⟩])
 (.seq (.blk [⟨some 23, .mv (.tmp 0), none⟩,
 ⟨some 24, .mv (.tmp 0), none⟩,
 ⟨some 25, .nilc (.tmp 24), none⟩,
 ⟨some 26, .fad (.tmp 25) 0, none⟩,
 ⟨some 27, .ld (.tmp 26), none⟩,
 ⟨some 28, .slice (.tmp 27) (some (.const (.int .i64 1))) none none 1, none⟩,
 ⟨some 29, .nilc (.tmp 23), none⟩,
 ⟨some 30, .fad (.tmp 29) 0, none⟩,
 ⟨none, .st (.tmp 30) 1 (.tmp 28), none⟩])
 (.seq (.blk [⟨some 31, .mv (.tmp 3), none⟩,
 ⟨some 2, .mv (.tmp 31), none⟩])
 (.ret))))),
 [.tmp 2], 32)
def ir_rInt8 (_F : Nat → Nat) : IC × List RV × Nat := (.seq (.blk [⟨some 2, .mv (.const (.int .i8 0)), none⟩])
 (.seq (.seq (.blk [⟨some 4, .mv (.tmp 0), none⟩,
 ⟨some 5, .nilc (.tmp 4), none⟩,
 ⟨some 6, .fad (.tmp 5) 0, none⟩,
 ⟨some 7, .ld (.tmp 6), none⟩,
 ⟨some 8, .len (.tmp 7), none⟩,
 ⟨some 9, .bin .lss (.tmp 8) (.const (.int .i64 1)), none⟩])
 (.cond (.tmp 9)
 (.seq (.blk [⟨some 10, .mv (.tmp 0), none⟩,
 ⟨some 11, .nilc (.tmp 10), none⟩,
 ⟨some 12, .fad (.tmp 11) 1, none⟩,
 ⟨none, .st (.tmp 12) 1 (.const (.bool true)), none⟩])
 (.seq (.blk [⟨some 13, .mv (.tmp 0), none⟩,
 ⟨some 14, .nilc (.tmp 13), none⟩,
 ⟨some 15, .fad (.tmp 14) 0, none⟩,
 ⟨none, .st (.tmp 15) 1 (.const (.slice none 0 0)), none⟩])
 (.seq (.blk [⟨some 2, .mv (.const (.int .i8 0)), none⟩])
 (.ret))))
 (.skip)))
 (.seq (.blk [⟨some 16, .mv (.tmp 0), none⟩,
 ⟨some 17, .nilc (.tmp 16), none⟩,
 ⟨some 18, .fad (.tmp 17) 0, none⟩,
 ⟨some 19, .ld (.tmp 18), none⟩,
 ⟨some 20, .iad (.tmp 19) (.const (.int .i64 0)) 1, none⟩,
 ⟨some 21, .ld (.tmp 20), none⟩,
 ⟨some 3, .mv (.tmp 21), none⟩])
 (.seq (.blk [⟨some 22, .mv (.tmp 0), none⟩,
 ⟨some 23, .mv (.tmp 0), none⟩,
 ⟨some 24, .nilc (.tmp 23), none⟩,
 ⟨some 25, .fad (.tmp 24) 0, none⟩,
 ⟨some 26, .ld (.tmp 25), none⟩,
 ⟨some 27, .slice (.tmp 26) (some (.const (.int .i64 1))) none none 1, none⟩,
 ⟨some 28, .nilc (.tmp 22), none⟩,
 ⟨some 29, .fad (.tmp 28) 0, none⟩,
 ⟨none, .st (.tmp 29) 1 (.tmp 27), none⟩])
 (.seq (.blk [⟨some 30, .mv (.tmp 3), none⟩,
 ⟨some 31, .conv .i8 (.tmp 30), none⟩,
 ⟨some 2, .mv (.tmp 31), none⟩])
 (.ret))))),
 [.tmp 2], 32)
def ir_rUint16 (F : Nat → Nat) : IC × List RV × Nat := (.seq (.blk [⟨some 2, .mv (.const (.int .u16 0)), none⟩])
 (.seq (.seq (.blk [⟨some 4, .mv (.tmp 0), none⟩,
 ⟨some 5, .nilc (.tmp 4), none⟩,
 ⟨some 6, .fad (.tmp 5) 0, none⟩,
 ⟨some 7, .ld (.tmp 6), none⟩,
 ⟨some 8, .len (.tmp 7), none⟩,
 ⟨some 9, .bin .lss (.tmp 8) (.const (.int .i64 2)), none⟩])
 (.cond (.tmp 9)
 (.seq (.blk [⟨some 10, .mv (.tmp 0), none⟩,
 ⟨some 11, .nilc (.tmp 10), none⟩,
 ⟨some 12, .fad (.tmp 11) 1, none⟩,
 ⟨none, .st (.tmp 12) 1 (.const (.bool true)), none⟩])
 (.seq (.blk [⟨some 13, .mv (.tmp 0), none⟩,
 ⟨some 14, .nilc (.tmp 13), none⟩,
 ⟨some 15, .fad (.tmp 14) 0, none⟩,
 ⟨none, .st (.tmp 15) 1 (.const (.slice none 0 0)), none⟩])
 (.seq (.blk [⟨some 2, .mv (.const (.int .u16 0)), none⟩])
 (.ret))))
 (.skip)))
 (.seq (.drw [⟨⟨some 16, .ldn (.global (F gBig)) 0, none⟩, false, []⟩,
 ⟨⟨some 17, .mv (.tmp 0), none⟩, false, []⟩,
 ⟨⟨some 18, .nilc (.tmp 17), none⟩, false, []⟩,
 ⟨⟨some 19, .fad (.tmp 18) 0, none⟩, false, []⟩,
 ⟨⟨some 20, .ld (.tmp 19), none⟩, false, []⟩,
 ⟨⟨some 21, .call (F beUint16) [.tmp 16, .tmp 20], none⟩, true, []⟩,
 ⟨⟨some 3, .mv (.tmp 21), none⟩, false, [5]⟩]
 [])
 (.seq (.blk [⟨some 22, .mv (.tmp 0), none⟩,
 ⟨some 23, .mv (.tmp 0), none⟩,
 ⟨some 24, .nilc (.tmp 23), none⟩,
 ⟨some 25, .fad (.tmp 24) 0, none⟩,
 ⟨some 26, .ld (.tmp 25), none⟩,
 ⟨some 27, .slice (.tmp 26) (some (.const (.int .i64 2))) none none 1, none⟩,
 ⟨some 28, .nilc (.tmp 22), none⟩,
 ⟨some 29, .fad (.tmp 28) 0, none⟩,
 ⟨none, .st (.tmp 29) 1 (.tmp 27), none⟩])
 (.seq (.blk [⟨some 30, .mv (.tmp 3), none⟩,
 ⟨some 2, .mv (.tmp 30), none⟩])
 (.ret))))),
 [.tmp 2], 31)
def ir_rInt64 (F : Nat → Nat) : IC × List RV × Nat := (.seq (.blk [⟨some 2, .mv (.const (.int .i64 0)), none⟩])
 (.seq (.blk [⟨some 3, .mv (.tmp 0), none⟩,
 ⟨some 4, .call (F rReadUint64) [.tmp 3], none⟩,
 ⟨some 5, .conv .i64 (.tmp 4), none⟩,
 ⟨some 2, .mv (.tmp 5), none⟩])
 (.ret)),
 [.tmp 2], 6)
def ir_rReadUint64 (F : Nat → Nat) : IC × List RV × Nat := (.seq (.blk [⟨some 2, .mv (.const (.int .u64 0)), none⟩])
 (.seq (.seq (.blk [⟨some 4, .mv (.tmp 0), none⟩,
 ⟨some 5, .nilc (.tmp 4), none⟩,
 ⟨some 6, .fad (.tmp 5) 0, none⟩,
 ⟨some 7, .ld (.tmp 6), none⟩,
 ⟨some 8, .len (.tmp 7), none⟩,
 ⟨some 9, .bin .lss (.tmp 8) (.const (.int .i64 8)), none⟩])
 (.cond (.tmp 9)
 (.seq (.blk [⟨some 10, .mv (.tmp 0), none⟩,
 ⟨some 11, .nilc (.tmp 10), none⟩,
 ⟨some 12, .fad (.tmp 11) 1, none⟩,
 ⟨none, .st (.tmp 12) 1 (.const (.bool true)), none⟩])
 (.seq (.blk [⟨some 13, .mv (.tmp 0), none⟩,
 ⟨some 14, .nilc (.tmp 13), none⟩,
 ⟨some 15, .fad (.tmp 14) 0, none⟩,
 ⟨none, .st (.tmp 15) 1 (.const (.slice none 0 0)), none⟩])
 (.seq (.blk [⟨some 2, .mv (.const (.int .u64 0)), none⟩])
 (.ret))))
 (.skip)))
 (.seq (.drw [⟨⟨some 16, .ldn (.global (F gBig)) 0, none⟩, false, []⟩,
 ⟨⟨some 17, .mv (.tmp 0), none⟩, false, []⟩,
 ⟨⟨some 18, .nilc (.tmp 17), none⟩, false, []⟩,
 ⟨⟨some 19, .fad (.tmp 18) 0, none⟩, false, []⟩,
 ⟨⟨some 20, .ld (.tmp 19), none⟩, false, []⟩,
 ⟨⟨some 21, .call (F beUint64) [.tmp 16, .tmp 20], none⟩, true, []⟩,
 ⟨⟨some 3, .mv (.tmp 21), none⟩, false, [5]⟩]
 [])
 (.seq (.blk [⟨some 22, .mv (.tmp 0), none⟩,
 ⟨some 23, .mv (.tmp 0), none⟩,
 ⟨some 24, .nilc (.tmp 23), none⟩,
 ⟨some 25, .fad (.tmp 24) 0, none⟩,
 ⟨some 26, .ld (.tmp 25), none⟩,
 ⟨some 27, .slice (.tmp 26) (some (.const (.int .i64 8))) none none 1, none⟩,
 ⟨some 28, .nilc (.tmp 22), none⟩,
 ⟨some 29, .fad (.tmp 28) 0, none⟩,
 ⟨none, .st (.tmp 29) 1 (.tmp 27), none⟩])
 (.seq (.blk [⟨some 30, .mv (.tmp 3), none⟩,
 ⟨some 2, .mv (.tmp 30), none⟩])
 (.ret))))),
 [.tmp 2], 31)
def ir_beUint64 (_F : Nat → Nat) : IC × List RV × Nat := (.seq (.blk [⟨some 2, .box (.tmp 0), none⟩,
 ⟨some 4, .mv (.const (.int .u64 0)), none⟩])
 (.seq (.blk [⟨some 5, .mv (.tmp 1), none⟩,
 ⟨some 6, .iad (.tmp 5) (.const (.int .i64 7)) 1, none⟩,
 ⟨some 7, .ld (.tmp 6), none⟩])
 (.seq (.drw [⟨⟨some 8, .mv (.tmp 1), none⟩, false, []⟩,
 ⟨⟨some 9, .iad (.tmp 8) (.const (.int .i64 7)) 1, none⟩, false, []⟩,
 ⟨⟨some 10, .ld (.tmp 9), none⟩, false, []⟩,
 ⟨⟨some 11, .conv .u64 (.tmp 10), none⟩, false, []⟩,
 ⟨⟨some 12, .mv (.tmp 1), none⟩, false, []⟩,
 ⟨⟨some 13, .iad (.tmp 12) (.const (.int .i64 6)) 1, none⟩, false, []⟩,
 ⟨⟨some 14, .ld (.tmp 13), none⟩, false, []⟩,
 ⟨⟨some 15, .conv .u64 (.tmp 14), none⟩, false, []⟩,
 ⟨⟨some 16, .bin .shl (.tmp 15) (.const (.int .u64 8)), none⟩, false, []⟩,
 ⟨⟨some 17, .bin .or (.tmp 11) (.tmp 16), none⟩, false, []⟩,
 ⟨⟨some 18, .mv (.tmp 1), none⟩, false, []⟩,
 ⟨⟨some 19, .iad (.tmp 18) (.const (.int .i64 5)) 1, none⟩, false, []⟩,
 ⟨⟨some 20, .ld (.tmp 19), none⟩, false, []⟩,
 ⟨⟨some 21, .conv .u64 (.tmp 20), none⟩, false, []⟩,
 ⟨⟨some 22, .bin .shl (.tmp 21) (.const (.int .u64 16)), none⟩, false, []⟩,
 ⟨⟨some 23, .bin .or (.tmp 17) (.tmp 22), none⟩, false, []⟩,
 ⟨⟨some 24, .mv (.tmp 1), none⟩, false, []⟩,
 ⟨⟨some 25, .iad (.tmp 24) (.const (.int .i64 4)) 1, none⟩, false, []⟩,
 ⟨⟨some 26, .ld (.tmp 25), none⟩, false, []⟩,
 ⟨⟨some 27, .conv .u64 (.tmp 26), none⟩, false, []⟩,
 ⟨⟨some 28, .bin .shl (.tmp 27) (.const (.int .u64 24)), none⟩, false, []⟩,
 ⟨⟨some 29, .bin .or (.tmp 23) (.tmp 28), none⟩, false, []⟩,
 ⟨⟨some 30, .mv (.tmp 1), none⟩, false, []⟩,
 ⟨⟨some 31, .iad (.tmp 30) (.const (.int .i64 3)) 1, none⟩, false, []⟩,
 ⟨⟨some 32, .ld (.tmp 31), none⟩, false, []⟩,
 ⟨⟨some 33, .conv .u64 (.tmp 32), none⟩, false, []⟩,
 ⟨⟨some 34, .bin .shl (.tmp 33) (.const (.int .u64 32)), none⟩, false, []⟩,
 ⟨⟨some 35, .bin .or (.tmp 29) (.tmp 34), none⟩, false, []⟩,
 ⟨⟨some 36, .mv (.tmp 1), none⟩, false, []⟩,
 ⟨⟨some 37, .iad (.tmp 36) (.const (.int .i64 2)) 1, none⟩, false, []⟩,
 ⟨⟨some 38, .ld (.tmp 37), none⟩, false, []⟩,
 ⟨⟨some 39, .conv .u64 (.tmp 38), none⟩, false, []⟩,
 ⟨⟨some 40, .bin .shl (.tmp 39) (.const (.int .u64 40)), none⟩, false, []⟩,
 ⟨⟨some 41, .bin .or (.tmp 35) (.tmp 40), none⟩, false, []⟩,
 ⟨⟨some 42, .mv (.tmp 1), none⟩, false, []⟩,
 ⟨⟨some 43, .iad (.tmp 42) (.const (.int .i64 1)) 1, none⟩, false, []⟩,
 ⟨⟨some 44, .ld (.tmp 43), none⟩, false, []⟩,
 ⟨⟨some 45, .conv .u64 (.tmp 44), none⟩, false, []⟩,
 ⟨⟨some 46, .bin .shl (.tmp 45) (.const (.int .u64 48)), none⟩, false, []⟩,
 ⟨⟨some 47, .bin .or (.tmp 41) (.tmp 46), none⟩, false, []⟩,
 ⟨⟨some 48, .mv (.tmp 1), none⟩, false, []⟩,
 ⟨⟨some 49, .iad (.tmp 48) (.const (.int .i64 0)) 1, none⟩, false, []⟩,
 ⟨⟨some 50, .ld (.tmp 49), none⟩, false, []⟩,
 ⟨⟨some 51, .conv .u64 (.tmp 50), none⟩, false, []⟩,
 ⟨⟨some 52, .bin .shl (.tmp 51) (.const (.int .u64 56)), none⟩, false, []⟩,
 ⟨⟨some 53, .bin .or (.tmp 47) (.tmp 52), none⟩, false, []⟩,
 ⟨⟨some 4, .mv (.tmp 53), none⟩, false, []⟩]
 [])
 (.ret))),
 [.tmp 4], 54)
def ir_rUuid (F : Nat → Nat) : IC × List RV × Nat := (.seq (.blk [⟨some 2, .alloc [.int .u8 0, .int .u8 0, .int .u8 0, .int .u8 0, .int .u8 0, .int .u8 0, .int .u8 0, .int .u8 0, .int .u8 0, .int .u8 0, .int .u8 0, .int .u8 0, .int .u8 0, .int .u8 0, .int .u8 0, .int .u8 0], none⟩])
 (.seq (.blk [⟨some 3, .alloc [.int .u8 0, .int .u8 0, .int .u8 0, .int .u8 0, .int .u8 0, .int .u8 0, .int .u8 0, .int .u8 0, .int .u8 0, .int .u8 0, .int .u8 0, .int .u8 0, .int .u8 0, .int .u8 0, .int .u8 0, .int .u8 0], none⟩])
 (.seq (.drw [⟨⟨some 4, .slicea (.tmp 3) 16, none⟩, false, []⟩,
 ⟨⟨some 5, .mv (.tmp 0), none⟩, false, []⟩,
 ⟨⟨some 6, .call (F rSpan) [.tmp 5, .const (.int .i64 16)], none⟩, true, []⟩]
 [⟨some 7, .copy (.tmp 4) (.tmp 6) 1, none⟩])
 (.seq (.blk [⟨some 8, .ldn (.tmp 3) 16, none⟩,
 ⟨none, .st (.tmp 2) 16 (.tmp 8), none⟩])
 (.ret)))),
 [.cells 2 16], 9)
def ir_rUvarint (F : Nat → Nat) : IC × List RV × Nat := (.seq (.blk [⟨some 2, .mv (.const (.int .u32 0)), none⟩])
 (.seq (.blk [⟨some 6, .mv (.tmp 0), none⟩,
 ⟨some 7, .nilc (.tmp 6), none⟩,
 ⟨some 8, .fad (.tmp 7) 0, none⟩,
 ⟨some 9, .ld (.tmp 8), none⟩,
 ⟨some 10, .call (F kUvarint) [.tmp 9], none⟩,
 ⟨some 5, .mv (.tmp 10), none⟩,
 ⟨some 11, .ext (.tmp 5) 0, none⟩,
 ⟨some 12, .ext (.tmp 5) 1, none⟩,
 ⟨some 3, .mv (.tmp 11), none⟩,
 ⟨some 4, .mv (.tmp 12), none⟩])
 (.seq (.seq (.blk [⟨some 13, .mv (.tmp 4), none⟩,
 ⟨some 14, .bin .leq (.tmp 13) (.const (.int .i64 0)), none⟩])
 (.cond (.tmp 14)
 (.seq (.blk [⟨some 15, .mv (.tmp 0), none⟩,
 ⟨some 16, .nilc (.tmp 15), none⟩,
 ⟨some 17, .fad (.tmp 16) 1, none⟩,
 ⟨none, .st (.tmp 17) 1 (.const (.bool true)), none⟩])
 (.seq (.blk [⟨some 18, .mv (.tmp 0), none⟩,
 ⟨some 19, .nilc (.tmp 18), none⟩,
 ⟨some 20, .fad (.tmp 19) 0, none⟩,
 ⟨none, .st (.tmp 20) 1 (.const (.slice none 0 0)), none⟩])
 (.seq (.blk [⟨some 2, .mv (.const (.int .u32 0)), none⟩])
 (.ret))))
 (.skip)))
 (.seq (.blk [⟨some 21, .mv (.tmp 0), none⟩,
 ⟨some 22, .mv (.tmp 0), none⟩,
 ⟨some 23, .nilc (.tmp 22), none⟩,
 ⟨some 24, .fad (.tmp 23) 0, none⟩,
 ⟨some 25, .ld (.tmp 24), none⟩,
 ⟨some 26, .mv (.tmp 4), none⟩,
 ⟨some 27, .slice (.tmp 25) (some (.tmp 26)) none none 1, none⟩,
 ⟨some 28, .nilc (.tmp 21), none⟩,
 ⟨some 29, .fad (.tmp 28) 0, none⟩,
 ⟨none, .st (.tmp 29) 1 (.tmp 27), none⟩])
 (.seq (.blk [⟨some 30, .mv (.tmp 3), none⟩,
 ⟨some 2, .mv (.tmp 30), none⟩])
 (.ret))))),
 [.tmp 2], 31)
def ir_kUvarint (_F : Nat → Nat) : IC × List RV × Nat := (.seq (.blk [⟨some 2, .mv (.const (.int .u32 0)), none⟩,
 ⟨some 3, .mv (.const (.int .i64 0)), none⟩])
 (.scopeTo (.seq (.blk [⟨some 4, .mv (.const (.int .u32 0)), none⟩])
 (.seq (.blk [⟨some 5, .mv (.const (.int .i64 0)), none⟩])
 (.seq (.seq (.blk [⟨some 6, .mv (.tmp 0), none⟩,
 ⟨some 7, .len (.tmp 6), none⟩,
 ⟨some 8, .bin .lss (.tmp 7) (.const (.int .i64 1)), none⟩])
 (.cond (.tmp 8)
 (.goto 0)
 (.skip)))
 (.seq (.blk [⟨some 9, .mv (.tmp 0), none⟩,
 ⟨some 10, .iad (.tmp 9) (.const (.int .i64 0)) 1, none⟩,
 ⟨some 11, .ld (.tmp 10), none⟩,
 ⟨some 12, .bin .and (.tmp 11) (.const (.int .u8 127)), none⟩,
 ⟨some 13, .conv .u32 (.tmp 12), none⟩,
 ⟨some 4, .mv (.tmp 13), none⟩])
 (.seq (.seq (.blk [⟨some 14, .mv (.tmp 0), none⟩,
 ⟨some 15, .iad (.tmp 14) (.const (.int .i64 0)) 1, none⟩,
 ⟨some 16, .ld (.tmp 15), none⟩,
 ⟨some 17, .bin .and (.tmp 16) (.const (.int .u8 128)), none⟩,
 ⟨some 18, .bin .eql (.tmp 17) (.const (.int .u8 0)), none⟩])
 (.cond (.tmp 18)
 (.seq (.blk [⟨some 19, .mv (.tmp 4), none⟩,
 ⟨some 2, .mv (.tmp 19), none⟩,
 ⟨some 3, .mv (.const (.int .i64 1)), none⟩])
 (.ret))
 (.seq (.blk [⟨some 20, .mv (.tmp 0), none⟩,
 ⟨some 21, .len (.tmp 20), none⟩,
 ⟨some 22, .bin .lss (.tmp 21) (.const (.int .i64 2)), none⟩])
 (.cond (.tmp 22)
 (.goto 0)
 (.skip)))))
 (.seq (.blk [⟨some 23, .mv (.tmp 4), none⟩,
 ⟨some 24, .mv (.tmp 0), none⟩,
 ⟨some 25, .iad (.tmp 24) (.const (.int .i64 1)) 1, none⟩,
 ⟨some 26, .ld (.tmp 25), none⟩,
 ⟨some 27, .bin .and (.tmp 26) (.const (.int .u8 127)), none⟩,
 ⟨some 28, .conv .u32 (.tmp 27), none⟩,
 ⟨some 29, .bin .shl (.tmp 28) (.const (.int .u64 7)), none⟩,
 ⟨some 30, .bin .or (.tmp 23) (.tmp 29), none⟩,
 ⟨some 4, .mv (.tmp 30), none⟩])
 (.seq (.seq (.blk [⟨some 31, .mv (.tmp 0), none⟩,
 ⟨some 32, .iad (.tmp 31) (.const (.int .i64 1)) 1, none⟩,
 ⟨some 33, .ld (.tmp 32), none⟩,
 ⟨some 34, .bin .and (.tmp 33) (.const (.int .u8 128)), none⟩,
 ⟨some 35, .bin .eql (.tmp 34) (.const (.int .u8 0)), none⟩])
 (.cond (.tmp 35)
 (.seq (.blk [⟨some 36, .mv (.tmp 4), none⟩,
 ⟨some 2, .mv (.tmp 36), none⟩,
 ⟨some 3, .mv (.const (.int .i64 2)), none⟩])
 (.ret))
 (.seq (.blk [⟨some 37, .mv (.tmp 0), none⟩,
 ⟨some 38, .len (.tmp 37), none⟩,
 ⟨some 39, .bin .lss (.tmp 38) (.const (.int .i64 3)), none⟩])
 (.cond (.tmp 39)
 (.goto 0)
 (.skip)))))
 (.seq (.blk [⟨some 40, .mv (.tmp 4), none⟩,
 ⟨some 41, .mv (.tmp 0), none⟩,
 ⟨some 42, .iad (.tmp 41) (.const (.int .i64 2)) 1, none⟩,
 ⟨some 43, .ld (.tmp 42), none⟩,
 ⟨some 44, .bin .and (.tmp 43) (.const (.int .u8 127)), none⟩,
 ⟨some 45, .conv .u32 (.tmp 44), none⟩,
 ⟨some 46, .bin .shl (.tmp 45) (.const (.int .u64 14)), none⟩,
 ⟨some 47, .bin .or (.tmp 40) (.tmp 46), none⟩,
 ⟨some 4, .mv (.tmp 47), none⟩])
 (.seq (.seq (.blk [⟨some 48, .mv (.tmp 0), none⟩,
 ⟨some 49, .iad (.tmp 48) (.const (.int .i64 2)) 1, none⟩,
 ⟨some 50, .ld (.tmp 49), none⟩,
 ⟨some 51, .bin .and (.tmp 50) (.const (.int .u8 128)), none⟩,
 ⟨some 52, .bin .eql (.tmp 51) (.const (.int .u8 0)), none⟩])
 (.cond (.tmp 52)
 (.seq (.blk [⟨some 53, .mv (.tmp 4), none⟩,
 ⟨some 2, .mv (.tmp 53), none⟩,
 ⟨some 3, .mv (.const (.int .i64 3)), none⟩])
 (.ret))
 (.seq (.blk [⟨some 54, .mv (.tmp 0), none⟩,
 ⟨some 55, .len (.tmp 54), none⟩,
 ⟨some 56, .bin .lss (.tmp 55) (.const (.int .i64 4)), none⟩])
 (.cond (.tmp 56)
 (.goto 0)
 (.skip)))))
 (.seq (.blk [⟨some 57, .mv (.tmp 4), none⟩,
 ⟨some 58, .mv (.tmp 0), none⟩,
 ⟨some 59, .iad (.tmp 58) (.const (.int .i64 3)) 1, none⟩,
 ⟨some 60, .ld (.tmp 59), none⟩,
 ⟨some 61, .bin .and (.tmp 60) (.const (.int .u8 127)), none⟩,
 ⟨some 62, .conv .u32 (.tmp 61), none⟩,
 ⟨some 63, .bin .shl (.tmp 62) (.const (.int .u64 21)), none⟩,
 ⟨some 64, .bin .or (.tmp 57) (.tmp 63), none⟩,
 ⟨some 4, .mv (.tmp 64), none⟩])
 (.seq (.seq (.blk [⟨some 65, .mv (.tmp 0), none⟩,
 ⟨some 66, .iad (.tmp 65) (.const (.int .i64 3)) 1, none⟩,
 ⟨some 67, .ld (.tmp 66), none⟩,
 ⟨some 68, .bin .and (.tmp 67) (.const (.int .u8 128)), none⟩,
 ⟨some 69, .bin .eql (.tmp 68) (.const (.int .u8 0)), none⟩])
 (.cond (.tmp 69)
 (.seq (.blk [⟨some 70, .mv (.tmp 4), none⟩,
 ⟨some 2, .mv (.tmp 70), none⟩,
 ⟨some 3, .mv (.const (.int .i64 4)), none⟩])
 (.ret))
 (.seq (.blk [⟨some 71, .mv (.tmp 0), none⟩,
 ⟨some 72, .len (.tmp 71), none⟩,
 ⟨some 73, .bin .lss (.tmp 72) (.const (.int .i64 5)), none⟩])
 (.cond (.tmp 73)
 (.goto 0)
 (.skip)))))
 (.seq (.blk [⟨some 74, .mv (.tmp 4), none⟩,
 ⟨some 75, .mv (.tmp 0), none⟩,
 ⟨some 76, .iad (.tmp 75) (.const (.int .i64 4)) 1, none⟩,
 ⟨some 77, .ld (.tmp 76), none⟩,
 ⟨some 78, .conv .u32 (.tmp 77), none⟩,
 ⟨some 79, .bin .shl (.tmp 78) (.const (.int .u64 28)), none⟩,
 ⟨some 80, .bin .or (.tmp 74) (.tmp 79), none⟩,
 ⟨some 4, .mv (.tmp 80), none⟩])
 (.seq (.seq (.blk [⟨some 81, .mv (.tmp 0), none⟩,
 ⟨some 82, .iad (.tmp 81) (.const (.int .i64 4)) 1, none⟩,
 ⟨some 83, .ld (.tmp 82), none⟩,
 ⟨some 84, .bin .leq (.tmp 83) (.const (.int .u8 15)), none⟩])
 (.cond (.tmp 84)
 (.seq (.blk [⟨some 85, .mv (.tmp 4), none⟩,
 ⟨some 2, .mv (.tmp 85), none⟩,
 ⟨some 3, .mv (.const (.int .i64 5)), none⟩])
 (.ret))
 (.skip)))
 (.seq (.blk [⟨some 5, .mv (.const (.int .i64 (-5))), none⟩])
 (.seq (.skip)
 (.seq (.blk [⟨some 86, .mv (.tmp 5), none⟩,
 ⟨some 2, .mv (.const (.int .u32 0)), none⟩,
 ⟨some 3, .mv (.tmp 86), none⟩])
 (.ret))))))))))))))))) 0
 (.seq (.skip)
 (.seq (.blk [⟨some 86, .mv (.tmp 5), none⟩,
 ⟨some 2, .mv (.const (.int .u32 0)), none⟩,
 ⟨some 3, .mv (.tmp 86), none⟩])
 (.ret)))),
 [.tmp 2, .tmp 3], 87)
def ir_rCompactString (F : Nat → Nat) : IC × List RV × Nat := (.seq (.blk [⟨some 2, .mv (.const (.string .empty)), none⟩])
 (.seq (.blk [⟨some 4, .mv (.tmp 0), none⟩,
 ⟨some 5, .call (F rUvarint) [.tmp 4], none⟩,
 ⟨some 6, .conv .i64 (.tmp 5), none⟩,
 ⟨some 7, .bin .sub (.tmp 6) (.const (.int .i64 1)), none⟩,
 ⟨some 3, .mv (.tmp 7), none⟩])
 (.seq (.blk [⟨some 8, .mv (.tmp 0), none⟩,
 ⟨some 9, .mv (.tmp 3), none⟩,
 ⟨some 10, .call (F rSpan) [.tmp 8, .tmp 9], none⟩,
 ⟨some 11, .b2s (.tmp 10), none⟩,
 ⟨some 2, .mv (.tmp 11), none⟩])
 (.ret))),
 [.tmp 2], 12)
def ir_rUnsafeCompactString (F : Nat → Nat) : IC × List RV × Nat := (.seq (.blk [⟨some 2, .mv (.const (.string .empty)), none⟩])
 (.seq (.blk [⟨some 4, .mv (.tmp 0), none⟩,
 ⟨some 5, .call (F rUvarint) [.tmp 4], none⟩,
 ⟨some 6, .conv .i64 (.tmp 5), none⟩,
 ⟨some 7, .bin .sub (.tmp 6) (.const (.int .i64 1)), none⟩,
 ⟨some 3, .mv (.tmp 7), none⟩])
 (.seq (.blk [⟨some 8, .mv (.tmp 0), none⟩,
 ⟨some 9, .mv (.tmp 3), none⟩,
 ⟨some 10, .call (F rSpan) [.tmp 8, .tmp 9], none⟩,
 ⟨some 11, .call (F kUnsafeString) [.tmp 10], none⟩,
 ⟨some 2, .mv (.tmp 11), none⟩])
 (.ret))),
 [.tmp 2], 12)
def ir_rCompactNullableString (F : Nat → Nat) : IC × List RV × Nat := (.seq (.blk [⟨some 2, .mv (.const (.pointer none)), none⟩])
 (.seq (.blk [⟨some 5, .mv (.tmp 0), none⟩,
 ⟨some 6, .call (F rUvarint) [.tmp 5], none⟩,
 ⟨some 7, .conv .i64 (.tmp 6), none⟩,
 ⟨some 8, .bin .sub (.tmp 7) (.const (.int .i64 1)), none⟩,
 ⟨some 3, .mv (.tmp 8), none⟩])
 (.seq (.seq (.blk [⟨some 9, .mv (.tmp 3), none⟩,
 ⟨some 10, .bin .lss (.tmp 9) (.const (.int .i64 0)), none⟩])
 (.cond (.tmp 10)
 (.seq (.blk [⟨some 2, .mv (.const (.pointer none)), none⟩])
 (.ret))
 (.skip)))
 (.seq (.blk [⟨some 11, .mv (.tmp 0), none⟩,
 ⟨some 12, .mv (.tmp 3), none⟩,
 ⟨some 13, .call (F rSpan) [.tmp 11, .tmp 12], none⟩,
 ⟨some 14, .b2s (.tmp 13), none⟩,
 ⟨some 4, .alloc [.string .empty], none⟩,
 ⟨none, .st (.tmp 4) 1 (.tmp 14), none⟩])
 (.seq (.blk [⟨some 2, .mv (.tmp 4), none⟩])
 (.ret))))),
 [.tmp 2], 15)
def ir_rUnsafeCompactNullableString (F : Nat → Nat) : IC × List RV × Nat := (.seq (.blk [⟨some 2, .mv (.const (.pointer none)), none⟩])
 (.seq (.blk [⟨some 5, .mv (.tmp 0), none⟩,
 ⟨some 6, .call (F rUvarint) [.tmp 5], none⟩,
 ⟨some 7, .conv .i64 (.tmp 6), none⟩,
 ⟨some 8, .bin .sub (.tmp 7) (.const (.int .i64 1)), none⟩,
 ⟨some 3, .mv (.tmp 8), none⟩])
 (.seq (.seq (.blk [⟨some 9, .mv (.tmp 3), none⟩,
 ⟨some 10, .bin .lss (.tmp 9) (.const (.int .i64 0)), none⟩])
 (.cond (.tmp 10)
 (.seq (.blk [⟨some 2, .mv (.const (.pointer none)), none⟩])
 (.ret))
 (.skip)))
 (.seq (.blk [⟨some 11, .mv (.tmp 0), none⟩,
 ⟨some 12, .mv (.tmp 3), none⟩,
 ⟨some 13, .call (F rSpan) [.tmp 11, .tmp 12], none⟩,
 ⟨some 14, .call (F kUnsafeString) [.tmp 13], none⟩,
 ⟨some 4, .alloc [.string .empty], none⟩,
 ⟨none, .st (.tmp 4) 1 (.tmp 14), none⟩])
 (.seq (.blk [⟨some 2, .mv (.tmp 4), none⟩])
 (.ret))))),
 [.tmp 2], 15)
def ir_rBytes (F : Nat → Nat) : IC × List RV × Nat := (.seq (.blk [⟨some 2, .mv (.const (.slice none 0 0)), none⟩])
 (.seq (.blk [⟨some 4, .mv (.tmp 0), none⟩,
 ⟨some 5, .call (F rInt32) [.tmp 4], none⟩,
 ⟨some 3, .mv (.tmp 5), none⟩])
 (.seq (.seq (.blk [⟨some 6, .mv (.tmp 3), none⟩,
 ⟨some 7, .bin .eql (.tmp 6) (.const (.int .i32 (-1))), none⟩])
 (.cond (.tmp 7)
 (.seq (.blk [⟨some 8, .bslice 0 [.int .u8 0] [], none⟩,
 ⟨some 2, .mv (.tmp 8), none⟩])
 (.ret))
 (.skip)))
 (.seq (.blk [⟨some 9, .mv (.tmp 0), none⟩,
 ⟨some 10, .mv (.tmp 3), none⟩,
 ⟨some 11, .conv .i64 (.tmp 10), none⟩,
 ⟨some 12, .call (F rSpan) [.tmp 9, .tmp 11], none⟩,
 ⟨some 2, .mv (.tmp 12), none⟩])
 (.ret)))),
 [.tmp 2], 13)
def ir_rCompactBytes (F : Nat → Nat) : IC × List RV × Nat := (.seq (.blk [⟨some 2, .mv (.const (.slice none 0 0)), none⟩])
 (.seq (.blk [⟨some 4, .mv (.tmp 0), none⟩,
 ⟨some 5, .call (F rUvarint) [.tmp 4], none⟩,
 ⟨some 6, .conv .i64 (.tmp 5), none⟩,
 ⟨some 7, .bin .sub (.tmp 6) (.const (.int .i64 1)), none⟩,
 ⟨some 3, .mv (.tmp 7), none⟩])
 (.seq (.seq (.blk [⟨some 8, .mv (.tmp 3), none⟩,
 ⟨some 9, .bin .eql (.tmp 8) (.const (.int .i64 (-1))), none⟩])
 (.cond (.tmp 9)
 (.seq (.blk [⟨some 10, .bslice 0 [.int .u8 0] [], none⟩,
 ⟨some 2, .mv (.tmp 10), none⟩])
 (.ret))
 (.skip)))
 (.seq (.blk [⟨some 11, .mv (.tmp 0), none⟩,
 ⟨some 12, .mv (.tmp 3), none⟩,
 ⟨some 13, .call (F rSpan) [.tmp 11, .tmp 12], none⟩,
 ⟨some 2, .mv (.tmp 13), none⟩])
 (.ret)))),
 [.tmp 2], 14)
def ir_rCompactNullableBytes (F : Nat → Nat) : IC × List RV × Nat := (.seq (.blk [⟨some 2, .mv (.const (.slice none 0 0)), none⟩])
 (.seq (.blk [⟨some 5, .mv (.tmp 0), none⟩,
 ⟨some 6, .call (F rUvarint) [.tmp 5], none⟩,
 ⟨some 7, .conv .i64 (.tmp 6), none⟩,
 ⟨some 8, .bin .sub (.tmp 7) (.const (.int .i64 1)), none⟩,
 ⟨some 3, .mv (.tmp 8), none⟩])
 (.seq (.seq (.blk [⟨some 9, .mv (.tmp 3), none⟩,
 ⟨some 10, .bin .lss (.tmp 9) (.const (.int .i64 0)), none⟩])
 (.cond (.tmp 10)
 (.seq (.blk [⟨some 2, .mv (.const (.slice none 0 0)), none⟩])
 (.ret))
 (.skip)))
 (.seq (.blk [⟨some 11, .mv (.tmp 0), none⟩,
 ⟨some 12, .mv (.tmp 3), none⟩,
 ⟨some 13, .call (F rSpan) [.tmp 11, .tmp 12], none⟩,
 ⟨some 4, .mv (.tmp 13), none⟩])
 (.seq (.blk [⟨some 14, .mv (.tmp 4), none⟩,
 ⟨some 2, .mv (.tmp 14), none⟩])
 (.ret))))),
 [.tmp 2], 15)
def ir_rCompactArrayLen (F : Nat → Nat) : IC × List RV × Nat := (.seq (.blk [⟨some 2, .mv (.const (.int .i32 0)), none⟩])
 (.seq (.blk [⟨some 4, .mv (.tmp 0), none⟩,
 ⟨some 5, .call (F rUvarint) [.tmp 4], none⟩,
 ⟨some 6, .conv .i32 (.tmp 5), none⟩,
 ⟨some 7, .bin .sub (.tmp 6) (.const (.int .i32 1)), none⟩,
 ⟨some 3, .mv (.tmp 7), none⟩])
 (.seq (.seq (.blk [⟨some 8, .mv (.tmp 0), none⟩,
 ⟨some 9, .nilc (.tmp 8), none⟩,
 ⟨some 10, .fad (.tmp 9) 0, none⟩,
 ⟨some 11, .ld (.tmp 10), none⟩,
 ⟨some 12, .len (.tmp 11), none⟩,
 ⟨some 13, .mv (.tmp 3), none⟩,
 ⟨some 14, .conv .i64 (.tmp 13), none⟩,
 ⟨some 15, .bin .lss (.tmp 12) (.tmp 14), none⟩])
 (.cond (.tmp 15)
 (.seq (.blk [⟨some 16, .mv (.tmp 0), none⟩,
 ⟨some 17, .nilc (.tmp 16), none⟩,
 ⟨some 18, .fad (.tmp 17) 1, none⟩,
 ⟨none, .st (.tmp 18) 1 (.const (.bool true)), none⟩])
 (.seq (.blk [⟨some 19, .mv (.tmp 0), none⟩,
 ⟨some 20, .nilc (.tmp 19), none⟩,
 ⟨some 21, .fad (.tmp 20) 0, none⟩,
 ⟨none, .st (.tmp 21) 1 (.const (.slice none 0 0)), none⟩])
 (.seq (.blk [⟨some 2, .mv (.const (.int .i32 0)), none⟩])
 (.ret))))
 (.skip)))
 (.seq (.blk [⟨some 22, .mv (.tmp 3), none⟩,
 ⟨some 2, .mv (.tmp 22), none⟩])
 (.ret)))),
 [.tmp 2], 23)
end Go.Msk

namespace Go.Msk
open Go.RowKit
set_option maxRecDepth 100000
def uvR : Nat → List UInt8 → Option (Nat × Nat)
  | 0, _ => none
  | _ + 1, [] => none
  | n + 1, b :: r =>
    if b.toNat < 128 then (if n = 0 ∧ 15 < b.toNat then none else some (b.toNat, 1))
    else match uvR n r with
      | some (v, k) => some (b.toNat % 128 + 128 * v, k + 1)
      | none => none
theorem and127 (b : UInt8) : intBin .and .u8 (b.toNat : Int) 127 = some (.int .u8 ((b.toNat % 128 : Nat) : Int)) := by
  have key : ∀ n, n < 256 → intBin .and .u8 (n : Nat) 127 = some (.int .u8 ((n % 128 : Nat) : Int)) := by
    intro n hn
    simp only [intBin]
    congr 2
    have h : ∀ n : Fin 256, IntKind.u8.wrap ((BitVec.ofInt IntKind.u8.bits (n.val : Int) &&& BitVec.ofInt IntKind.u8.bits 127).toNat : Int) = ((n.val % 128 : Nat) : Int) := by decide +kernel
    exact h ⟨n, hn⟩
  exact key _ (byte_lt b)
theorem and128 (b : UInt8) : intBin .and .u8 (b.toNat : Int) 128 = some (.int .u8 (if b.toNat < 128 then 0 else 128)) := by
  have key : ∀ n, n < 256 → intBin .and .u8 (n : Nat) 128 = some (.int .u8 (if n < 128 then 0 else 128)) := by
    intro n hn
    simp only [intBin]
    congr 2
    have h : ∀ n : Fin 256, IntKind.u8.wrap ((BitVec.ofInt IntKind.u8.bits (n.val : Int) &&& BitVec.ofInt IntKind.u8.bits 128).toNat : Int) = (if n.val < 128 then 0 else 128) := by decide +kernel
    exact h ⟨n, hn⟩
  exact key _ (byte_lt b)
theorem u32_nat {n : Nat} (h : n < 4294967296) : IntKind.u32.wrap (n : Int) = n := by
  simp [IntKind.wrap, IntKind.bits, IntKind.signed]; omega
theorem shl_u32 {x s : Nat} (hs : s ≤ 32) (hx : x * 2 ^ s < 4294967296) : intBin .shl .u32 (x : Int) (s : Int) = some (.int .u32 ((x * 2 ^ s : Nat) : Int)) :=
  bin_shl (k := .u32) rfl (by simpa [IntKind.bits] using hs) (by simpa [IntKind.bits] using hx)
theorem or_u32 {x y s : Nat} (hx : x < 2 ^ s) (hs : s ≤ 32) (hy : y * 2 ^ s < 4294967296) : intBin .or .u32 (x : Int) ((y * 2 ^ s : Nat) : Int) = some (.int .u32 ((x + y * 2 ^ s : Nat) : Int)) := by
  have h2 : (2 : Nat) ^ s ≤ 2 ^ 32 := Nat.pow_le_pow_right (by omega) hs
  have e := bin_or (k := .u32) rfl (x := x) (y := y * 2 ^ s) (by simp only [IntKind.bits]; omega) (by simpa [IntKind.bits] using hy)
  rw [e, Nat.or_comm, Nat.or_comm, or_add y x s hx, Nat.add_comm]
section
variable {P : Program}
structure UvS (a : Addr) (len cap : Nat) (x : Nat) (σ : Sl) : Prop where
  s0 : σ 0 = .slice (some a) len cap
  s4 : σ 4 = .int .u32 x
  s5 : σ 5 = .int .i64 0
theorem uv_level {t i sh x len cap : Nat} {a : Addr} {l : List UInt8} {b : UInt8} {ii i2 ss : Int} {σ : Sl} {w : World} {rest : IC} {Q : Exit → Sl → World → Prop} (ht : 6 ≤ t) (hb : IsBytes w (some a) len cap l) (hi : l[i]? = some b) (hx : x < 2 ^ sh) (hsh : sh ≤ 21)
    (eii : ii = i) (ei2 : i2 = i + 2) (ess : ss = sh) (hS : UvS a len cap x σ)
    (hret : b.toNat < 128 → ∀ σ', σ' 2 = .int .u32 ((x + b.toNat * 2 ^ sh : Nat) : Int) → σ' 3 = .int .i64 (i + 1) → Q .ret σ' w)
    (hgo : ¬ b.toNat < 128 → len < i + 2 → ∀ σ', σ' 5 = .int .i64 0 → Q (.goto 0) σ' w)
    (hnext : ¬ b.toNat < 128 → ¬ len < i + 2 → ∀ σ', UvS a len cap (x + (b.toNat % 128) * 2 ^ sh) σ' → wpC P rest Q σ' w) :
    wpC P (.seq (.blk [⟨some t, .mv (.tmp 4), none⟩, ⟨some (t + 1), .mv (.tmp 0), none⟩, ⟨some (t + 2), .iad (.tmp (t + 1)) (.const (.int .i64 ii)) 1, none⟩, ⟨some (t + 3), .ld (.tmp (t + 2)), none⟩,
        ⟨some (t + 4), .bin .and (.tmp (t + 3)) (.const (.int .u8 127)), none⟩, ⟨some (t + 5), .conv .u32 (.tmp (t + 4)), none⟩, ⟨some (t + 6), .bin .shl (.tmp (t + 5)) (.const (.int .u64 ss)), none⟩, ⟨some (t + 7), .bin .or (.tmp t) (.tmp (t + 6)), none⟩, ⟨some 4, .mv (.tmp (t + 7)), none⟩])
      (.seq (.seq (.blk [⟨some (t + 8), .mv (.tmp 0), none⟩, ⟨some (t + 9), .iad (.tmp (t + 8)) (.const (.int .i64 ii)) 1, none⟩, ⟨some (t + 10), .ld (.tmp (t + 9)), none⟩, ⟨some (t + 11), .bin .and (.tmp (t + 10)) (.const (.int .u8 128)), none⟩, ⟨some (t + 12), .bin .eql (.tmp (t + 11)) (.const (.int .u8 0)), none⟩])
        (.cond (.tmp (t + 12)) (.seq (.blk [⟨some (t + 13), .mv (.tmp 4), none⟩, ⟨some 2, .mv (.tmp (t + 13)), none⟩, ⟨some 3, .mv (.const (.int .i64 (i + 1))), none⟩]) .ret)
          (.seq (.blk [⟨some (t + 14), .mv (.tmp 0), none⟩, ⟨some (t + 15), .len (.tmp (t + 14)), none⟩, ⟨some (t + 16), .bin .lss (.tmp (t + 15)) (.const (.int .i64 i2)), none⟩]) (.cond (.tmp (t + 16)) (.goto 0) .skip)))) rest)) Q σ w := by
  subst eii ei2 ess
  have hlt := hb.lt hi
  have hg := hb.get hi
  have hbl := byte_lt b
  have hp : (2 : Nat) ^ sh ≤ 2 ^ 21 := Nat.pow_le_pow_right (by omega) hsh
  have hm1 : (b.toNat % 128) * 2 ^ sh ≤ 127 * 2 ^ 21 := Nat.mul_le_mul (by omega) hp
  have h1 : (b.toNat % 128) * 2 ^ sh < 4294967296 := by omega
  have h2 : x + (b.toNat % 128) * 2 ^ sh < 4294967296 := by omega
  have e1 : IntKind.u32.wrap ((b.toNat % 128 : Nat) : Int) = ((b.toNat % 128 : Nat) : Int) := u32_nat (by omega)
  rw [wpC_seq, wpC_blk]
  refine wpR_step (v := .int .u32 x) (congrArg some hS.s4) ?_
  refine wpR_step (v := .slice (some a) len cap) (by simp only [RK.val?, ev, updo, upd, show (0 : Nat) ≠ t by omega, if_false, hS.s0]) ?_
  refine wpR_step (v := .pointer (some (a.add i))) (by simp only [RK.val?, ev, updo, upd, if_true]; rw [if_pos (by omega)]; simp) ?_
  refine wpR_step (v := .int .u8 b.toNat) (by simp only [RK.val?, ev, updo, upd, if_true]; exact hg) ?_
  refine wpR_step (v := .int .u8 ((b.toNat % 128 : Nat) : Int)) (by simp only [RK.val?, ev, updo, upd, if_true, decide_true, Bool.or_true]; exact and127 b) ?_
  refine wpR_step (v := .int .u32 ((b.toNat % 128 : Nat) : Int)) (by simp only [RK.val?, ev, updo, upd, if_true, e1]) ?_
  refine wpR_step (v := .int .u32 (((b.toNat % 128) * 2 ^ sh : Nat) : Int)) (by simp only [RK.val?, ev, updo, upd, if_true, isShift, Bool.true_or]; exact shl_u32 (by omega) h1) ?_
  refine wpR_step (v := .int .u32 ((x + (b.toNat % 128) * 2 ^ sh : Nat) : Int)) (by
    simp only [RK.val?, ev, updo, upd, show t ≠ t + 6 by omega, show t ≠ t + 5 by omega, show t ≠ t + 4 by omega, show t ≠ t + 3 by omega, show t ≠ t + 2 by omega, show t ≠ t + 1 by omega, if_false, if_true, decide_true, Bool.or_true]
    exact or_u32 hx (by omega) h1) ?_
  refine wpR_step (v := .int .u32 ((x + (b.toNat % 128) * 2 ^ sh : Nat) : Int)) (by simp only [RK.val?, ev, updo, upd, if_true]) ?_
  refine wpR_done ?_
  generalize hσ1 : updo _ (some 4) _ = σ1
  have k0 : σ1 0 = .slice (some a) len cap := by
    rw [← hσ1]; simp only [updo, upd, show (0 : Nat) ≠ 4 by omega, show (0 : Nat) ≠ t + 7 by omega, show (0 : Nat) ≠ t + 6 by omega, show (0 : Nat) ≠ t + 5 by omega, show (0 : Nat) ≠ t + 4 by omega, show (0 : Nat) ≠ t + 3 by omega, show (0 : Nat) ≠ t + 2 by omega, show (0 : Nat) ≠ t + 1 by omega, show (0 : Nat) ≠ t by omega, if_false, hS.s0]
  have k4 : σ1 4 = .int .u32 ((x + (b.toNat % 128) * 2 ^ sh : Nat) : Int) := by rw [← hσ1]; rfl
  have k5 : σ1 5 = .int .i64 0 := by
    rw [← hσ1]; simp only [updo, upd, show (5 : Nat) ≠ 4 by omega, show (5 : Nat) ≠ t + 7 by omega, show (5 : Nat) ≠ t + 6 by omega, show (5 : Nat) ≠ t + 5 by omega, show (5 : Nat) ≠ t + 4 by omega, show (5 : Nat) ≠ t + 3 by omega, show (5 : Nat) ≠ t + 2 by omega, show (5 : Nat) ≠ t + 1 by omega, show (5 : Nat) ≠ t by omega, if_false, hS.s5]
  clear hσ1
  rw [wpC_seq, wpC_seq, wpC_blk]
  refine wpR_step (v := .slice (some a) len cap) (congrArg some k0) ?_
  refine wpR_step (v := .pointer (some (a.add i))) (by simp only [RK.val?, ev, updo, upd, if_true]; rw [if_pos (by omega)]; simp) ?_
  refine wpR_step (v := .int .u8 b.toNat) (by simp only [RK.val?, ev, updo, upd, if_true]; exact hg) ?_
  refine wpR_step (v := .int .u8 (if b.toNat < 128 then 0 else 128)) (by simp only [RK.val?, ev, updo, upd, if_true, decide_true, Bool.or_true]; exact and128 b) ?_
  refine wpR_step (v := .bool (decide (b.toNat < 128))) (by
    simp only [RK.val?, ev, updo, upd, if_true, decide_true, Bool.or_true, intBin]
    by_cases hbb : b.toNat < 128 <;> simp [hbb]) ?_
  refine wpR_done ?_
  by_cases hbb : b.toNat < 128
  · rw [wpC_cond_t (by simp only [ev, updo, upd, if_true, hbb, decide_true]), wpC_seq, wpC_blk]
    refine wpR_step (v := .int .u32 ((x + (b.toNat % 128) * 2 ^ sh : Nat) : Int)) (by
      simp only [RK.val?, ev, updo, upd, show (4 : Nat) ≠ t + 8 by omega, show (4 : Nat) ≠ t + 9 by omega, show (4 : Nat) ≠ t + 10 by omega, show (4 : Nat) ≠ t + 11 by omega, show (4 : Nat) ≠ t + 12 by omega, if_false, k4]) ?_
    refine wpR_step (v := .int .u32 ((x + (b.toNat % 128) * 2 ^ sh : Nat) : Int)) (by simp only [RK.val?, ev, updo, upd, if_true]) ?_
    refine wpR_step (v := .int .i64 (i + 1)) rfl ?_
    refine wpR_done ?_
    refine hret hbb _ ?_ rfl
    rw [Nat.mod_eq_of_lt hbb]; rfl
  · rw [wpC_cond_f (by simp only [ev, updo, upd, if_true, hbb, decide_false]), wpC_seq, wpC_blk]
    refine wpR_step (v := .slice (some a) len cap) (by
      simp only [RK.val?, ev, updo, upd, show (0 : Nat) ≠ t + 8 by omega, show (0 : Nat) ≠ t + 9 by omega, show (0 : Nat) ≠ t + 10 by omega, show (0 : Nat) ≠ t + 11 by omega, show (0 : Nat) ≠ t + 12 by omega, if_false, k0]) ?_
    refine wpR_step (v := .int .i64 len) (by simp only [RK.val?, ev, updo, upd, if_true]) ?_
    refine wpR_step (v := .bool (decide (len < i + 2))) (by
      simp only [RK.val?, ev, updo, upd, if_true, decide_true, Bool.or_true, intBin]
      congr 2
      exact decide_eq_decide.2 (by omega)) ?_
    refine wpR_done ?_
    have g : ∀ j, j < 6 → (updo (updo (updo (updo (updo (updo (updo (updo σ1 (some (t + 8)) (.slice (some a) len cap)) (some (t + 9)) (.pointer (some (a.add i)))) (some (t + 10)) (.int .u8 b.toNat)) (some (t + 11)) (.int .u8 (if b.toNat < 128 then 0 else 128))) (some (t + 12)) (.bool (decide (b.toNat < 128)))) (some (t + 14)) (.slice (some a) len cap)) (some (t + 15)) (.int .i64 len)) (some (t + 16)) (.bool (decide (len < i + 2)))) j = σ1 j := by
      intro j hj
      simp only [updo, upd, show j ≠ t + 8 by omega, show j ≠ t + 9 by omega, show j ≠ t + 10 by omega, show j ≠ t + 11 by omega, show j ≠ t + 12 by omega, show j ≠ t + 14 by omega, show j ≠ t + 15 by omega, show j ≠ t + 16 by omega, if_false]
    by_cases hl2 : len < i + 2
    · rw [wpC_cond_t (by simp only [ev, updo, upd, if_true, hl2, decide_true])]
      exact hgo hbb hl2 _ ((g 5 (by omega)).trans k5)
    · rw [wpC_cond_f (by simp only [ev, updo, upd, if_true, hl2, decide_false]), wpC_skip]
      exact hnext hbb hl2 _ ⟨(g 0 (by omega)).trans k0, (g 4 (by omega)).trans k4, (g 5 (by omega)).trans k5⟩
end
end Go.Msk

namespace Go.Msk
open Go.RowKit
set_option maxRecDepth 100000
section
variable {P : Program} {F : Nat → Nat}
def UvRes (l : List UInt8) (e : Ending) : Prop :=
  match uvR 5 l with
  | some (v, k) => e = .returned (.tuple #[.int .u32 v, .int .i64 k])
  | none => ∃ n : Int, n ≤ 0 ∧ e = .returned (.tuple #[.int .u32 0, .int .i64 n])
theorem uv_label {w : World} {σ : Sl} {n : Int} {Q : Exit → Sl → World → Prop} (h5 : σ 5 = .int .i64 n) (hQ : ∀ σ', σ' 2 = .int .u32 0 → σ' 3 = .int .i64 n → Q .ret σ' w) :
    wpC P (.seq .skip (.seq (.blk [⟨some 86, .mv (.tmp 5), none⟩, ⟨some 2, .mv (.const (.int .u32 0)), none⟩, ⟨some 3, .mv (.tmp 86), none⟩]) .ret)) Q σ w := by
  rw [wpC_seq, wpC_skip]
  simp only [thenC]
  rw [wpC_seq, wpC_blk]
  refine wpR_step (v := .int .i64 n) (congrArg some h5) ?_
  refine wpR_step (v := .int .u32 0) rfl ?_
  refine wpR_step (v := .int .i64 n) rfl ?_
  refine wpR_done ?_
  exact hQ _ rfl rfl
theorem uv_none {l : List UInt8} {w : World} {σ : Sl} {n : Int} (hn : n ≤ 0) (h2 : σ 2 = .int .u32 0) (h3 : σ 3 = .int .i64 n) (hr : uvR 5 l = none) : postC [.tmp 2, .tmp 3] (fun e w' => UvRes l e ∧ w' = w) .ret σ w := by
  simp only [postC, rvals, List.mapM_cons, List.mapM_nil, RV.val, h2, h3, Option.bind_eq_bind, Option.bind_some, Option.pure_def, tup]
  refine ⟨?_, trivial⟩
  unfold UvRes; rw [hr]; exact ⟨n, hn, rfl⟩
theorem uv_fail {l : List UInt8} {w : World} {σ : Sl} {n : Int} (hn : n ≤ 0) (h5 : σ 5 = .int .i64 n) (hr : uvR 5 l = none) :
    wpC P (.seq .skip (.seq (.blk [⟨some 86, .mv (.tmp 5), none⟩, ⟨some 2, .mv (.const (.int .u32 0)), none⟩, ⟨some 3, .mv (.tmp 86), none⟩]) .ret)) (noGotoC (postC [.tmp 2, .tmp 3] fun e w' => UvRes l e ∧ w' = w)) σ w :=
  uv_label h5 fun _ e2 e3 => uv_none hn e2 e3 hr
def UvQ (P : Program) (l : List UInt8) (w : World) : Exit → Sl → World → Prop :=
  jumpC 0 (wpC P (.seq .skip (.seq (.blk [⟨some 86, .mv (.tmp 5), none⟩, ⟨some 2, .mv (.const (.int .u32 0)), none⟩, ⟨some 3, .mv (.tmp 86), none⟩]) .ret)) (noGotoC (postC [.tmp 2, .tmp 3] fun e w' => UvRes l e ∧ w' = w))) (postC [.tmp 2, .tmp 3] fun e w' => UvRes l e ∧ w' = w)
theorem uv_goto {l : List UInt8} {w : World} {σ : Sl} {n : Int} (hn : n ≤ 0) (h5 : σ 5 = .int .i64 n) (hr : uvR 5 l = none) : UvQ P l w (.goto 0) σ w := ⟨rfl, uv_fail hn h5 hr⟩
theorem uv_scope {l : List UInt8} {w : World} {σ : Sl} {a : IC} (h : wpC P a (UvQ P l w) σ w) :
    wpC P (.scopeTo a 0 (.seq .skip (.seq (.blk [⟨some 86, .mv (.tmp 5), none⟩, ⟨some 2, .mv (.const (.int .u32 0)), none⟩, ⟨some 3, .mv (.tmp 86), none⟩]) .ret))) (postC [.tmp 2, .tmp 3] fun e w' => UvRes l e ∧ w' = w) σ w := h
theorem uv_ret {l : List UInt8} {w : World} {σ : Sl} {v k : Nat} (h2 : σ 2 = .int .u32 v) (h3 : σ 3 = .int .i64 k) (hr : uvR 5 l = some (v, k)) : UvQ P l w .ret σ w := by
  show postC [.tmp 2, .tmp 3] (fun e w' => UvRes l e ∧ w' = w) .ret σ w
  simp only [postC, rvals, List.mapM_cons, List.mapM_nil, RV.val, h2, h3, Option.bind_eq_bind, Option.bind_some, Option.pure_def, tup]
  refine ⟨?_, trivial⟩
  unfold UvRes; rw [hr]
theorem uv_last {X len cap : Nat} {a : Addr} {l : List UInt8} {b : UInt8} {σ : Sl} {w : World} {rest : IC} {Q : Exit → Sl → World → Prop} (hb : IsBytes w (some a) len cap l) (hi : l[4]? = some b) (hX : X < 2 ^ 28) (hS : UvS a len cap X σ)
    (hret : b.toNat ≤ 15 → ∀ σ', σ' 2 = .int .u32 ((X + b.toNat * 2 ^ 28 : Nat) : Int) → σ' 3 = .int .i64 5 → Q .ret σ' w)
    (hnext : ¬ b.toNat ≤ 15 → ∀ σ', wpC P rest Q σ' w) :
    wpC P (.seq (.blk [⟨some 74, .mv (.tmp 4), none⟩, ⟨some 75, .mv (.tmp 0), none⟩, ⟨some 76, .iad (.tmp 75) (.const (.int .i64 4)) 1, none⟩, ⟨some 77, .ld (.tmp 76), none⟩, ⟨some 78, .conv .u32 (.tmp 77), none⟩, ⟨some 79, .bin .shl (.tmp 78) (.const (.int .u64 28)), none⟩, ⟨some 80, .bin .or (.tmp 74) (.tmp 79), none⟩, ⟨some 4, .mv (.tmp 80), none⟩])
      (.seq (.seq (.blk [⟨some 81, .mv (.tmp 0), none⟩, ⟨some 82, .iad (.tmp 81) (.const (.int .i64 4)) 1, none⟩, ⟨some 83, .ld (.tmp 82), none⟩, ⟨some 84, .bin .leq (.tmp 83) (.const (.int .u8 15)), none⟩])
        (.cond (.tmp 84) (.seq (.blk [⟨some 85, .mv (.tmp 4), none⟩, ⟨some 2, .mv (.tmp 85), none⟩, ⟨some 3, .mv (.const (.int .i64 5)), none⟩]) .ret) .skip)) rest)) Q σ w := by
  have hlt := hb.lt hi
  have hg := hb.get hi
  have hbl := byte_lt b
  have e4 : IntKind.u32.wrap (b.toNat : Int) = b.toNat := u32_nat (by omega)
  obtain ⟨q0, q4, q5⟩ := hS
  rw [wpC_seq, wpC_blk]
  refine wpR_step (v := .int .u32 X) (congrArg some q4) ?_
  refine wpR_step (v := .slice (some a) len cap) (by simp only [RK.val?, ev, updo, upd]; simp [q0]) ?_
  refine wpR_step (v := .pointer (some (a.add 4))) (by simp only [RK.val?, ev, updo, upd, if_true]; rw [if_pos (by omega)]; simp) ?_
  refine wpR_step (v := .int .u8 b.toNat) (by simp only [RK.val?, ev, updo, upd, if_true]; exact hg) ?_
  refine wpR_step (v := .int .u32 b.toNat) (by simp only [RK.val?, ev, updo, upd, if_true, e4]) ?_
  obtain ⟨m, hm⟩ : ∃ m : Int, intBin .shl .u32 (b.toNat : Int) 28 = some (.int .u32 m) := ⟨_, by unfold intBin; simp only; rw [if_neg (by omega)]⟩
  obtain ⟨y, hy⟩ : ∃ y : Int, intBin .or .u32 (X : Int) m = some (.int .u32 y) := ⟨_, rfl⟩
  refine wpR_step (v := .int .u32 m) (by simp only [RK.val?, ev, updo, upd, if_true, isShift, Bool.true_or]; exact hm) ?_
  refine wpR_step (v := .int .u32 y) (by
    simp only [RK.val?, ev, updo, upd, if_true, decide_true, Bool.or_true, show (74 : Nat) ≠ 75 by decide, show (74 : Nat) ≠ 76 by decide, show (74 : Nat) ≠ 77 by decide, show (74 : Nat) ≠ 78 by decide, show (74 : Nat) ≠ 79 by decide, if_false]
    exact hy) ?_
  refine wpR_step (v := .int .u32 y) (by simp only [RK.val?, ev, updo, upd, if_true]) ?_
  refine wpR_done ?_
  generalize hσ1 : updo _ (some 4) _ = σ1
  have k0 : σ1 0 = .slice (some a) len cap := by rw [← hσ1]; simp [updo, upd, q0]
  have k4 : σ1 4 = .int .u32 y := by rw [← hσ1]; simp [updo, upd]
  clear hσ1
  rw [wpC_seq, wpC_seq, wpC_blk]
  refine wpR_step (v := .slice (some a) len cap) (congrArg some k0) ?_
  refine wpR_step (v := .pointer (some (a.add 4))) (by simp only [RK.val?, ev, updo, upd, if_true]; rw [if_pos (by omega)]; simp) ?_
  refine wpR_step (v := .int .u8 b.toNat) (by simp only [RK.val?, ev, updo, upd, if_true]; exact hg) ?_
  refine wpR_step (v := .bool (decide (b.toNat ≤ 15))) (by
    simp only [RK.val?, ev, updo, upd, if_true, decide_true, Bool.or_true, intBin]
    congr 2; exact decide_eq_decide.2 (by omega)) ?_
  refine wpR_done ?_
  by_cases hb4 : b.toNat ≤ 15
  · have hs := shl_u32 (x := b.toNat) (s := 28) (by omega) (by omega)
    have ho := or_u32 (x := X) (y := b.toNat) (s := 28) hX (by omega) (by omega)
    have em : m = ((b.toNat * 2 ^ 28 : Nat) : Int) := by
      have := hm.symm.trans hs
      simpa using this
    rw [em] at hy
    have ey : y = ((X + b.toNat * 2 ^ 28 : Nat) : Int) := by
      have := hy.symm.trans ho
      simpa using this
    rw [wpC_cond_t (by simp only [ev, updo, upd, if_true, hb4, decide_true]), wpC_seq, wpC_blk]
    refine wpR_step (v := .int .u32 y) (by simp only [RK.val?, ev, updo, upd]; simp [k4]) ?_
    refine wpR_step (v := .int .u32 y) (by simp only [RK.val?, ev, updo, upd, if_true]) ?_
    refine wpR_step (v := .int .i64 5) rfl ?_
    refine wpR_done ?_
    exact hret hb4 _ (by simp only [updo, upd, show (2 : Nat) ≠ 3 by decide, if_false, if_true, ey]) rfl
  · rw [wpC_cond_f (by simp only [ev, updo, upd, if_true, hb4, decide_false]), wpC_skip]
    exact hnext hb4 _
theorem uv_first {len cap : Nat} {base : Option Addr} {l : List UInt8} {σ : Sl} {w : World} {rest : IC} {Q : Exit → Sl → World → Prop} (hb : IsBytes w base len cap l) (k0 : σ 0 = .slice base len cap)
    (hgo0 : l = [] → ∀ σ', σ' 5 = .int .i64 0 → Q (.goto 0) σ' w)
    (hret : ∀ b r, l = b :: r → b.toNat < 128 → ∀ σ', σ' 2 = .int .u32 b.toNat → σ' 3 = .int .i64 1 → Q .ret σ' w)
    (hgo1 : ∀ b, l = [b] → ¬ b.toNat < 128 → ∀ σ', σ' 5 = .int .i64 0 → Q (.goto 0) σ' w)
    (hnext : ∀ a b c r, base = some a → l = b :: c :: r → ¬ b.toNat < 128 → ∀ σ', UvS a len cap (b.toNat % 128) σ' → wpC P rest Q σ' w) :
    wpC P (.seq (.blk [⟨some 4, .mv (.const (.int .u32 0)), none⟩]) (.seq (.blk [⟨some 5, .mv (.const (.int .i64 0)), none⟩])
      (.seq (.seq (.blk [⟨some 6, .mv (.tmp 0), none⟩, ⟨some 7, .len (.tmp 6), none⟩, ⟨some 8, .bin .lss (.tmp 7) (.const (.int .i64 1)), none⟩]) (.cond (.tmp 8) (.goto 0) .skip))
      (.seq (.blk [⟨some 9, .mv (.tmp 0), none⟩, ⟨some 10, .iad (.tmp 9) (.const (.int .i64 0)) 1, none⟩, ⟨some 11, .ld (.tmp 10), none⟩, ⟨some 12, .bin .and (.tmp 11) (.const (.int .u8 127)), none⟩, ⟨some 13, .conv .u32 (.tmp 12), none⟩, ⟨some 4, .mv (.tmp 13), none⟩])
      (.seq (.seq (.blk [⟨some 14, .mv (.tmp 0), none⟩, ⟨some 15, .iad (.tmp 14) (.const (.int .i64 0)) 1, none⟩, ⟨some 16, .ld (.tmp 15), none⟩, ⟨some 17, .bin .and (.tmp 16) (.const (.int .u8 128)), none⟩, ⟨some 18, .bin .eql (.tmp 17) (.const (.int .u8 0)), none⟩])
        (.cond (.tmp 18) (.seq (.blk [⟨some 19, .mv (.tmp 4), none⟩, ⟨some 2, .mv (.tmp 19), none⟩, ⟨some 3, .mv (.const (.int .i64 1)), none⟩]) .ret)
          (.seq (.blk [⟨some 20, .mv (.tmp 0), none⟩, ⟨some 21, .len (.tmp 20), none⟩, ⟨some 22, .bin .lss (.tmp 21) (.const (.int .i64 2)), none⟩]) (.cond (.tmp 22) (.goto 0) .skip)))) rest))))) Q σ w := by
  have hlen := hb.hlen
  rw [wpC_seq, wpC_blk]
  refine wpR_step (v := .int .u32 0) rfl ?_
  refine wpR_done ?_
  rw [wpC_seq, wpC_blk]
  refine wpR_step (v := .int .i64 0) rfl ?_
  refine wpR_done ?_
  rw [wpC_seq, wpC_seq, wpC_blk]
  refine wpR_step (v := .slice base len cap) (by simp only [RK.val?, ev, updo, upd]; simp [k0]) ?_
  refine wpR_step (v := .int .i64 len) (by simp only [RK.val?, ev, updo, upd, if_true]) ?_
  refine wpR_step (v := .bool (decide (len < 1))) (by
    simp only [RK.val?, ev, updo, upd, if_true, isShift, decide_true, Bool.or_true, intBin]
    congr 2; exact decide_eq_decide.2 (by omega)) ?_
  refine wpR_done ?_
  by_cases h1 : len < 1
  · rw [wpC_cond_t (by simp only [ev, updo, upd, if_true, h1, decide_true])]
    exact hgo0 (List.length_eq_zero_iff.1 (by omega)) _ rfl
  rw [wpC_cond_f (by simp only [ev, updo, upd, if_true, h1, decide_false]), wpC_skip]
  simp only [thenC]
  obtain ⟨a, rfl⟩ : ∃ a, base = some a := by
    cases base with
    | some a => exact ⟨a, rfl⟩
    | none => have := hb.hnone rfl; have := hb.hcap; omega
  obtain ⟨b0, r0, rfl⟩ : ∃ b r, l = b :: r := by cases l with | nil => simp at hlen; omega | cons b r => exact ⟨b, r, rfl⟩
  have g0 := hb.get (i := 0) (b := b0) rfl
  have hbl := byte_lt b0
  have e0 : IntKind.u32.wrap ((b0.toNat % 128 : Nat) : Int) = ((b0.toNat % 128 : Nat) : Int) := u32_nat (by omega)
  generalize hσ : updo _ (some 8) _ = σ1
  have k0' : σ1 0 = .slice (some a) len cap := by rw [← hσ]; simp [updo, upd, k0]
  have k5 : σ1 5 = .int .i64 0 := by rw [← hσ]; simp [updo, upd]
  clear hσ k0
  have k0 := k0'
  rw [wpC_seq, wpC_blk]
  refine wpR_step (v := .slice (some a) len cap) (congrArg some k0) ?_
  refine wpR_step (v := .pointer (some (a.add 0))) (by simp only [RK.val?, ev, updo, upd, if_true]; rw [if_pos (by omega)]; simp) ?_
  refine wpR_step (v := .int .u8 b0.toNat) (by simp only [RK.val?, ev, updo, upd, if_true]; exact g0) ?_
  refine wpR_step (v := .int .u8 ((b0.toNat % 128 : Nat) : Int)) (by simp only [RK.val?, ev, updo, upd, if_true, decide_true, Bool.or_true]; exact and127 b0) ?_
  refine wpR_step (v := .int .u32 ((b0.toNat % 128 : Nat) : Int)) (by simp only [RK.val?, ev, updo, upd, if_true, e0]) ?_
  refine wpR_step (v := .int .u32 ((b0.toNat % 128 : Nat) : Int)) (by simp only [RK.val?, ev, updo, upd, if_true]) ?_
  refine wpR_done ?_
  generalize hσ : updo _ (some 4) _ = σ2
  have m0 : σ2 0 = .slice (some a) len cap := by rw [← hσ]; simp [updo, upd, k0]
  have m4 : σ2 4 = .int .u32 ((b0.toNat % 128 : Nat) : Int) := by rw [← hσ]; simp only [updo, upd, if_true]
  have m5 : σ2 5 = .int .i64 0 := by rw [← hσ]; simp [updo, upd, k5]
  clear hσ
  rw [wpC_seq, wpC_seq, wpC_blk]
  refine wpR_step (v := .slice (some a) len cap) (congrArg some m0) ?_
  refine wpR_step (v := .pointer (some (a.add 0))) (by simp only [RK.val?, ev, updo, upd, if_true]; rw [if_pos (by omega)]; simp) ?_
  refine wpR_step (v := .int .u8 b0.toNat) (by simp only [RK.val?, ev, updo, upd, if_true]; exact g0) ?_
  refine wpR_step (v := .int .u8 (if b0.toNat < 128 then 0 else 128)) (by simp only [RK.val?, ev, updo, upd, if_true, decide_true, Bool.or_true]; exact and128 b0) ?_
  refine wpR_step (v := .bool (decide (b0.toNat < 128))) (by
    simp only [RK.val?, ev, updo, upd, if_true, decide_true, Bool.or_true, intBin]
    by_cases hbb : b0.toNat < 128 <;> simp [hbb]) ?_
  refine wpR_done ?_
  by_cases hb0 : b0.toNat < 128
  · rw [wpC_cond_t (by simp only [ev, updo, upd, if_true, hb0, decide_true]), wpC_seq, wpC_blk]
    refine wpR_step (v := .int .u32 ((b0.toNat % 128 : Nat) : Int)) (by simp only [RK.val?, ev, updo, upd]; simp [m4]) ?_
    refine wpR_step (v := .int .u32 ((b0.toNat % 128 : Nat) : Int)) (by simp only [RK.val?, ev, updo, upd, if_true]) ?_
    refine wpR_step (v := .int .i64 1) rfl ?_
    refine wpR_done ?_
    exact hret b0 r0 rfl hb0 _ (by simp only [updo, upd, show (2 : Nat) ≠ 3 by decide, if_false, if_true]; rw [Nat.mod_eq_of_lt hb0]) rfl
  rw [wpC_cond_f (by simp only [ev, updo, upd, if_true, hb0, decide_false]), wpC_seq, wpC_blk]
  refine wpR_step (v := .slice (some a) len cap) (by simp only [RK.val?, ev, updo, upd]; simp [m0]) ?_
  refine wpR_step (v := .int .i64 len) (by simp only [RK.val?, ev, updo, upd, if_true]) ?_
  refine wpR_step (v := .bool (decide (len < 2))) (by
    simp only [RK.val?, ev, updo, upd, if_true, isShift, decide_true, Bool.or_true, intBin]
    congr 2; exact decide_eq_decide.2 (by omega)) ?_
  refine wpR_done ?_
  simp only [List.length_cons] at hlen
  by_cases h2 : len < 2
  · rw [wpC_cond_t (by simp only [ev, updo, upd, if_true, h2, decide_true])]
    have : r0 = [] := List.length_eq_zero_iff.1 (by omega)
    subst this
    exact hgo1 b0 rfl hb0 _ (by simp [updo, upd, m5])
  rw [wpC_cond_f (by simp only [ev, updo, upd, if_true, h2, decide_false]), wpC_skip]
  simp only [thenC]
  obtain ⟨b1, r1, rfl⟩ : ∃ b r, r0 = b :: r := by cases r0 with | nil => simp at hlen; omega | cons b r => exact ⟨b, r, rfl⟩
  exact hnext a b0 b1 r1 rfl rfl hb0 _ ⟨by simp [updo, upd, m0], by simp [updo, upd, m4], by simp [updo, upd, m5]⟩
theorem uv_no {n : Nat} {b : UInt8} {r : List UInt8} (h1 : ¬ b.toNat < 128) (h2 : uvR n r = none) : uvR (n + 1) (b :: r) = none := by simp only [uvR, h1, if_false, h2]
theorem uv_nil (n : Nat) : uvR n ([] : List UInt8) = none := by cases n <;> rfl
theorem kUvarint_call (hm : P.follows .mixedOrders = true) (h : liftF P (F kUvarint) = some (ir_kUvarint F)) {base : Option Addr} {len cap : Nat} {l : List UInt8} {w : World} (hb : IsBytes w base len cap l) :
    Calls P (F kUvarint) [.slice base len cap].toArray w fun e w' => UvRes l e ∧ w' = w := by
  unfold ir_kUvarint at h
  refine call_of h hm (by simp) ?_
  have a0 : args0 [.slice base len cap] 0 = .slice base len cap := rfl
  generalize args0 [.slice base len cap] = σ0 at a0 ⊢
  have hlen := hb.hlen
  rw [wpC_seq, wpC_blk]
  refine wpR_step (v := .int .u32 0) rfl ?_
  refine wpR_step (v := .int .i64 0) rfl ?_
  refine wpR_done ?_
  have k0 : updo (updo σ0 (some 2) (.int .u32 0)) (some 3) (.int .i64 0) 0 = .slice base len cap := by simp [updo, upd, a0]
  generalize updo (updo σ0 (some 2) (.int .u32 0)) (some 3) (.int .i64 0) = σ1 at k0 ⊢
  refine uv_scope ?_
  refine uv_first hb k0 ?_ ?_ ?_ ?_
  · rintro rfl σ' e5
    exact uv_goto (n := 0) (Int.le_refl _) e5 (uv_nil _)
  · rintro b r rfl hb0 σ' e2 e3
    refine uv_ret (v := b.toNat) (k := 1) e2 e3 ?_
    simp only [uvR, hb0, if_true]; simp
  · rintro b rfl hb0 σ' e5
    exact uv_goto (n := 0) (Int.le_refl _) e5 (uv_no hb0 (uv_nil _))
  rintro a b0 b1 r1 rfl rfl hb0 σ1 hS1
  simp only [List.length_cons] at hlen
  refine uv_level (t := 23) (i := 1) (sh := 7) (x := b0.toNat % 128) (b := b1) (by omega) hb rfl (by omega) (by omega) rfl rfl rfl hS1 ?_ ?_ ?_
  · intro hb1 σ' e2 e3
    refine uv_ret (v := b0.toNat % 128 + b1.toNat * 2 ^ 7) (k := 2) e2 e3 ?_
    simp only [uvR, hb0, hb1, if_true, if_false]; simp; omega
  · intro hb1 hl σ' e5
    have : r1 = [] := List.length_eq_zero_iff.1 (by omega)
    subst this
    exact uv_goto (n := 0) (Int.le_refl _) e5 (uv_no hb0 (uv_no hb1 (uv_nil _)))
  intro hb1 hl1 σ2 hS2
  obtain ⟨b2, r2, rfl⟩ : ∃ b r, r1 = b :: r := by cases r1 with | nil => simp at hlen; omega | cons b r => exact ⟨b, r, rfl⟩
  simp only [List.length_cons] at hlen
  refine uv_level (t := 40) (i := 2) (sh := 14) (b := b2) (by omega) hb rfl (by omega) (by omega) rfl rfl rfl hS2 ?_ ?_ ?_
  · intro hb2 σ' e2 e3
    refine uv_ret (v := b0.toNat % 128 + b1.toNat % 128 * 2 ^ 7 + b2.toNat * 2 ^ 14) (k := 3) e2 e3 ?_
    simp only [uvR, hb0, hb1, hb2, if_true, if_false]; simp; omega
  · intro hb2 hl σ' e5
    have : r2 = [] := List.length_eq_zero_iff.1 (by omega)
    subst this
    exact uv_goto (n := 0) (Int.le_refl _) e5 (uv_no hb0 (uv_no hb1 (uv_no hb2 (uv_nil _))))
  intro hb2 hl2 σ3 hS3
  obtain ⟨b3, r3, rfl⟩ : ∃ b r, r2 = b :: r := by cases r2 with | nil => simp at hlen; omega | cons b r => exact ⟨b, r, rfl⟩
  simp only [List.length_cons] at hlen
  refine uv_level (t := 57) (i := 3) (sh := 21) (b := b3) (by omega) hb rfl (by omega) (by omega) rfl rfl rfl hS3 ?_ ?_ ?_
  · intro hb3 σ' e2 e3
    refine uv_ret (v := b0.toNat % 128 + b1.toNat % 128 * 2 ^ 7 + b2.toNat % 128 * 2 ^ 14 + b3.toNat * 2 ^ 21) (k := 4) e2 e3 ?_
    simp only [uvR, hb0, hb1, hb2, hb3, if_true, if_false]; simp; omega
  · intro hb3 hl σ' e5
    have : r3 = [] := List.length_eq_zero_iff.1 (by omega)
    subst this
    exact uv_goto (n := 0) (Int.le_refl _) e5 (uv_no hb0 (uv_no hb1 (uv_no hb2 (uv_no hb3 (uv_nil _)))))
  intro hb3 hl3 σ4 hS4
  obtain ⟨b4, r4, rfl⟩ : ∃ b r, r3 = b :: r := by cases r3 with | nil => simp at hlen; omega | cons b r => exact ⟨b, r, rfl⟩
  refine uv_last (b := b4) hb rfl (by omega) hS4 ?_ ?_
  · intro hb4 σ' e2 e3
    refine uv_ret (v := b0.toNat % 128 + b1.toNat % 128 * 2 ^ 7 + b2.toNat % 128 * 2 ^ 14 + b3.toNat % 128 * 2 ^ 21 + b4.toNat * 2 ^ 28) (k := 5) e2 e3 ?_
    have hb4' : b4.toNat < 128 := by omega
    have hb4'' : ¬ 15 < b4.toNat := by omega
    simp only [uvR, hb0, hb1, hb2, hb3, hb4', hb4'', if_true, if_false, and_false]; simp; omega
  · intro hb4 σ'
    have hfail : uvR 5 (b0 :: b1 :: b2 :: b3 :: b4 :: r4) = none := by
      refine uv_no hb0 (uv_no hb1 (uv_no hb2 (uv_no hb3 ?_)))
      by_cases hb5 : b4.toNat < 128
      · simp only [uvR, hb5, if_true]; simp; omega
      · simp only [uvR, hb5, if_false]
    rw [wpC_seq, wpC_blk]
    refine wpR_step (v := .int .i64 (-5)) rfl ?_
    refine wpR_done ?_
    exact uv_label (n := -5) rfl fun _ e2 e3 => uv_none (by omega) e2 e3 hfail
end
end Go.Msk
