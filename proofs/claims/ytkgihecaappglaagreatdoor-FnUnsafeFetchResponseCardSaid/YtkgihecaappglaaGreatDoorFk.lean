/- A small language of resolved operations, and what the generic and the generated functions do in it (part 11). -/
import Derived.Test.YtkgihecaappglaaGreatDoorFj

namespace Go.Msk
open Go.RowKit
set_option maxRecDepth 100000
def GotAt (P : Program) (f : FuncId) (t : TR) : Prop :=
  ∀ (N : Nat) (w : World) (cs : List Value), N ≤ w.heap.size → RepT (fun b => b < N) w t cs →
    Calls P f [.agg cs.toArray].toArray w fun e w' => ∃ cs', e = .returned (.agg cs'.toArray) ∧ RepT (fun b => b < N ∨ w.heap.size ≤ b) w' t cs' ∧ Mod [] w w'
structure LRaw2 (w : World) (n0 : Nat) (lv : Value) (css : List (List Value)) : Prop where
  two : ∀ cs ∈ css, cs.length = 2
  sl : (lv = .slice none 0 0 ∧ css = []) ∨ ∃ BA cap rest, lv = .slice (some ⟨BA, 0, none⟩) css.length cap ∧ css.length ≤ cap ∧ n0 ≤ BA ∧ Blk w BA (css.flatten ++ rest) ∧ rest.length = (cap - css.length) * 2
section
variable {P : Program} {F : Nat → Nat}
attribute [local simp] bnd wpC wpR RI.wp gOk RK.run thenC inBlockC updo upd ev args0 postC rvals RV.val tup_one isShift
structure GS (w3 w : World) (Ob : Nat) (n : Int) (sv lv uv : Value) (null : Bool) (N : Nat) (ts : List TR) (tcs : List (List Value)) : Prop where
  ob : Blk w Ob [.int .i64 n, sv, .bool null, lv, uv]
  raw : LRaw w w3.heap.size lv tcs
  rep : RepTL (fun b => b < N ∨ (w3.heap.size ≤ b ∧ own lv ≠ some b)) w ts tcs
  mod : Mod [Ob] w3 w
  lob : Ob < w3.heap.size
  nob : N ≤ Ob
theorem GS.same {w3 w w' : World} {Ob : Nat} {n : Int} {sv lv uv : Value} {null : Bool} {N : Nat} {ts : List TR} {tcs : List (List Value)} (h : GS w3 w Ob n sv lv uv null N ts tcs) (hm : Mod [] w w') : GS w3 w' Ob n sv lv uv null N ts tcs :=
  ⟨h.ob.mod hm (by simp), h.raw.mod hm (by simp), h.rep.mod hm (by simp) (fun _ _ h => h), h.mod.trans hm.nil, h.lob, h.nob⟩
theorem GS.step {w3 w wr : World} {Ob : Nat} {n : Int} {sv lv uv : Value} {null : Bool} {N : Nat} {ts : List TR} {tcs : List (List Value)} {t : TR} {es : List Value} {sb : Nat} {σ : Sl} {x y a : Operand} {d1 d2 : Nat} {Q : Sl → World → Prop} (h : GS w3 w Ob n sv lv uv null N ts tcs)
    (hx : ev σ x = lv) (hy : ev σ y = .slice (some ⟨sb, 0, none⟩) 1 1) (hsb : Blk w sb es) (ht : RepT (fun b => b < N ∨ wr.heap.size ≤ b) w t es) (hlen : tcs.length ≤ 2147483647)
    (hwr : ∀ b, own lv = some b → b < wr.heap.size) (hwr3 : w3.heap.size ≤ wr.heap.size) (ha : ∀ v, ev (upd σ d1 v) a = .pointer (some ⟨Ob, 0, none⟩)) (hd : d1 ≠ d2)
    (hQ : ∀ w' lv', GS w3 w' Ob n sv lv' uv null N (ts ++ [t]) (tcs ++ [es]) → Q (upd (upd σ d1 lv') d2 (.pointer (some ⟨Ob, 3, none⟩))) w') :
    wpR P [⟨some d1, .append x y 5 88, none⟩, ⟨some d2, .fad a 3, none⟩, ⟨none, .st (.tmp d2) 1 (.tmp d1), none⟩] σ w Q := by
  have hlob := h.lob
  have hnob := h.nob
  refine wpR_run ?_
  refine append_tree hx h.raw h.mod.size hy hsb ht.five ht.oneCell hlen fun lv' w1 hraw1 hown => ?_
  refine wpR_step (v := .pointer (some ⟨Ob, 3, none⟩)) (by
    show (RK.fad a 3).val? (upd σ d1 lv') w1 = _
    simp only [RK.val?, ha lv', Addr.add_mk, Nat.zero_add]) ?_
  obtain ⟨o1, o2⟩ := hraw1.one
  have hge : ∀ b, own lv = some b → w3.heap.size ≤ b := fun b hb => (h.raw.own hb).1
  have hge' : ∀ b, own lv' = some b → w3.heap.size ≤ b := fun b hb => (hraw1.own hb).1
  -- the world behind the append
  have key : Blk w1 Ob [.int .i64 n, sv, .bool null, lv, uv] ∧ Mod [Ob] w3 w1 ∧ RepTL (fun b => b < N ∨ (w3.heap.size ≤ b ∧ own lv' ≠ some b)) w1 (ts ++ [t]) (tcs ++ [es]) := by
    rcases hown with ⟨⟨ho, hm⟩, -⟩ | ⟨ho, hm⟩
    · have hS : ∀ b ∈ (own lv).toList, own lv = some b := fun b hb => by simpa using hb
      refine ⟨h.ob.mod hm (fun hc => by have := hge _ (hS _ hc); omega), ?_, (h.rep.mod hm (fun b hb hc => ?_) (fun b _ hb => by rw [ho]; exact hb)).append (.cons (ht.mod hm (fun b hb hc => ?_) fun b _ hb => ?_) .nil)⟩
      · refine ⟨hm.os.trans h.mod.os, hm.tape.trans h.mod.tape, hm.output.trans h.mod.output, Nat.le_trans h.mod.size hm.size, fun k hk hn => ?_⟩
        rw [hm.block k (Nat.lt_of_lt_of_le hk h.mod.size) (fun hc => by have := hge _ (hS _ hc); omega)]
        exact h.mod.block k hk hn
      · have := hge _ (hS _ hb)
        rcases hc with hc | hc
        · omega
        · exact hc.2 (hS b hb)
      · have := hge _ (hS _ hb); have := hwr _ (hS _ hb)
        rcases hc with hc | hc <;> omega
      · rcases hb with hb | hb
        · exact .inl hb
        · refine .inr ⟨by omega, fun e => ?_⟩
          rw [ho] at e
          have := hwr _ e; omega
    · refine ⟨h.ob.mod hm (by simp), h.mod.trans hm.nil, (h.rep.mod hm (by simp) fun b hlt hb => ?_).append (.cons (ht.mod hm (by simp) fun b hlt hb => ?_) .nil)⟩
      · rcases hb with hb | hb
        · exact .inl hb
        · exact .inr ⟨hb.1, fun e => by rw [ho] at e; simp only [Option.some.injEq] at e; omega⟩
      · rcases hb with hb | hb
        · exact .inl hb
        · exact .inr ⟨by omega, fun e => by rw [ho] at e; simp only [Option.some.injEq] at e; omega⟩
  obtain ⟨k1, k2, k3⟩ := key
  have hput : Mod [Ob] w1 (putCells w1 ⟨Ob, 3, none⟩ 0 [lv']) := Mod.put (by simp)
  have hp := k1.put (o := 3) (vs := [lv']) (by simp)
  have e1 : splice [Value.int .i64 n, sv, .bool null, lv, uv] 3 [lv'] = [.int .i64 n, sv, .bool null, lv', uv] := by simp [splice]
  rw [e1] at hp
  have s1 : (updo (updo σ (some d1) lv') (some d2) (.pointer (some ⟨Ob, 3, none⟩))) d1 = lv' := by simp only [updo, upd, hd, if_false, if_true]
  have s2 : (updo (updo σ (some d1) lv') (some d2) (.pointer (some ⟨Ob, 3, none⟩))) d2 = .pointer (some ⟨Ob, 3, none⟩) := by simp only [updo, upd, if_true]
  refine wpR_run ?_
  simp only [RK.run, ev, s1, s2, o1]
  refine ⟨rfl, stOk_one k1 (by simp) o2, ?_⟩
  exact hQ _ lv' ⟨hp, hraw1.mod hput (fun b hb => by have := hge' b hb; simp; omega), k3.mod hput (fun b hb hc => by
    simp only [List.mem_singleton] at hb
    rcases hc with hc | hc <;> omega) (fun _ _ h => h), k2.trans hput, hlob, hnob⟩
theorem SlC.flat {ok : Nat → Prop} {w : World} {v : Value} {n sz j : Nat} {css : List (List Value)} {cs : List Value} (h : SlC ok w v n css.flatten) (hn : n = css.length) (hsz : ∀ c ∈ css, c.length = sz) (hj : css[j]? = some cs) :
    ∃ a c, v = .slice (some a) n c ∧ j < n ∧ cellsAt w (a.add (j * sz)) 0 sz = some cs := by
  have hjl : j < css.length := by
    rcases Nat.lt_or_ge j css.length with h | h
    · exact h
    · rw [List.getElem?_eq_none h] at hj; simp at hj
  obtain ⟨base, cap, rfl, h2, h3, h4⟩ := h
  cases base with
  | none => have := h3 rfl; omega
  | some a =>
    obtain ⟨-, -, hc⟩ := h4 a rfl (by omega)
    refine ⟨a, cap, rfl, by omega, ?_⟩
    have := flat_cells hc hsz hj
    rw [Addr.add_of hc.1]
    exact cellsAt_of' this (hsz _ (List.mem_of_getElem? hj))
theorem SlC.pair {ok : Nat → Prop} {w : World} {v : Value} {n j : Nat} {css : List (List Value)} {a b : Value} (h : SlC ok w v n css.flatten) (hn : n = css.length) (hsz : ∀ c ∈ css, c.length = 2) (hj : css[j]? = some [a, b]) :
    ∃ p c, v = .slice (some p) n c ∧ j < n ∧ w.cell? ((p.add (j * 2)).add 0) = some a ∧ w.cell? ((p.add (j * 2)).add 1) = some b := by
  have hjl : j < css.length := by
    rcases Nat.lt_or_ge j css.length with h | h
    · exact h
    · rw [List.getElem?_eq_none h] at hj; simp at hj
  obtain ⟨base, cap, rfl, h2, h3, h4⟩ := h
  cases base with
  | none => have := h3 rfl; omega
  | some p =>
    obtain ⟨-, -, hc⟩ := h4 p rfl (by omega)
    have hcl := flat_cells hc hsz hj
    refine ⟨p, cap, rfl, by omega, ?_, ?_⟩
    · rw [Addr.add_of hc.1]; exact hcl.nth (i := 0) rfl
    · rw [Addr.add_of hc.1]; exact hcl.nth (i := 1) rfl
theorem RepTL.nth {ok : Nat → Prop} {w : World} {l : List TR} {css : List (List Value)} (h : RepTL ok w l css) {j : Nat} {t : TR} (ht : l[j]? = some t) : ∃ cs, css[j]? = some cs ∧ RepT ok w t cs := by
  induction l generalizing css j with
  | nil => simp at ht
  | cons a l ih =>
    cases h with
    | cons h1 h2 =>
      cases j with
      | zero => simp only [List.getElem?_cons_zero, Option.some.injEq] at ht; subst ht; exact ⟨_, rfl, h1⟩
      | succ j => simp only [List.getElem?_cons_succ] at ht ⊢; exact ih h2 ht
theorem got_loop1 {N : Nat} {w w3 : World} {Pb b2 Ob : Nat} {n : Int} {sv lv0 : Value} {null : Bool} {l : List TR} {css : List (List Value)} {σ : Sl} {Q : Exit → Sl → World → Prop} (hf : ∀ t ∈ l, GotAt P (F lGot) t)
    (hw : Mod [] w w3) (hN : N ≤ w.heap.size) (hl : SlC (fun b => b < N) w lv0 l.length css.flatten) (hr : RepTL (fun b => b < N) w l css) (hlen : l.length ≤ 2147483647)
    (hob : Blk w3 Ob [.int .i64 n, sv, .bool null, .slice none 0 0, .slice none 0 0]) (hoN : N ≤ Ob)
    (h1 : σ 1 = .pointer (some ⟨Pb, 0, none⟩)) (h2 : σ 2 = .pointer (some ⟨b2, 0, none⟩)) (h3 : σ 3 = .pointer (some ⟨Ob, 0, none⟩)) (hpb : w3.cell? ⟨Pb, 3, none⟩ = some lv0)
    (hQ : ∀ σ' w' lv tcs, σ' 1 = .pointer (some ⟨Pb, 0, none⟩) → σ' 2 = .pointer (some ⟨b2, 0, none⟩) → σ' 3 = .pointer (some ⟨Ob, 0, none⟩) → GS w3 w' Ob n sv lv (.slice none 0 0) null N l tcs → tcs.length = l.length → Q .normal σ' w') :
    wpC P (.seq (.blk [⟨some 15, .fad (.tmp 1) 3, none⟩, ⟨some 16, .ld (.tmp 15), none⟩, ⟨some 17, .len (.tmp 16), none⟩, ⟨some 18, .mv (.const (.int .i64 0)), none⟩])
      (.block 0 (.loop (.seq (.blk [⟨some 19, .bin .lss (.tmp 18) (.tmp 17), none⟩]) (.seq (.cond (.tmp 19) .skip (.exit 0))
        (.seq (.block 1 (.seq (.blk [⟨some 20, .iad (.tmp 16) (.tmp 18) 5, none⟩, ⟨some 21, .ldn (.tmp 20) 5, none⟩, ⟨some 5, .alloc tzero, none⟩, ⟨none, .st (.tmp 5) 5 (.tmp 21), none⟩])
            (.drw [⟨⟨some 22, .fad (.tmp 3) 3, none⟩, false, []⟩, ⟨⟨some 23, .ld (.tmp 22), none⟩, false, []⟩, ⟨⟨some 24, .ldn (.tmp 5) 5, none⟩, false, []⟩, ⟨⟨some 25, .call (F lGot) [.tmp 24], none⟩, true, []⟩,
                ⟨⟨some 26, .bslice 1 tzero [(0, 5, .tmp 25)], none⟩, true, [3]⟩]
              [⟨some 27, .append (.tmp 23) (.tmp 26) 5 88, none⟩, ⟨some 28, .fad (.tmp 3) 3, none⟩, ⟨none, .st (.tmp 28) 1 (.tmp 27), none⟩])))
          (.blk [⟨some 29, .bin .add (.tmp 18) (.const (.int .i64 1)), none⟩, ⟨some 18, .mv (.tmp 29), none⟩])))))))
      Q σ w3 := by
  obtain ⟨lb, lc, elv⟩ := hl.shape
  have hol := hob.lt
  rw [wpC_seq, wpC_blk]
  refine wpR_step (v := .pointer (some ⟨Pb, 3, none⟩)) (by simp [RK.val?, h1, Addr.add_mk]) ?_
  refine wpR_step (v := lv0) (by simp [RK.val?, hpb]) ?_
  refine wpR_step (v := .int .i64 l.length) (by simp [RK.val?, elv]) ?_
  refine wpR_step (v := .int .i64 0) (by simp [RK.val?]) ?_
  simp only [wpR, thenC]
  rw [wpC_block, wpC_loop]
  refine ⟨fun σ1 w1 => ∃ j lv tcs, j ≤ l.length ∧ σ1 1 = .pointer (some ⟨Pb, 0, none⟩) ∧ σ1 2 = .pointer (some ⟨b2, 0, none⟩) ∧ σ1 3 = .pointer (some ⟨Ob, 0, none⟩) ∧ σ1 16 = lv0 ∧ σ1 17 = .int .i64 l.length ∧ σ1 18 = .int .i64 j ∧
      GS w3 w1 Ob n sv lv (.slice none 0 0) null N (l.take j) tcs ∧ tcs.length = j,
    fun σ1 _ => l.length - (match σ1 18 with | .int _ j => j.toNat | _ => 0), ⟨0, .slice none 0 0, [], Nat.zero_le _, by simp [h1], by simp [h2], by simp [h3], by simp, by simp, by simp, ⟨hob, ⟨by simp, .inl ⟨rfl, rfl⟩⟩, by simpa using .nil, Mod.refl _ _, hol, hoN⟩, rfl⟩, ?_⟩
  rintro σ1 w1 ⟨j, lv, tcs, hj, s1, s2, s3, s16, s17, s18, hgs, htl⟩
  rw [wpC_seq, wpC_blk]
  refine wpR_step (v := .bool (decide ((j : Int) < l.length))) (by simp [RK.val?, s17, s18, intBin]) ?_
  simp only [wpR, thenC]
  rw [wpC_seq]
  by_cases hlt : j < l.length
  · rw [wpC_cond_t (by simp [hlt]), wpC_skip]
    simp only [thenC]
    rw [wpC_seq, wpC_block, wpC_seq, wpC_blk]
    obtain ⟨tj, htj⟩ : ∃ t, l[j]? = some t := ⟨l[j], List.getElem?_eq_getElem hlt⟩
    have hmw : Mod [Ob] w w1 := hw.nil.trans hgs.mod
    have hNob : ∀ b ∈ [Ob], ¬ b < N := fun b hb => by simp only [List.mem_singleton] at hb; omega
    obtain ⟨cj, hcj, hrj⟩ := (hr.mod (ok' := fun b => b < N) hmw hNob fun _ _ h => h).nth htj
    obtain ⟨pa, pc, ep, -, hcells⟩ := (hl.mod (ok' := fun b => b < N) hmw hNob fun _ _ h => h).flat hr.length hr.five hcj
    refine wpR_step (v := .pointer (some (pa.add (j * 5)))) (by simp [RK.val?, s16, s18, ep, hlt]) ?_
    refine wpR_step (v := .agg cj.toArray) (by simp [RK.val?, hcells]) ?_
    refine wpR_run ?_
    intro Ty
    obtain ⟨q1, q2, q3⟩ := new_put w1 tzero cj Ty (by rw [hrj.five]; rfl) hrj.oneCell
    refine wpR_run ?_
    have ec : (Value.agg cj.toArray).cells = cj.toArray := rfl
    have ec' : (Value.agg cj.toArray).cells.toList = cj := by simp [Value.cells]
    simp only [RK.run, ev, updo, upd]
    simp only [if_true, show (21 : Nat) ≠ 5 by decide, if_false, ec']
    refine ⟨by rw [ec]; simp [hrj.five], q1, ?_⟩
    generalize hw4 : putCells (w1.alloc (.cells tzero.toArray Ty)) ⟨w1.heap.size, 0, none⟩ 0 cj = w4 at q2 q3
    simp only [wpR, thenC]
    -- the region
    have hgs4 := hgs.same q3
    have hrj4 := hrj.mod (ok' := fun b => b < N) q3 (by simp) fun _ _ h => h
    have hN4 : N ≤ w4.heap.size := Nat.le_trans hN (Nat.le_trans hmw.size q3.size)
    have sz4 : w3.heap.size ≤ w4.heap.size := Nat.le_trans hgs.mod.size q3.size
    show wpD P _ _ _ w4.drew _
    refine wpD_of_B (fun jj v w' => if jj = 3 then ∃ cs', v = .agg cs'.toArray ∧ RepT (fun b => b < N ∨ w4.heap.size ≤ b) w' tj cs' else ∃ sb cs', v = .slice (some ⟨sb, 0, none⟩) 1 1 ∧ Blk w' sb cs' ∧ RepT (fun b => b < N ∨ w4.heap.size ≤ b) w' tj cs') ?_ ?_
    · intro jj v w5 w6 h hm
      split at h
      · rename_i hjj; rw [if_pos hjj]
        obtain ⟨cs', g1, g2⟩ := h
        exact ⟨cs', g1, g2.mod hm (by simp) fun _ _ h => h⟩
      · rename_i hjj; rw [if_neg hjj]
        obtain ⟨sb, cs', g1, g2, g3⟩ := h
        exact ⟨sb, cs', g1, g2.mod hm (by simp), g3.mod hm (by simp) fun _ _ h => h⟩
    refine walkB_step (v := .pointer (some ⟨Ob, 3, none⟩)) (by simp [RK.val?, s3, Addr.add_mk]) ?_
    refine walkB_step (v := lv) (by simp [RK.val?]; exact hgs4.ob.cell 3) ?_
    refine walkB_step (v := .agg cj.toArray) (by
      have : cellsAt w4.drew ⟨w1.heap.size, 0, none⟩ 0 5 = some cj := cellsAt_of' (show Cells w4.drew _ _ from q2.cells) hrj.five
      simp [RK.val?, this]) ?_
    refine walkB_node (fun w5 hm5 _ => ?_) fun u hu => ?_
    · have hm45 : Mod [] w4 w5 := (Mod.drew _ _).trans hm5
      have := hf tj (List.mem_of_getElem? htj) N w5 cj (Nat.le_trans hN4 hm45.size) (hrj4.mod hm45 (by simp) fun _ _ h => h)
      simp only [RK.run, List.map_cons, List.map_nil, ev, updo, upd, if_true]
      refine this.mono ?_
      rintro e w6 ⟨cs', rfl, g1, g2⟩
      refine ⟨_, rfl, g2, ?_⟩
      exact ⟨cs', rfl, g1.mod (Mod.refl [] _) (by simp) fun b _ hb => hb.imp id fun h => Nat.le_trans hm45.size h⟩
    obtain ⟨wu, hu⟩ := hu
    obtain ⟨cu, rfl, hcu⟩ := hu
    refine walkB_node (fun w5 hm5 hkn => ?_) fun u2 hu2 => ?_
    · have h3 := hkn 3 (by simp) _ rfl rfl rfl 25 rfl
      dsimp only at h3
      rw [if_pos rfl] at h3
      simp only [updo, upd, if_true] at h3
      obtain ⟨cs', e3, h3⟩ := h3
      have : cu = cs' := by
        have := congrArg (fun v => match v with | Value.agg a => a.toList | _ => []) e3
        simpa using this
      subst this
      refine bslice_run (cs := cu) (n0 := 0) (by simp) h3.five (Nat.zero_le _) fun v w6 hbs hm6 => ?_
      obtain ⟨sb, cs', g1, g2, g3, g4, g5⟩ := hbs
      have : cs' = cu := by
        have := congrArg (fun v => match v with | Value.agg a => a.toList | _ => []) g5
        simpa using this
      subst this
      refine ⟨hm6, ?_⟩
      rw [if_neg (by omega)]
      exact ⟨sb, cs', g1, g3, h3.mod hm6 (by simp) fun _ _ h => h⟩
    simp only [walkB]
    intro w5 hm5 hkn
    have h4 := hkn 4 (by simp) _ rfl rfl rfl 26 rfl
    dsimp only at h4
    rw [if_neg (by omega)] at h4
    simp only [updo, upd, if_true] at h4
    obtain ⟨sb, es, rfl, hblk, htree⟩ := h4
    have hm45 : Mod [] w4 w5 := (Mod.drew _ _).trans hm5
    refine (hgs4.same hm45).step (wr := w4) (t := tj) (by simp) (by simp) hblk htree (by omega) (fun b hb => (hgs4.raw.own hb).2) sz4 (fun v => by simp [s3]) (by decide) fun w6 lv' hgs6 => ?_
    simp only [inBlockC, thenC]
    have hw : IntKind.i64.wrap ((j : Int) + 1) = ((j + 1 : Nat) : Int) := by
      simp only [IntKind.wrap, IntKind.bits, IntKind.signed]; simp; omega
    rw [wpC_blk]
    refine wpR_step (v := .int .i64 ((j + 1 : Nat) : Int)) (by simp [RK.val?, intBin, s18, hw]) ?_
    refine wpR_step (v := .int .i64 ((j + 1 : Nat) : Int)) (by simp [RK.val?]) ?_
    simp only [wpR, thenC]
    refine ⟨⟨j + 1, lv', tcs ++ [es], hlt, by simp [s1], by simp [s2], by simp [s3], by simp [s16], by simp [s17], by simp, ?_, by simp [htl]⟩, ?_⟩
    · rw [List.take_add_one, htj]; simpa using hgs6
    · simp [s18]; show l.length - (j + 1) < l.length - j; omega
  · rw [wpC_cond_f (by simp; omega)]
    have hje : j = l.length := by omega
    subst hje
    rw [List.take_length] at hgs
    simp only [wpC, inBlockC, thenC, if_true]
    exact hQ _ w1 lv tcs (by simp [s1]) (by simp [s2]) (by simp [s3]) hgs htl
end
end Go.Msk

namespace Go.Msk
open Go.RowKit
set_option maxRecDepth 100000
def ownB : Value → Option Nat
  | .slice (some a) _ _ => some a.block
  | _ => none
structure DRaw (w : World) (n0 : Nat) (v : Value) (l : List UInt8) : Prop where
  sl : (v = .slice none 0 0 ∧ l = []) ∨ ∃ B cap rest, v = .slice (some ⟨B, 0, none⟩) l.length cap ∧ l.length ≤ cap ∧ n0 ≤ B ∧ Blk w B (u8s l ++ rest) ∧ rest.length = cap - l.length
structure AppD (n0 : Nat) (w : World) (v : Value) (w' : World) (v' : Value) (l : List UInt8) : Prop where
  raw : DRaw w' n0 v' l
  mod : Mod (ownB v).toList w w'
  own : ∀ b, ownB v' = some b → ownB v = some b ∨ w.heap.size ≤ b
theorem AppD.trans {n0 : Nat} {w w1 w2 : World} {v v1 v2 : Value} {l1 l2 : List UInt8} (h : AppD n0 w v w1 v1 l1) (k : AppD n0 w1 v1 w2 v2 l2) : AppD n0 w v w2 v2 l2 := by
  refine ⟨k.raw, ?_, fun b hb => ?_⟩
  · cases ho : ownB v1 with
    | none => have := k.mod; rw [ho] at this; exact h.mod.trans this.nil
    | some b =>
      have km := k.mod
      rw [ho] at km
      rcases h.own b ho with h1 | h1
      · have hm := h.mod
        rw [h1] at hm ⊢
        exact hm.trans km
      · refine Mod.drop (b := b) (S := (ownB v).toList) ?_ h1
        exact (h.mod.mono (by intro x hx; exact List.mem_cons_of_mem _ hx)).trans (km.mono (by simp))
  · rcases k.own b hb with h1 | h1
    · exact h.own b h1
    · exact .inr (Nat.le_trans h.mod.size h1)
theorem AppD.pre {n0 : Nat} {w w1 w2 : World} {v v1 : Value} {l : List UInt8} (hm : Mod [] w w1) (h : AppD n0 w1 v w2 v1 l) : AppD n0 w v w2 v1 l :=
  ⟨h.raw, hm.nil.trans h.mod, fun b hb => (h.own b hb).imp id fun h => Nat.le_trans hm.size h⟩
section
variable {P : Program}
end
end Go.Msk

namespace Go.Msk
open Go.RowKit
set_option maxRecDepth 100000
section
variable {P : Program}
theorem go1 {k : RK} {d : Option Nat} {g : Option (Nat × Bool)} {r : List RI} {σ : Sl} {w : World} {v : Value} {Q : Sl → World → Prop} (hg : gOk g σ = true) (hv : k.val? σ w = some v) (h : wpR P r (updo σ d v) w Q) : wpR P (⟨d, k, g⟩ :: r) σ w Q := by
  simp only [wpR, RI.wp, hg, if_true]
  exact run_of_val hv h
theorem goC {k : RK} {d : Option Nat} {g : Option (Nat × Bool)} {r : List RI} {σ : Sl} {w : World} {Q : Sl → World → Prop} (hg : gOk g σ = true) (h : k.run P σ w fun v w' => wpR P r (updo σ d v) w' Q) : wpR P (⟨d, k, g⟩ :: r) σ w Q := by
  simp only [wpR, RI.wp, hg, if_true]; exact h
theorem goAlloc {z : List Value} {d : Option Nat} {r : List RI} {σ : Sl} {w : World} {Q : Sl → World → Prop}
    (h : ∀ w', Blk w' w.heap.size z → Mod [] w w' → wpR P r (updo σ d (.pointer (some ⟨w.heap.size, 0, none⟩))) w' Q) : wpR P (⟨d, .alloc z, none⟩ :: r) σ w Q := by
  refine wpR_run ?_
  intro T
  exact h _ (Blk.new w _ T) (Mod.alloc _ _ _)
theorem goSt {a x : Operand} {n b : Nat} {r : List RI} {σ : Sl} {w : World} {v : Value} {cs : List Value} {Q : Sl → World → Prop} (ha : ev σ a = .pointer (some ⟨b, 0, none⟩)) (hx : ev σ x = v) (hb : Blk w b cs) (hn : v.cells.size = n) (hl : cs.length = n)
    (h1 : ∀ y ∈ v.cells.toList, y.oneCell' = true) (h : ∀ w', Blk w' b v.cells.toList → Mod [b] w w' → wpR P r σ w' Q) : wpR P (⟨none, .st a n x, none⟩ :: r) σ w Q := by
  subst hx
  refine wpR_run ?_
  have hl' : (ev σ x).cells.toList.length = n := by simpa using hn
  simp only [RK.run, ha]
  refine ⟨hn, stOk_many hb (by omega) h1, h _ ?_ (Mod.put (by simp))⟩
  have := hb.put (o := 0) (vs := (ev σ x).cells.toList) (by omega)
  have e : splice cs 0 (ev σ x).cells.toList = (ev σ x).cells.toList := by simp [splice, hl, hl']
  rwa [e] at this
theorem goCall {f : FuncId} {args : List Operand} {d : Option Nat} {g : Option (Nat × Bool)} {r : List RI} {σ : Sl} {w : World} {Q : Sl → World → Prop} {R : Ending → World → Prop} {vs : List Value} (hg : gOk g σ = true) (ha : args.map (ev σ) = vs) (hc : Calls P f vs.toArray w R)
    (hk : ∀ e w', R e w' → ∃ v, e = .returned v ∧ wpR P r (updo σ d v) w' Q) : wpR P (⟨d, .call f args, g⟩ :: r) σ w Q := by
  subst ha
  refine goC hg ?_
  exact hc.mono fun e w' he => hk e w' he
theorem goEnd {Q : Sl → World → Prop} {σ : Sl} {w : World} (h : Q σ w) : wpR P [] σ w Q := h
theorem known_get {l : List DI} {Φ : Nat → Value → World → Prop} {js : List Nat} {σ : Sl} {w : World} {j t : Nat} {d : DI} (h : known l Φ js σ w) (hj : j ∈ js) (hd : l[j]? = some d) (hn : d.node = true) (hg : gOk d.ri.guard σ = true) (ht : d.ri.dst = some t) : Φ j (σ t) w :=
  h j hj d hd hn hg t ht
theorem i64_nat {n : Nat} (h : n < 9223372036854775808) : IntKind.i64.wrap (n : Int) = n := by
  simp only [IntKind.wrap, IntKind.bits, IntKind.signed]
  simp
  omega
end
end Go.Msk

namespace Go.Msk
open Go.RowKit
set_option maxRecDepth 100000
section
variable {P : Program} {l : List DI} {R : World → World → Prop} {Φ : Nat → Value → World → Prop} {N : Nat → World → Prop} {w0 : World} {E : Sl → Prop} {n : Nat} {k : RK} {d : Option Nat} {ds : List Nat} {r : List DI} {σ : Sl}
theorem wn_step {v : Value} (hv : ∀ w, R w0 w → k.val? σ w = some v) (h : walk P l R Φ N w0 E (n + 1) r (updo σ d v)) : walk P l R Φ N w0 E n (⟨⟨d, k, none⟩, false, ds⟩ :: r) σ := by
  simp only [walk, gOk, if_true, Bool.false_eq_true, if_false]
  exact ⟨v, fun w hw _ => hv w hw, h⟩
theorem wn_node (hn : ∀ w, R w0 w → N n w → known l Φ ds σ w → k.run P σ w fun v w' => R w w' ∧ Φ n v w' ∧ ∀ j, j ≠ n → N j w → N j w') (h : ∀ v, (∃ w, Φ n v w) → walk P l R Φ N w0 E (n + 1) r (updo σ d v)) : walk P l R Φ N w0 E n (⟨⟨d, k, none⟩, true, ds⟩ :: r) σ := by
  simp only [walk, gOk, if_true]
  exact ⟨fun w h1 h0 h2 => hn w h1 h0 h2, h⟩
end
def SetC (P : Program) (f : FuncId) : Prop := ∀ {w : World} {tb k o : Nat} {pre post : List Value} {mv v : Value} {m : List (Nat × List UInt8)} {l : List UInt8} {ok : Nat → Prop}, Blk w tb (pre ++ mv :: post) → pre.length = o → TagM ok w mv m → k < 4294967296 → SlC ok w v l.length (u8s l) → ¬ ok tb → (∀ r, mv = .map (some r) → ¬ ok r ∧ r ≠ tb) →
    Calls P f [.pointer (some ⟨tb, o, none⟩), .int .u32 k, v].toArray w fun e w' => e = .returned (.tuple #[]) ∧ ∃ r, Blk w' tb (pre ++ .map (some r) :: post) ∧ MapRep (fun b => ok b ∧ b < w.heap.size) w' r (putTag m k l) ∧ r ≠ tb ∧
      ((mv = .map (some r) ∧ Mod [tb, r] w w') ∨ (mv = .map none ∧ w.heap.size ≤ r ∧ Mod [tb] w w'))
theorem set_of {P : Program} {F : Nat → Nat} (hm : P.follows .mixedOrders = true) (h : liftF P (F tSet) = some (ir_tSet F)) : SetC P (F tSet) := fun h1 h2 h3 h4 h5 h6 h7 => tSetO_call hm h h1 h2 h3 h4 h5 h6 h7
theorem TagM.mod {ok ok' : Nat → Prop} {S : List Nat} {w w' : World} {v : Value} {m : List (Nat × List UInt8)} (h : TagM ok w v m) (hm : Mod S w w') (hr : ∀ r, v = .map (some r) → r ∉ S) (hS : ∀ b ∈ S, ¬ ok b) (ho : ∀ b, b < w.heap.size → ok b → ok' b) : TagM ok' w' v m := by
  rcases h with ⟨h1, h2⟩ | ⟨r, h1, h2⟩
  · exact .inl ⟨h1, h2⟩
  · exact .inr ⟨r, h1, h2.mod hm (hr r h1) hS ho⟩
def ownM (v : Value) : List Nat := match v with | .map (some r) => [r] | _ => []
theorem u8s_inj : ∀ {a b : List UInt8}, u8s a = u8s b → a = b
  | [], [], _ => rfl
  | [], _ :: _, h => by simp [u8s] at h
  | _ :: _, [], h => by simp [u8s] at h
  | x :: a, y :: b, h => by
    simp only [u8s, List.map_cons, List.cons.injEq, Value.int.injEq, true_and] at h
    obtain ⟨h1, h2⟩ := h
    have e : x = y := by
      apply UInt8.toNat_inj.1; omega
    rw [e, u8s_inj h2]
theorem IsRd.det {S S' : List Nat} {w : World} {rb : Nat} {s s' : RS} (h : IsRd S w rb s) (h' : IsRd S' w rb s') : s = s' := by
  obtain ⟨b, l, c, p1, p2, p3, p4⟩ := h.ex
  obtain ⟨b', l', c', q1, q2, q3, q4⟩ := h'.ex
  have x1 := p1.cell 0
  have y1 := q1.cell 0
  rw [x1] at y1
  have x2 := p1.cell 1
  have y2 := q1.cell 1
  rw [x2] at y2
  have e1 : b = b' ∧ l = l' ∧ c = c' := by simpa using y1
  have e2 : s.bad = s'.bad := by simpa using y2
  obtain ⟨rfl, rfl, rfl⟩ := e1
  obtain ⟨src, bad, isnil⟩ := s
  obtain ⟨src', bad', isnil'⟩ := s'
  simp only at e2 p3 q3 p2 q2
  have e3 : isnil = isnil' := by rw [← p3, ← q3]
  have e4 : src = src' := by
    have l1 := p2.hlen
    have l2 := q2.hlen
    cases b with
    | none =>
      have := p2.hnone rfl
      have := p2.hcap
      have a1 : src = [] := List.eq_nil_of_length_eq_zero (by omega)
      have a2 : src' = [] := List.eq_nil_of_length_eq_zero (by omega)
      rw [a1, a2]
    | some a =>
      have c1 := cellsAt_of' (p2.hcells a rfl) (n := l) (by rw [u8s_length]; exact l1.symm)
      have c2 := cellsAt_of' (q2.hcells a rfl) (n := l) (by rw [u8s_length]; exact l2.symm)
      rw [c1] at c2
      exact u8s_inj (Option.some.inj c2)
  rw [e2, e3, e4]
theorem ownM_some {mv : Value} {b : Nat} (h : b ∈ ownM mv) : mv = .map (some b) := by
  cases mv with
  | map q =>
    cases q with
    | none => simp [ownM] at h
    | some r => simp only [ownM, List.mem_singleton] at h; rw [h]
  | _ => simp [ownM] at h
def SpanC (P : Program) (f : FuncId) : Prop := ∀ (S : List Nat) (w : World) (rb : Nat) (s : RS) (l : Int), IsRd S w rb s →
  Calls P f [.pointer (some ⟨rb, 0, none⟩), .int .i64 l].toArray w fun e w' => ∃ v, e = .returned v ∧ OctX (rb :: S) w' v (rdSpan l s).1 ∧ IsRd S w' rb (rdSpan l s).2 ∧ Mod [rb] w w'
section
variable {P : Program}
end
structure KtB (w0 w : World) (rb b0 : Nat) (S X : List Nat) (cl : Nat) (pre post : List Value) (gs : List GV) (css : List (List Value)) (mv : Value) (m : List (Nat × List UInt8)) : Prop where
  blk : Blk w b0 (pre ++ (css.flatten ++ (mv :: post)))
  fld : RepL (rb :: (ownM mv ++ S)) w gs css
  tag : TagM (fun b => b ∉ rb :: (ownM mv ++ (X ++ S))) w mv m
  nr : ∀ r, mv = .map (some r) → w0.heap.size ≤ r ∧ r ∉ X
  nx : ∀ x ∈ X, w0.heap.size ≤ x ∧ x < w.heap.size
  xb : ∀ x ∈ X, ∃ cells, Blk w x cells ∧ cells.length = cl
  mod : Mod [rb, b0] w0 w
  sb : b0 ∈ S
  sl : ∀ y ∈ S, y < w0.heap.size
  lr : rb < w0.heap.size
  ne : rb ∉ S
theorem KtB.own {w0 w : World} {rb b0 : Nat} {S X : List Nat} {cl : Nat} {pre post : List Value} {gs : List GV} {css : List (List Value)} {mv : Value} {m : List (Nat × List UInt8)} (h : KtB w0 w rb b0 S X cl pre post gs css mv m) {b : Nat} (hb : b ∈ ownM mv) : w0.heap.size ≤ b := (h.nr b (ownM_some hb)).1
theorem KtB.rd {w0 w w' : World} {rb b0 : Nat} {S X : List Nat} {cl : Nat} {pre post : List Value} {gs : List GV} {css : List (List Value)} {mv : Value} {m : List (Nat × List UInt8)} (h : KtB w0 w rb b0 S X cl pre post gs css mv m) (hm : Mod [rb] w w') : KtB w0 w' rb b0 S X cl pre post gs css mv m := by
  have hne : b0 ≠ rb := fun e => h.ne (e ▸ h.sb)
  refine ⟨h.blk.mod hm (by simpa using hne), h.fld.mod hm (by simp), ?_, h.nr, fun x hx => ⟨(h.nx x hx).1, Nat.lt_of_lt_of_le (h.nx x hx).2 hm.size⟩, fun x hx => (h.xb x hx).imp fun cs k => ⟨k.1.mod hm (by have := (h.nx x hx).1; have := h.lr; simp; omega), k.2⟩, h.mod.trans (hm.mono (by simp)), h.sb, h.sl, h.lr, h.ne⟩
  rcases h.tag with ⟨e1, e2⟩ | ⟨r, e1, e2⟩
  · exact .inl ⟨e1, e2⟩
  · exact .inr ⟨r, e1, e2.mod hm (by have := (h.nr r e1).1; have := h.lr; simp; omega) (by simp) fun _ _ h => h⟩
theorem KtB.same {w0 w w' : World} {rb b0 : Nat} {S X : List Nat} {cl : Nat} {pre post : List Value} {gs : List GV} {css : List (List Value)} {mv : Value} {m : List (Nat × List UInt8)} (h : KtB w0 w rb b0 S X cl pre post gs css mv m) (hm : Mod [] w w') : KtB w0 w' rb b0 S X cl pre post gs css mv m := h.rd hm.nil
section
variable {P : Program}
attribute [local simp] gOk updo upd ev RK.val? isShift intBin Addr.add_mk args0 Value.cells undef
theorem KtB.set {set : FuncId} (hset : SetC P set) {w0 w : World} {rb b0 k : Nat} {S X : List Nat} {cl : Nat} {pre post : List Value} {gs : List GV} {css : List (List Value)} {mv v : Value} {m : List (Nat × List UInt8)} {bts : List UInt8} {s : RS} (h : KtB w0 w rb b0 S X cl pre post gs css mv m) (hr : IsRd (ownM mv ++ (X ++ S)) w rb s) (hk : k < 4294967296)
    (hv : SlC (fun b => b ∉ rb :: (ownM mv ++ (X ++ S))) w v bts.length (u8s bts)) :
    Calls P set [.pointer (some ⟨b0, pre.length + css.flatten.length, none⟩), .int .u32 k, v].toArray w fun e w' => e = .returned (.tuple #[]) ∧ Mod (b0 :: ownM mv) w w' ∧ ∃ mv', (mv' = mv ∨ mv = .map none) ∧ KtB w0 w' rb b0 S X cl pre post gs css mv' (putTag m k bts) ∧ IsRd (ownM mv' ++ (X ++ S)) w' rb s := by
  have hb : Blk w b0 ((pre ++ css.flatten) ++ mv :: post) := by simpa [List.append_assoc] using h.blk
  have hS := h.mod.size
  have hne : rb ≠ b0 := fun e => h.ne (e ▸ h.sb)
  have hbS := h.sl b0 h.sb
  refine (hset hb (by simp) h.tag hk hv (by simp [h.sb]) fun r hr => ⟨by subst hr; simp [ownM], by have := (h.nr r hr).1; omega⟩).mono ?_
  rintro e w' ⟨rfl, r, h1, h2, h3, h4⟩
  have h1 : Blk w' b0 (pre ++ (css.flatten ++ (.map (some r) :: post))) := by simpa [List.append_assoc] using h1
  rcases h4 with ⟨e1, h4⟩ | ⟨e1, h4, h5⟩
  · subst e1
    have hr0 := (h.nr r rfl).1
    have hrr : rb ≠ r := by have := h.lr; omega
    have hsub : ∀ x ∈ [b0, r], x ∈ ownM (.map (some r)) ++ S := by
      intro x hx
      simp only [List.mem_cons, List.not_mem_nil, or_false] at hx
      rcases hx with rfl | rfl
      · exact List.mem_append_right _ h.sb
      · exact List.mem_append_left _ (by simp [ownM])
    refine ⟨rfl, h4, _, .inl rfl, ⟨h1, h.fld.mod h4 (fun x hx => List.mem_cons_of_mem _ (hsub x hx)), .inr ⟨r, rfl, h2.mod (Mod.refl [] _) (by simp) (by simp) fun b _ hb => hb.1⟩, h.nr, fun x hx => ⟨(h.nx x hx).1, Nat.lt_of_lt_of_le (h.nx x hx).2 h4.size⟩, fun x hx => (h.xb x hx).imp fun cs k => ⟨k.1.mod h4 (by have := (h.nx x hx).1; have h9 : x ≠ r := fun e => (h.nr r rfl).2 (e ▸ hx); simp [h9]; omega), k.2⟩, ?_, h.sb, h.sl, h.lr, h.ne⟩, ?_⟩
    · refine Mod.drop (b := r) (S := [rb, b0]) ?_ hr0
      exact (h.mod.mono (by simp)).trans (h4.mono (by simp))
    · exact hr.mod h4 (by simp [hne, hrr]) fun x hx => by
        rcases List.mem_append.1 (hsub x hx) with h | h
        · exact List.mem_append_left _ h
        · exact List.mem_append_right _ (List.mem_append_right _ h)
  · subst e1
    have hb0 := h.blk.lt
    have hlr := Nat.lt_of_lt_of_le h.lr hS
    refine ⟨rfl, by simpa [ownM] using h5, _, .inr rfl, ⟨h1, h.fld.fresh h5 (by simp [h.sb]) (fun x hx => ?_), .inr ⟨r, rfl, h2.mod (Mod.refl [] _) (by simp) (by simp) fun b _ hb => ?_⟩, fun r' e => by cases e; exact ⟨by omega, fun hx => by have := (h.nx _ hx).2; omega⟩, fun x hx => ⟨(h.nx x hx).1, Nat.lt_of_lt_of_le (h.nx x hx).2 h5.size⟩, fun x hx => (h.xb x hx).imp fun cs k => ⟨k.1.mod h5 (by have := (h.nx x hx).1; simp; omega), k.2⟩, h.mod.trans (h5.mono (by simp)), h.sb, h.sl, h.lr, h.ne⟩, ?_⟩
    · simp only [ownM, List.mem_cons, List.mem_append, List.not_mem_nil, or_false, List.nil_append] at hx ⊢
      rcases hx with rfl | rfl | hx
      · exact .inl (.inl rfl)
      · exact .inr h4
      · exact .inl (.inr hx)
    · obtain ⟨hb1, hb2⟩ := hb
      simp only [ownM, List.mem_cons, List.mem_append, List.not_mem_nil, or_false, not_or, List.nil_append] at hb1 ⊢
      exact ⟨hb1.1, by omega, hb1.2⟩
    · obtain ⟨base, len, cap, p1, p2, p3, p4⟩ := hr.ex
      refine ⟨⟨base, len, cap, p1.mod h5 (by simpa using hne), p2.mod h5 (fun a ha hc => (p4 a ha).2.1 (by simp only [List.mem_singleton] at hc; rw [hc]; simp [ownM, h.sb])), p3, fun a ha => ⟨(p4 a ha).1, ?_, Nat.lt_of_lt_of_le (p4 a ha).2.2 h5.size⟩⟩, hr.short⟩
      have q1 := (p4 a ha).2.1
      have q2 := (p4 a ha).2.2
      simp only [ownM, List.mem_cons, List.mem_append, List.not_mem_nil, or_false, not_or, List.nil_append] at q1 ⊢
      exact ⟨by omega, q1⟩
theorem unkB_wp {uvr span set : FuncId} (huv : RdC P uvr fun s => (.int .u32 (rdUv s).1, (rdUv s).2)) (hsp : SpanC P span) (hset : SetC P set) {w0 w : World} {sp eb key T rb b0 k z base off : Nat} {S X : List Nat} {cl : Nat} {pre post : List Value} {gs : List GV} {css : List (List Value)} {mv : Value} {m : List (Nat × List UInt8)} {o : Option (List UInt8)} {s1 s2 s3 : RS} {σ : Sl} {Q : Exit → Sl → World → Prop}
    (hA : KtB w0 w rb b0 S X cl pre post gs css mv m) (hR : IsRd (ownM mv ++ (X ++ S)) w rb s1) (hk : k < 4294967296) (h1 : rdUv s1 = (z, s2)) (h2 : rdSpan z s2 = (o, s3)) (hne1 : s1 ≠ s2) (hne2 : s1 ≠ s3) (hoff : base + off = pre.length + css.flatten.length)
    (hb : σ eb = .pointer (some ⟨rb, 0, none⟩)) (hs : σ sp = .pointer (some ⟨b0, base, none⟩)) (hky : σ key = .int .u32 (k : Nat)) (l1 : eb < T) (l2 : sp < T) (l3 : key < T)
    (hQ : ∀ σ' w' mv', (∀ j, j < T → σ' j = σ j) → KtB w0 w' rb b0 S X cl pre post gs css mv' (putTag m k (o.getD [])) → IsRd (ownM mv' ++ (X ++ S)) w' rb s3 → Q .normal σ' w') :
    wpC P (ktUnk sp eb key off uvr span set T) Q σ w := by
  unfold ktUnk
  show wpD P _ [] _ w.drew _
  have hmd : Mod [] w w.drew := Mod.drew _ _
  have hA := hA.same hmd
  have hR : IsRd (ownM mv ++ (X ++ S)) w.drew rb s1 := hR.mod hmd (by simp) (by simp)
  generalize w.drew = w at hA hR
  have hz := rdUv_lt s1
  rw [h1] at hz
  simp only at hz
  have n12 : ∀ {S S' w}, IsRd S w rb s1 → IsRd S' w rb s2 → False := fun a b => hne1 (a.det b)
  have n13 : ∀ {S S' w}, IsRd S w rb s1 → IsRd S' w rb s3 → False := fun a b => hne2 (a.det b)
  have hrb : rb ∉ ownM mv ++ (X ++ S) := by
    simp only [List.mem_append, not_or]
    exact ⟨fun hc => by have := hA.own hc; have := hA.lr; omega, fun hc => by have := (hA.nx _ hc).1; have := hA.lr; omega, hA.ne⟩
  have hrd : ∀ {s w w'}, IsRd (ownM mv ++ (X ++ S)) w rb s → Mod (ownM mv ++ (X ++ S)) w w' → IsRd (ownM mv ++ (X ++ S)) w' rb s := fun h hm => h.mod hm hrb (fun _ h => h)
  refine ⟨fun w w' => Mod (rb :: (ownM mv ++ (X ++ S))) w w' ∧ ((IsRd (ownM mv ++ (X ++ S)) w rb s2 ∨ IsRd (ownM mv ++ (X ++ S)) w rb s3) → (IsRd (ownM mv ++ (X ++ S)) w' rb s2 ∨ IsRd (ownM mv ++ (X ++ S)) w' rb s3)) ∧ (IsRd (ownM mv ++ (X ++ S)) w rb s3 → IsRd (ownM mv ++ (X ++ S)) w' rb s3) ∧
      ((∃ mv', (mv' = mv ∨ mv = .map none) ∧ KtB w0 w rb b0 S X cl pre post gs css mv' (putTag m k (o.getD [])) ∧ IsRd (ownM mv' ++ (X ++ S)) w rb s3) → (∃ mv', (mv' = mv ∨ mv = .map none) ∧ KtB w0 w' rb b0 S X cl pre post gs css mv' (putTag m k (o.getD [])) ∧ IsRd (ownM mv' ++ (X ++ S)) w' rb s3)),
    fun j v w => match j with
      | 4 => v = .int .u32 (z : Nat) ∧ (IsRd (ownM mv ++ (X ++ S)) w rb s2 ∨ IsRd (ownM mv ++ (X ++ S)) w rb s3)
      | 6 => IsRd (ownM mv ++ (X ++ S)) w rb s3 ∧ SlC (fun b => b ∉ rb :: (ownM mv ++ (X ++ S))) w v (o.getD []).length (u8s (o.getD []))
      | 7 => ∃ mv', (mv' = mv ∨ mv = .map none) ∧ KtB w0 w rb b0 S X cl pre post gs css mv' (putTag m k (o.getD [])) ∧ IsRd (ownM mv' ++ (X ++ S)) w rb s3
      | _ => True,
    fun j w => match j with
      | 4 => IsRd (ownM mv ++ (X ++ S)) w rb s1
      | 6 => IsRd (ownM mv ++ (X ++ S)) w rb s1 ∨ IsRd (ownM mv ++ (X ++ S)) w rb s2
      | 7 => KtB w0 w rb b0 S X cl pre post gs css mv m
      | _ => True,
    fun w => ⟨Mod.refl _ _, id, id, id⟩, fun _ _ _ a b => ⟨a.1.trans b.1, fun h => b.2.1 (a.2.1 h), fun h => b.2.2.1 (a.2.2.1 h), fun h => b.2.2.2 (a.2.2.2 h)⟩, ?_, ?_, ?_⟩
  · intro j v w w' h hm
    split at h
    · exact ⟨h.1, hm.2.1 h.2⟩
    · exact ⟨hm.2.2.1 h.1, h.2.mod hm.1 (fun b hb hx => hx hb) fun _ _ h => h⟩
    · exact hm.2.2.2 h
    · trivial
  · intro j
    split
    · exact hR
    · exact .inl hR
    · exact hA
    · trivial
  refine wn_step (v := .pointer (some ⟨b0, base, none⟩)) (fun w1 h1 => by simp [hs]) ?_
  refine wn_step (v := .pointer (some ⟨b0, base, none⟩)) (fun w1 h1 => by simp) ?_
  refine wn_step (v := .pointer (some ⟨b0, pre.length + css.flatten.length, none⟩)) (fun w1 h1 => by simp [hoff]) ?_
  refine wn_step (v := .int .u32 (k : Nat)) (fun w1 h1 => by simp [hky, show key ≠ T by omega, show key ≠ T + 1 by omega, show key ≠ T + 2 by omega]) ?_
  refine wn_node (fun w1 hRw hN _ => ?_) ?_
  · have e1 : ([Operand.tmp eb].map (ev (updo (updo (updo (updo σ (some T) (.pointer (some ⟨b0, base, none⟩))) (some (T + 1)) (.pointer (some ⟨b0, base, none⟩))) (some (T + 2)) (.pointer (some ⟨b0, pre.length + css.flatten.length, none⟩))) (some (T + 3)) (.int .u32 (k : Nat))))) = [.pointer (some ⟨rb, 0, none⟩)] := by
      simp [hb, show eb ≠ T by omega, show eb ≠ T + 1 by omega, show eb ≠ T + 2 by omega, show eb ≠ T + 3 by omega]
    simp only [RK.run, e1]
    have hN : IsRd (ownM mv ++ (X ++ S)) w1 rb s1 := hN
    refine (huv (ownM mv ++ (X ++ S)) w1 rb s1 hN hrb).mono ?_
    rintro e w' ⟨rfl, hr', hm'⟩
    simp only [h1] at hr' ⊢
    refine ⟨_, rfl, ⟨hm'.mono (by simp), fun _ => .inl hr', fun h3 => (n13 hN h3).elim, fun ⟨mv', _, _, h3⟩ => (n13 hN h3).elim⟩, ⟨rfl, .inl hr'⟩, fun j hj hNj => ?_⟩
    split at hNj
    · exact absurd rfl hj
    · exact .inr hr'
    · exact hNj.rd hm'
    · trivial
  rintro v4 ⟨_, rfl, -⟩
  refine wn_step (v := .int .i64 (z : Nat)) (fun w1 h1 => by
    simp only [RK.val?, ev, updo, upd, if_true]
    rw [i64_nat (by omega)]) ?_
  refine wn_node (fun w1 hRw hN hkn => ?_) ?_
  · obtain ⟨-, k4⟩ := known_get (j := 4) (t := T + 4) hkn (by simp) rfl rfl rfl rfl
    have hN : IsRd (ownM mv ++ (X ++ S)) w1 rb s1 ∨ IsRd (ownM mv ++ (X ++ S)) w1 rb s2 := hN
    have hr2 : IsRd (ownM mv ++ (X ++ S)) w1 rb s2 := by
      rcases hN with h | h
      · rcases k4 with h' | h'
        · exact (n12 h h').elim
        · exact (n13 h h').elim
      · exact h
    have e1 : ([Operand.tmp eb, .tmp (T + 5)].map (ev (updo (updo (updo (updo (updo (updo σ (some T) (.pointer (some ⟨b0, base, none⟩))) (some (T + 1)) (.pointer (some ⟨b0, base, none⟩))) (some (T + 2)) (.pointer (some ⟨b0, pre.length + css.flatten.length, none⟩))) (some (T + 3)) (.int .u32 (k : Nat))) (some (T + 4)) (.int .u32 (z : Nat))) (some (T + 5)) (.int .i64 (z : Nat))))) = [.pointer (some ⟨rb, 0, none⟩), .int .i64 (z : Nat)] := by
      simp [hb, show eb ≠ T by omega, show eb ≠ T + 1 by omega, show eb ≠ T + 2 by omega, show eb ≠ T + 3 by omega, show eb ≠ T + 4 by omega, show eb ≠ T + 5 by omega]
    simp only [RK.run, e1]
    by_cases hB : ∃ mv', (mv' = mv ∨ mv = .map none) ∧ KtB w0 w1 rb b0 S X cl pre post gs css mv' (putTag m k (o.getD [])) ∧ IsRd (ownM mv' ++ (X ++ S)) w1 rb s3
    · obtain ⟨mv', q1, q2, q3⟩ := hB
      have e23 : s2 = s3 := hr2.det q3
      have hsub : ∀ x ∈ ownM mv ++ (X ++ S), x ∈ ownM mv' ++ (X ++ S) := fun x hx => by
        rcases q1 with e | e
        · rw [e]; exact hx
        · rw [e] at hx
          simp only [ownM, List.nil_append] at hx
          exact List.mem_append_right _ hx
      refine (hsp (ownM mv' ++ (X ++ S)) w1 rb s2 z (by rw [e23]; exact q3)).mono ?_
      rintro e w' ⟨v, rfl, ho, hr', hm'⟩
      rw [h2] at ho hr'
      simp only at ho hr'
      have hr3 : IsRd (ownM mv ++ (X ++ S)) w' rb s3 := hr'.weakL hsub
      refine ⟨_, rfl, ⟨hm'.mono (by simp), fun _ => .inr hr3, fun _ => hr3, fun _ => ⟨mv', q1, q2.rd hm', hr'⟩⟩, ⟨hr3, ?_⟩, fun j hj hNj => ?_⟩
      · exact ho.slcN.mod (Mod.refl [] _) (by simp) fun b _ hb hx => hb (by
          rcases List.mem_cons.1 hx with e | hx
          · simp [e]
          · exact List.mem_cons_of_mem _ (hsub b hx))
      · split at hNj
        · exact (n12 hNj hr2).elim
        · exact absurd rfl hj
        · exact hNj.rd hm'
        · trivial
    · refine (hsp (ownM mv ++ (X ++ S)) w1 rb s2 z hr2).mono ?_
      rintro e w' ⟨v, rfl, ho, hr', hm'⟩
      rw [h2] at ho hr'
      simp only at ho hr'
      refine ⟨_, rfl, ⟨hm'.mono (by simp), fun _ => .inr hr', fun _ => hr', fun h => (hB h).elim⟩, ⟨hr', ho.slcN⟩, fun j hj hNj => ?_⟩
      split at hNj
      · exact (n12 hNj hr2).elim
      · exact absurd rfl hj
      · exact hNj.rd hm'
      · trivial
  rintro v6 -
  refine wn_node (fun w1 hRw hN hkn => ?_) ?_
  · obtain ⟨k6, k6'⟩ := known_get (j := 6) (t := T + 6) hkn (by simp) rfl rfl rfl rfl
    have hN : KtB w0 w1 rb b0 S X cl pre post gs css mv m := hN
    have k6' : SlC (fun b => b ∉ rb :: (ownM mv ++ (X ++ S))) w1 v6 (o.getD []).length (u8s (o.getD [])) := by simpa using k6'
    have e1 : ([Operand.tmp (T + 2), .tmp (T + 3), .tmp (T + 6)].map (ev (updo (updo (updo (updo (updo (updo (updo σ (some T) (.pointer (some ⟨b0, base, none⟩))) (some (T + 1)) (.pointer (some ⟨b0, base, none⟩))) (some (T + 2)) (.pointer (some ⟨b0, pre.length + css.flatten.length, none⟩))) (some (T + 3)) (.int .u32 (k : Nat))) (some (T + 4)) (.int .u32 (z : Nat))) (some (T + 5)) (.int .i64 (z : Nat))) (some (T + 6)) v6))) = [.pointer (some ⟨b0, pre.length + css.flatten.length, none⟩), .int .u32 (k : Nat), v6] := by
      simp
    simp only [RK.run, e1]
    refine (hN.set hset k6 hk k6').mono ?_
    rintro e w' ⟨rfl, hm', mv', q1, q2, q3⟩
    have hm' : Mod (ownM mv ++ (X ++ S)) w1 w' := hm'.mono fun x hx => by
      rcases List.mem_cons.1 hx with rfl | hx
      · exact List.mem_append_right _ (List.mem_append_right _ hA.sb)
      · exact List.mem_append_left _ hx
    refine ⟨_, rfl, ⟨hm'.mono (fun x hx => List.mem_cons_of_mem _ hx), fun h => h.imp (fun h => hrd h hm') (fun h => hrd h hm'), fun h => hrd h hm', fun _ => ⟨mv', q1, q2, q3⟩⟩, ⟨mv', q1, q2, q3⟩, fun j hj hNj => ?_⟩
    split at hNj
    · exact hrd hNj hm'
    · exact hNj.imp (fun h => hrd h hm') (fun h => hrd h hm')
    · exact absurd rfl hj
    · trivial
  rintro v7 -
  intro w5 hm5 hkn
  obtain ⟨mv', -, q2, q3⟩ := known_get (j := 7) (t := T + 7) hkn (by simp) rfl rfl rfl rfl
  refine goEnd (hQ _ w5 mv' (fun j hj => ?_) q2 q3)
  simp only [updo, upd, show j ≠ T by omega, show j ≠ T + 1 by omega, show j ≠ T + 2 by omega, show j ≠ T + 3 by omega, show j ≠ T + 4 by omega, show j ≠ T + 5 by omega, show j ≠ T + 6 by omega, show j ≠ T + 7 by omega, if_false]
end
end Go.Msk

namespace Go.Msk
open Go.RowKit
set_option maxRecDepth 100000
def bodyF (rt : FuncId) : List KF → Sc
  | [] => .tags rt
  | f :: fs => .prm .all f.init f.r f.p f.d (bodyF rt fs)
theorem bodyF_gen (E : RE) (rt : FuncId) (nb : Nat) : ∀ (fs : List KF) (sp off nv nt : Nat), flGen E rt fs sp off nv nt = (bodyF rt fs).gen E sp off nv nt nb
  | [], _, _, _, _ => rfl
  | f :: fs, sp, off, nv, nt => by
    simp only [flGen, bodyF, Sc.gen, VC.wrap]
    rw [bodyF_gen E rt nb fs]
theorem bodyF_dcs (rt : FuncId) : ∀ fs : List KF, (bodyF rt fs).dcs = flDcs fs
  | [] => rfl
  | f :: fs => by simp only [bodyF, Sc.dcs, flDcs, bodyF_dcs rt fs]
theorem bodyF_nv (rt : FuncId) : ∀ fs : List KF, (bodyF rt fs).nv = fs.length
  | [] => rfl
  | f :: fs => by simp only [bodyF, Sc.nv, bodyF_nv rt fs, List.length_cons]; omega
theorem bodyF_dec {D : Dec} {ver : Int} {x : Bool} (rt : FuncId) : ∀ (fs : List KF) (s : RS), (bodyF rt fs).dec D ver x s = some (flDec D x fs s)
  | [], s => by simp only [bodyF, Sc.dec, flDec]; split <;> rfl
  | f :: fs, s => by simp only [bodyF, Sc.dec, flDec, VC.holds, if_true, consD, bodyF_dec rt fs]
theorem bodyF_flatK (rt : FuncId) : ∀ fs : List KF, (bodyF rt fs).flatK = true
  | [] => rfl
  | f :: fs => bodyF_flatK rt fs
theorem bodyF_size (rt : FuncId) (fs : List KF) : (bodyF rt fs).size = (flDcs fs).flatten.length := by unfold Sc.size; rw [bodyF_dcs]
theorem RepL.cut {O : List Nat} {w : World} : ∀ {g1 g2 : List GV} {g : GV} {c1 c2 : List (List Value)} {c : List Value}, g1.length = c1.length → RepL O w (g1 ++ g :: g2) (c1 ++ c :: c2) → RepL O w g1 c1 ∧ Rep O w g c ∧ RepL O w g2 c2
  | [], g2, g, [], c2, c, _, h => by cases h with | cons h1 h2 => exact ⟨.nil, h1, h2⟩
  | g0 :: g1, g2, g, c0 :: c1, c2, c, hl, h => by
    cases h with
    | cons h1 h2 =>
      obtain ⟨a, b, d⟩ := RepL.cut (by simpa using hl) h2
      exact ⟨.cons h1 a, b, d⟩
  | [], _, _, _ :: _, _, _, hl, _ => by simp at hl
  | _ :: _, _, _, [], _, _, hl, _ => by simp at hl
section
variable {P : Program} {D : Dec}
attribute [local simp] gOk updo upd ev RK.val? isShift intBin Addr.add_mk args0 Value.cells undef
theorem KtB.szO {w0 w : World} {rb b0 : Nat} {S X : List Nat} {cl : Nat} {pre post : List Value} {gs : List GV} {css : List (List Value)} {mv : Value} {m : List (Nat × List UInt8)} (h : KtB w0 w rb b0 S X cl pre post gs css mv m) : ∀ y ∈ rb :: (ownM mv ++ (X ++ S)), y < w.heap.size := by
  intro y hy
  have h0 := h.mod.size
  simp only [List.mem_cons, List.mem_append] at hy
  rcases hy with rfl | hy | hy | hy
  · have := h.lr; omega
  · have he := ownM_some hy
    rcases h.tag with ⟨e1, -⟩ | ⟨r, e1, e2⟩
    · rw [e1] at he; simp at he
    · rw [e1] at he
      simp only [Value.map.injEq, Option.some.injEq] at he
      rw [← he]; exact e2.lt
  · exact (h.nx y hy).2
  · have := h.sl y hy; omega
theorem rdSpan_short {z : Int} {s2 s3 : RS} {o : Option (List UInt8)} (h2 : rdSpan z s2 = (o, s3)) : (o.getD []).length ≤ s2.src.length := by
  unfold rdSpan at h2
  split at h2
  · simp only [Prod.mk.injEq] at h2; rw [← h2.1]; simp
  · simp only [Prod.mk.injEq] at h2
    obtain ⟨h2, -⟩ := h2
    split at h2
    · rw [← h2]; simp
    · rw [← h2]; simp; omega
theorem kHead_wp {uvr span : FuncId} (huv : RdC P uvr fun s => (.int .u32 (rdUv s).1, (rdUv s).2)) (hsp : SpanC P span) {E : RE} {w0 w : World} {sr T rb b0 z : Nat} {S X : List Nat} {cl : Nat} {pre post : List Value} {css : List (List Value)} {gs : List GV} {mv : Value} {m : List (Nat × List UInt8)} {o : Option (List UInt8)} {s1 s2 s3 : RS} {σ : Sl} {Q : Exit → Sl → World → Prop}
    (hA : KtB w0 w rb b0 S X cl pre post gs css mv m) (hR : IsRd (ownM mv ++ (X ++ S)) w rb s1) (h1 : rdUv s1 = (z, s2)) (h2 : rdSpan z s2 = (o, s3)) (hb : σ E.b = .pointer (some ⟨rb, 0, none⟩)) (lb : E.b < T) (lsr : sr < T)
    (hQ : ∀ σ' wa w', (∀ j, j < T → j ≠ sr → σ' j = σ j) → σ' sr = .pointer (some ⟨wa.heap.size, 0, none⟩) → Mod [rb] w wa → Mod [] wa w' → KtB w0 wa rb b0 S X cl pre post gs css mv m → IsRd (ownM mv ++ (X ++ S)) wa rb s3 →
      IsRd (rb :: (ownM mv ++ (X ++ S))) w' wa.heap.size ⟨o.getD [], false, o.isNone⟩ → Q .normal σ' w') :
    wpC P (kHead E sr uvr span T) Q σ w := by
  have hz := rdUv_lt s1
  rw [h1] at hz
  simp only at hz
  have hrb : rb ∉ ownM mv ++ (X ++ S) := by
    simp only [List.mem_append, not_or]
    exact ⟨fun hc => by have := hA.own hc; have := hA.lr; omega, fun hc => by have := (hA.nx _ hc).1; have := hA.lr; omega, hA.ne⟩
  unfold kHead
  rw [wpC_blk]
  refine goCall rfl (vs := [.pointer (some ⟨rb, 0, none⟩)]) (by simp [hb]) (huv (ownM mv ++ (X ++ S)) w rb s1 hR hrb) ?_
  rintro e w1 ⟨rfl, hr1, hm1⟩
  simp only [h1] at hr1 ⊢
  refine ⟨_, rfl, ?_⟩
  refine go1 (v := .int .i64 (z : Nat)) rfl (by simp only [RK.val?, ev, updo, upd, if_true]; rw [i64_nat (by omega)]) ?_
  refine goCall rfl (vs := [.pointer (some ⟨rb, 0, none⟩), .int .i64 (z : Nat)]) (by simp [hb, show E.b ≠ T by omega, show E.b ≠ T + 1 by omega]) (hsp (ownM mv ++ (X ++ S)) w1 rb s2 z hr1) ?_
  rintro e w2 ⟨v, rfl, ho, hr2, hm2⟩
  rw [h2] at ho hr2
  simp only at ho hr2
  refine ⟨_, rfl, ?_⟩
  have hA2 := (hA.rd hm1).rd hm2
  obtain ⟨bs, len, cap, rfl, hby, hnn, hbl⟩ : ∃ bs len cap, v = .slice bs len cap ∧ IsBytes w2 bs len cap (o.getD []) ∧ bs.isNone = o.isNone ∧ ∀ a, bs = some a → a.block ∉ rb :: (ownM mv ++ (X ++ S)) ∧ a.block < w2.heap.size := by
    obtain ⟨q1, q2⟩ := ho
    cases o with
    | none =>
      simp only [IsOct] at q1
      subst q1
      exact ⟨none, 0, 0, rfl, IsBytes.nil w2, rfl, fun a ha => by simp at ha⟩
    | some l =>
      obtain ⟨a, n, c, rfl, hb⟩ := q1
      exact ⟨some a, n, c, rfl, hb, rfl, fun a' ha => by cases ha; exact q2 a n c rfl⟩
  refine go1 (v := .agg #[.slice bs len cap, .bool false]) rfl (by simp [fillL, splice]) ?_
  refine goAlloc fun w3 hb3 hm3 => ?_
  refine goSt (b := w2.heap.size) (v := .agg #[.slice bs len cap, .bool false]) (by simp) (by simp [show T + 3 ≠ sr by omega]) hb3 (by simp) (by simp) (by
    intro y hy
    simp only [Value.cells, List.mem_cons, List.not_mem_nil, or_false] at hy
    rcases hy with rfl | rfl <;> rfl) fun w4 hb4 hm4 => goEnd ?_
  have hb4 : Blk w4 w2.heap.size [.slice bs len cap, .bool false] := by simpa using hb4
  have hm24 : Mod [] w2 w4 := Mod.drop (b := w2.heap.size) (S := []) (hm3.nil.trans hm4) (Nat.le_refl _)
  have hshort : (o.getD []).length ≤ 1152921504606846976 := Nat.le_trans (rdSpan_short h2) hr1.short
  have hr24 : IsRd (rb :: (ownM mv ++ (X ++ S))) w4 w2.heap.size ⟨o.getD [], false, o.isNone⟩ := by
    refine ⟨⟨bs, len, cap, hb4, hby.mod hm24 (by simp), hnn, fun a ha => ?_⟩, hshort⟩
    have := hbl a ha
    exact ⟨by omega, this.1, Nat.lt_of_lt_of_le this.2 hm24.size⟩
  refine hQ _ w2 w4 (fun j hj hne => ?_) (by simp) (hm1.trans hm2) hm24 hA2 hr2 hr24
  simp only [updo, upd, hne, show j ≠ T by omega, show j ≠ T + 1 by omega, show j ≠ T + 2 by omega, show j ≠ T + 3 by omega, if_false]
theorem kTail_wp {E : RE} {sr er T rr g : Nat} {S' : List Nat} {s4 : RS} {Te : TypeId} {ve : Value} {σ : Sl} {w : World} {Q : Exit → Sl → World → Prop} (hcpl : CplC P E.cpl g) (hr : IsRd S' w rr s4) (hg : GErr g w Te ve) (hsr : σ sr = .pointer (some ⟨rr, 0, none⟩)) (l1 : er < T)
    (hret : s4.bad = true → ∀ σ', σ' E.ret = .iface Te ve → Q .ret σ' w) (hQ : s4.bad = false → ∀ σ', (∀ j, j < er → σ' j = σ j) → Q .normal σ' w) : wpL P (kTail E sr er T) Q σ w := by
  unfold kTail
  simp only [wpL]
  rw [wpC_blk]
  refine goCall rfl (vs := [.pointer (some ⟨rr, 0, none⟩)]) (by simp [hsr]) (hcpl S' w rr s4 Te ve hr hg) ?_
  rintro e w7 ⟨rfl, e7⟩
  subst e7
  refine ⟨_, rfl, ?_⟩
  cases hbad : s4.bad with
  | true =>
    refine go1 (v := .iface Te ve) rfl (by simp [errVal]) (goEnd ?_)
    simp only [thenC]
    rw [wpC_blk]
    refine go1 (v := .iface Te ve) rfl (by simp [errVal]) ?_
    refine go1 (v := .bool true) rfl (by simp [errVal]) (goEnd ?_)
    simp only [thenC]
    rw [wpC_cond_t (by simp), wpC_seq, wpC_blk]
    refine go1 (v := .iface Te ve) rfl (by simp [errVal, show er ≠ T + 1 by omega, show er ≠ T + 2 by omega]) ?_
    refine go1 (v := .iface Te ve) rfl (by simp [errVal]) (goEnd ?_)
    simp only [thenC]
    exact hret hbad _ (by simp)
  | false =>
    refine go1 (v := .nilIface) rfl (by simp [errVal]) (goEnd ?_)
    simp only [thenC]
    rw [wpC_blk]
    refine go1 (v := .nilIface) rfl (by simp [errVal]) ?_
    refine go1 (v := .bool false) rfl (by simp [errVal]) (goEnd ?_)
    simp only [thenC]
    rw [wpC_cond_f (by simp), wpC_skip]
    refine hQ hbad _ fun j hj => ?_
    simp only [updo, upd, show j ≠ T by omega, show j ≠ T + 1 by omega, show j ≠ T + 2 by omega, show j ≠ er by omega, if_false]
theorem knownS_wp {uvr span : FuncId} (huv : RdC P uvr fun s => (.int .u32 (rdUv s).1, (rdUv s).2)) (hsp : SpanC P span) {E : RE} {w0 w : World} {sp sr T nb rb b0 z g nv base off : Nat} {S X : List Nat} {cl : Nat} {pre post cj : List Value} {c1 c2 : List (List Value)} {g1 g2 : List GV} {gj : GV} {mv : Value} {m : List (Nat × List UInt8)} {o : Option (List UInt8)} {s1 s2 s3 : RS} {c : KCase} {u : Bool} {ver : Int} {Te : TypeId} {ve : Value} {σ : Sl} {Q : Exit → Sl → World → Prop}
    (hcpl : CplC P E.cpl g) (hl : c.lst = none) (hD : ∀ z : List Value, z.length = c.size → ∃ z', z'.length = z.length ∧ DfC P c.dfl z z') (hB : (bodyF c.rt c.fs).Ok P D u true)
    (hA : KtB w0 w rb b0 S X cl pre post (g1 ++ gj :: g2) (c1 ++ cj :: c2) mv m) (hgl : g1.length = c1.length) (hcj : cj.length = c.size) (hR : IsRd (ownM mv ++ (X ++ S)) w rb s1) (h1 : rdUv s1 = (z, s2)) (h2 : rdSpan z s2 = (o, s3))
    (hE : RV.Env E nv rb u true ver σ) (hfx : E.hasFx = true) (hs : σ sp = .pointer (some ⟨b0, base, none⟩)) (hoff : base + off = pre.length + c1.flatten.length) (l1 : nv ≤ sr) (l2 : sp < nv) (l4 : sr + 4 + c.fs.length ≤ T) (hg : GErr g w Te ve) (hgn : g ≠ rb ∧ g ∉ S ∧ g < w0.heap.size)
    (hret : (flDec D true c.fs ⟨o.getD [], false, o.isNone⟩).2.bad = true → ∀ σ' w', Mod [rb, b0] w0 w' → σ' E.ret = .iface Te ve → Q .ret σ' w')
    (hQ : (flDec D true c.fs ⟨o.getD [], false, o.isNone⟩).2.bad = false → ∀ σ' w' cj', (∀ j, j < sr → σ' j = σ j) → KtB w0 w' rb b0 S X cl pre post (g1 ++ .rcd (flDec D true c.fs ⟨o.getD [], false, o.isNone⟩).1 :: g2) (c1 ++ cj' :: c2) mv m → cj'.length = cj.length → IsRd (ownM mv ++ (X ++ S)) w' rb s3 → GErr g w' Te ve → Q .normal σ' w') :
    wpL P (c.gen E sp off sr nb uvr span T) Q σ w := by
  have hlb := hE.lb
  have hlv := hE.lv
  have hlu := hE.lu
  have hlf := hE.lf hfx
  have hne : rb ≠ b0 := fun e => hA.ne (e ▸ hA.sb)
  have hgb : g ≠ b0 := fun e => hgn.2.1 (e ▸ hA.sb)
  have hbl := hA.sl b0 hA.sb
  have hlr := hA.lr
  unfold KCase.gen
  rw [hl]
  simp only [wpL]
  refine kHead_wp huv hsp hA hR h1 h2 hE.hb (by omega) (by omega) fun σ1 w2 w4 a1 v1 hm02 hm24 hA2 hr2 hr24 => ?_
  simp only [thenC]
  have hA4 := hA2.same hm24
  have hgd : GErr g w4 Te ve := cell_mod (cell_mod hg hm02 (by simpa using hgn.1)) hm24 (by simp)
  have hs02 := hA2.mod.size
  obtain ⟨q1, q2, q3⟩ := hA4.fld.cut hgl
  have hbk : Blk w4 b0 ((pre ++ c1.flatten) ++ (cj ++ (c2.flatten ++ (mv :: post)))) := by
    have := hA4.blk
    simpa [List.append_assoc] using this
  obtain ⟨cd, hcd, hDf⟩ := hD cj hcj
  rw [wpL_append]
  simp only [wpL]
  rw [wpC_blk]
  have hs1 : σ1 sp = .pointer (some ⟨b0, base, none⟩) := by rw [a1 sp (by omega) (by omega)]; exact hs
  refine go1 (v := .pointer (some ⟨b0, base, none⟩)) rfl (by simp [hs1]) ?_
  refine go1 (v := .pointer (some ⟨b0, base, none⟩)) rfl (by simp) ?_
  refine go1 (v := .pointer (some ⟨b0, pre.length + c1.flatten.length, none⟩)) rfl (by simp [hoff]) ?_
  refine go1 (v := .pointer (some ⟨b0, pre.length + c1.flatten.length, none⟩)) rfl (by simp) (goEnd ?_)
  simp only [thenC]
  rw [wpC_blk]
  refine go1 (v := .pointer (some ⟨b0, pre.length + c1.flatten.length, none⟩)) rfl (by simp) ?_
  have hcall := hDf w4 b0 (pre ++ c1.flatten) (c2.flatten ++ (mv :: post)) hbk
  rw [List.length_append] at hcall
  refine goCall rfl (vs := [.pointer (some ⟨b0, pre.length + c1.flatten.length, none⟩)]) (by simp) hcall ?_
  rintro e w5 ⟨rfl, hb5, hm5⟩
  refine ⟨_, rfl, goEnd ?_⟩
  simp only [thenC]
  generalize hσ : updo _ (some (T + 4 + 4)) _ = σ2
  have a2 : ∀ j, j < T → j ≠ sr + 1 → σ2 j = σ1 j := fun j hj hne => by
    rw [← hσ]
    simp only [updo, upd, hne, show j ≠ T + 4 by omega, show j ≠ T + 4 + 1 by omega, show j ≠ T + 4 + 2 by omega, show j ≠ T + 4 + 3 by omega, show j ≠ T + 4 + 4 by omega, if_false]
  have v2 : σ2 (sr + 1) = .pointer (some ⟨b0, pre.length + c1.flatten.length, none⟩) := by rw [← hσ]; simp [show ¬ sr = T + 6 by omega, show ¬ sr = T + 7 by omega]
  clear hσ
  refine cpF_wp (by omega) fun σ3 a3 v3 => ?_
  simp only [thenC]
  have a31 : ∀ j, j < T → j ≠ sr → j ≠ sr + 1 → j ≠ sr + 2 → σ3 j = σ j := fun j hj n1 n2 n3 => by
    rw [a3 j (by omega) (by omega), a2 j hj n2]; exact a1 j hj n1
  have vr3 : σ3 sr = .pointer (some ⟨w2.heap.size, 0, none⟩) := by rw [a3 sr (by omega) (by omega), a2 sr (by omega) (by omega)]; exact v1
  have hE1 : RV.Env { E with b := sr } (sr + 3) w2.heap.size u true ver σ3 := by
    refine ⟨by simp, by simp only; omega, fun hf => ?_, by simp only; omega, vr3, ?_, ?_, fun hf => ?_, hE.h0⟩
    · have := hE.lf hf; simp only; omega
    · exact (a31 E.vs (by omega) (by omega) (by omega) (by omega)).trans hE.hv
    · exact (a31 E.un (by omega) (by omega) (by omega) (by omega)).trans hE.hu
    · exact (a31 E.fx (by omega) (by omega) (by omega) (by omega)).trans (hE.hx hf)
  have hsO := hA2.szO
  have h24 := hm24.size
  have h45 := hm5.size
  have hsz : ∀ y ∈ rb :: (ownM mv ++ (X ++ S)), y < w5.heap.size := fun y hy => by have := hsO y hy; omega
  have hg5 : GErr g w5 Te ve := cell_mod hgd hm5 (by simpa using hgb)
  have hgO : g ∉ rb :: (ownM mv ++ (X ++ S)) := by
    simp only [List.mem_cons, List.mem_append, not_or]
    exact ⟨hgn.1, fun hc => by have := hA.own hc; omega, fun hc => by have := (hA.nx _ hc).1; omega, hgn.2.1⟩
  have hgnn : g ∉ w2.heap.size :: (rb :: (ownM mv ++ (X ++ S))) := by
    rw [List.mem_cons, not_or]
    exact ⟨by omega, hgO⟩
  have hrbn : w2.heap.size ∉ rb :: (ownM mv ++ (X ++ S)) := fun hc => by have := hsO _ hc; omega
  have hbS : b0 ∈ rb :: (ownM mv ++ (X ++ S)) := by simp [hA.sb]
  have hr25 : IsRd (rb :: (ownM mv ++ (X ++ S))) w5 w2.heap.size ⟨o.getD [], false, o.isNone⟩ := hr24.mod hm5 (by simp; omega) (by simpa using hbS)
  have hsound := Sc.soundF (P := P) (E := { E with b := sr }) (D := D) (g := g) (rb := w2.heap.size) (Te := Te) (ve := ve) (u := u) (ver := ver) (bodyF c.rt c.fs) (bodyF_flatK _ _)
  have hsz' : (bodyF c.rt c.fs).dcs.flatten.length = c.size := by rw [bodyF_dcs]; rfl
  rw [bodyF_gen _ _ nb, wpL_append]
  refine hsound (sr + 2) 0 (sr + 3) (T + 4 + 6) nb b0 (pre.length + c1.flatten.length) (rb :: (ownM mv ++ (X ++ S))) ⟨o.getD [], false, o.isNone⟩ (pre ++ c1.flatten) cd (c2.flatten ++ (mv :: post)) σ3 w5 _ hB hE1 hfx (by omega) (by rw [bodyF_nv]; omega) (by rw [v3]; exact v2) (by simp) hr25 hrbn hbS hsz hg5 hgnn (by omega) hb5 ?_
  intro gs s4 hd σ4 w6 css a4 hm6 hr6 hrep hl6 hb6
  rw [bodyF_dec] at hd
  have hd := Option.some.inj hd
  rw [hd] at hQ hret
  simp only at hQ hret
  have hg6 : GErr g w6 Te ve := cell_mod hg5 hm6 (by
    simp only [List.mem_cons, List.not_mem_nil, or_false, not_or]
    exact ⟨by omega, hgb⟩)
  have hm26 : Mod [b0] w2 w6 := Mod.drop (b := w2.heap.size) (S := [b0]) ((hm24.nil.trans (hm5.mono (by simp))).trans (hm6.mono (by simp))) (Nat.le_refl _)
  have hm06 : Mod [rb, b0] w0 w6 := hA2.mod.trans (hm26.mono (by simp))
  have vr4 : σ4 sr = .pointer (some ⟨w2.heap.size, 0, none⟩) := (a4 sr (by omega)).trans vr3
  simp only [thenC]
  refine kTail_wp hcpl hr6 hg6 vr4 (by omega) (fun hbad σ5 e5 => hret hbad σ5 w6 hm06 e5) fun hbad σ5 a5 => ?_
  refine hQ hbad σ5 w6 css.flatten (fun j hj => ?_) ⟨by simpa [List.append_assoc] using hb6, ?_, ?_, hA.nr, fun x hx => ⟨(hA2.nx x hx).1, Nat.lt_of_lt_of_le (hA2.nx x hx).2 hm26.size⟩, fun x hx => (hA2.xb x hx).imp fun cs k => ⟨k.1.mod hm26 (by have := (hA2.nx x hx).1; simp; omega), k.2⟩, hm06, hA.sb, hA.sl, hA.lr, hA.ne⟩ (by rw [hl6, hsz', hcj]) (hr2.mod hm26 (by simpa using hne) (by simp [hA.sb])) hg6
  · rw [a5 j (by omega)]
    exact (a4 j (by omega)).trans (a31 j (by omega) (by omega) (by omega) (by omega))
  · have hq : RepL (rb :: (ownM mv ++ S)) w2 g1 c1 ∧ RepL (rb :: (ownM mv ++ S)) w2 g2 c2 := by
      obtain ⟨x1, -, x3⟩ := hA2.fld.cut hgl
      exact ⟨x1, x3⟩
    have hk : ∀ {g c}, RepL (rb :: (ownM mv ++ S)) w2 g c → RepL (rb :: (ownM mv ++ S)) w6 g c := fun h => h.mod hm26 (by simp [hA.sb])
    refine (hk hq.1).append (.cons ((Rep.rcd hrep).weaken (fun x hx => ?_)) (hk hq.2))
    simp only [List.mem_cons, List.mem_append] at hx ⊢
    rcases hx with hx | hx | hx
    · exact .inr (.inl hx)
    · exact .inr (.inr (.inl hx))
    · exact .inr (.inr (.inr (.inr hx)))
  · refine TagM.mod hA2.tag hm26 (fun r hr => ?_) (by simp [hA.sb]) fun _ _ h => h
    have := (hA2.nr r hr).1
    simp; omega
end
end Go.Msk

namespace Go.Msk
open Go.RowKit
set_option maxRecDepth 100000
section
variable {P : Program} {D : Dec}
theorem roomG_wp {nv t bytes k c : Nat} {z : List Value} {n : Int} {σ : Sl} {w : World} {base : Option Addr} {Q : Exit → Sl → World → Prop} (ha : σ (nv + 1) = .slice base k c) (hl : σ (nv + 2) = .int .i32 n)
    (hn : n ≤ 2147483647) (hby : bytes ≤ 32768) (lt : nv + 4 ≤ t) (hc0 : base = none → c = 0) (hz1 : ∀ v ∈ z, v.oneCell' = true)
    (hbs : ∀ a, base = some a → ∃ A cells, a = ⟨A, 0, none⟩ ∧ Blk w A cells ∧ cells.length = c * z.length)
    (h0 : n ≤ 0 → ∀ σ', (∀ j, j < t → j ≠ nv + 1 → σ' j = σ j) → σ' (nv + 1) = .slice base 0 c → Q .normal σ' w)
    (h1 : 0 < n → ∀ σ' w' A c' rest, (∀ j, j < t → j ≠ nv + 1 → σ' j = σ j) → n.toNat ≤ c' → σ' (nv + 1) = .slice (some ⟨A, 0, none⟩) n.toNat c' →
      Blk w' A (zrep n.toNat z ++ rest) → rest.length = (c' - n.toNat) * z.length → ((base = some ⟨A, 0, none⟩ ∧ c' = c ∧ Mod [A] w w') ∨ (A = w.heap.size ∧ Mod [] w w')) → Q .normal σ' w') : wpL P (roomF nv t bytes z) Q σ w := by
  unfold roomF
  simp only [wpL]
  rw [wpC_blk]
  refine wpR_step (v := .slice base k c) (congrArg some ha) ?_
  have hcut : (RK.slice (.tmp t) none (some (.const (.int .i64 0))) none z.length).run P (updo σ (some t) (.slice base k c)) w = fun K => K (.slice base 0 c) w := by
    funext K
    have e : (if ((c : Int).toNat = (0 : Int).toNat) then base else base.map (·.add ((0 : Int).toNat * z.length))) = base := by
      split
      · rfl
      · cases base with
        | none => rfl
        | some a => obtain ⟨A, cells, rfl, -⟩ := hbs a rfl; simp [Addr.add_mk]
    simp only [RK.run, ev, updo, upd_same, bnd]
    refine propext ⟨fun h => ?_, fun h => ⟨by omega, by omega, by omega, by omega, ?_⟩⟩
    · have := h.2.2.2.2
      rw [e] at this
      simpa using this
    · rw [e]; simpa using h
  refine wpR_run ?_
  rw [hcut]
  refine wpR_step (v := .slice base 0 c) (by simp [RK.val?, ev, updo, upd]) ?_
  refine wpR_done ?_
  try simp only [thenC]
  generalize hσ : updo _ (some (nv + 1)) _ = σ1
  have a1 : ∀ j, j < t → j ≠ nv + 1 → σ1 j = σ j := fun j hj hne => by rw [← hσ]; simp only [updo, upd, hne, show j ≠ t by omega, show j ≠ t + 1 by omega, if_false]
  have v1 : σ1 (nv + 1) = .slice base 0 c := by rw [← hσ]; simp [updo, upd]
  clear hσ
  rw [wpC_seq, wpC_blk]
  refine wpR_step (v := .int .i32 n) (congrArg some ((a1 _ (by omega) (by omega)).trans hl)) ?_
  refine wpR_step (v := .bool (decide (n > 0))) (by simp [RK.val?, ev, updo, upd, isShift, intBin]) ?_
  refine wpR_done ?_
  generalize hσ : updo _ (some (t + 3)) _ = σ2
  have a2 : ∀ j, j < t → σ2 j = σ1 j := fun j hj => by rw [← hσ]; simp only [updo, upd, show j ≠ t + 2 by omega, show j ≠ t + 3 by omega, if_false]
  have v2 : σ2 (t + 3) = .bool (decide (n > 0)) := by rw [← hσ]; simp [updo, upd]
  clear hσ
  by_cases hp : n > 0
  · rw [decide_eq_true hp] at v2
    rw [wpC_cond_t (by simp only [ev, v2]), wpC_blk]
    refine wpR_step (v := .slice base 0 c) (congrArg some ((a2 _ (by omega)).trans v1)) ?_
    refine wpR_step (v := .int .i32 n) (by simp only [RK.val?, ev, updo, upd, show nv + 2 ≠ t + 4 by omega, if_false]; exact congrArg some ((a2 _ (by omega)).trans ((a1 _ (by omega) (by omega)).trans hl))) ?_
    refine wpR_run ?_
    have hn1 : n.toNat ≤ 2147483647 := by omega
    have hmul : n.toNat * bytes ≤ 2147483647 * 32768 := Nat.mul_le_mul hn1 hby
    have hmul' : (n * bytes : Int) ≤ 70368744177664 := by
      have : n * (bytes : Int) ≤ 2147483647 * 32768 := Int.mul_le_mul hn (by omega) (by omega) (by omega)
      omega
    have hag : ∀ v, ∀ j, j < t → j ≠ nv + 1 → updo (updo (updo (updo σ2 (some (t + 4)) (.slice base 0 c)) (some (t + 5)) (.int .i32 n)) (some (t + 6)) v) (some (nv + 1)) v j = σ j := fun v j hj hne => by
      simp only [updo, upd, hne, show j ≠ t + 4 by omega, show j ≠ t + 5 by omega, show j ≠ t + 6 by omega, if_false]
      exact (a2 j hj).trans (a1 j hj hne)
    simp only [RK.run, ev, updo, upd, show t + 4 ≠ t + 5 by omega, if_false, if_true, appendRun]
    refine ⟨by omega, hmul', by omega, ?_⟩
    have hzl := zrep_length n.toNat z
    by_cases hle : 0 + n.toNat ≤ c
    · rw [if_pos hle]
      cases base with
      | none => have := hc0 rfl; omega
      | some a =>
        obtain ⟨A, cells, rfl, hbA, hcl⟩ := hbs a rfl
        have hlc : n.toNat * z.length ≤ c * z.length := Nat.mul_le_mul_right _ (by omega)
        simp only [Addr.add_mk, Nat.zero_mul, Nat.add_zero, Nat.zero_add]
        refine ⟨stOk_many hbA (by omega) (fun v hv => ?_), ?_⟩
        · simp only [zrep, List.mem_flatten, List.mem_replicate] at hv
          obtain ⟨l, ⟨-, rfl⟩, hv⟩ := hv
          exact hz1 v hv
        refine wpR_step (v := .slice (some ⟨A, 0, none⟩) n.toNat c) (by simp [RK.val?, ev, upd]) ?_
        refine wpR_done ?_
        have hput := hbA.put (o := 0) (vs := zrep n.toNat z) (by omega)
        have es : splice cells 0 (zrep n.toNat z) = zrep n.toNat z ++ cells.drop (n.toNat * z.length) := by simp [splice, hzl]
        rw [es] at hput
        refine h1 (by omega) _ _ A c _ (hag _) (by omega) (by simp [updo, upd]) hput (by rw [List.length_drop, hcl, Nat.sub_mul]) (.inl ⟨rfl, rfl, Mod.put (by simp)⟩)
    · rw [if_neg hle]
      refine ⟨by rw [Nat.zero_add]; omega, by omega, ?_⟩
      have key : ∀ T cap rest, 0 + n.toNat ≤ cap → rest.length = (cap - (0 + n.toNat)) * z.length →
          wpR P [⟨some (nv + 1), .mv (.tmp (t + 6)), none⟩] (updo (updo (updo σ2 (some (t + 4)) (.slice base 0 c)) (some (t + 5)) (.int .i32 n)) (some (t + 6)) (.slice (some ⟨w.heap.size, 0, none⟩) (0 + n.toNat) cap)) (w.drew.alloc (.cells ([] ++ (zrep n.toNat z ++ rest)).toArray T)) (thenC (wpL P [] Q) Q .normal) := by
        intro T cap rest hc hr
        rw [Nat.zero_add] at hc hr ⊢
        refine wpR_step (v := .slice (some ⟨w.heap.size, 0, none⟩) n.toNat cap) (by simp [RK.val?, ev, updo, upd]) ?_
        refine wpR_done ?_
        exact h1 (by omega) _ _ w.heap.size cap rest (hag _) (by omega) (by simp [updo, upd]) (Blk.new w.drew _ T) hr (.inr ⟨rfl, (Mod.drew _ _).trans (Mod.alloc _ _ _)⟩)
      simp only [Nat.zero_mul]
      cases base with
      | none => exact key
      | some a => simp only [cellsAt]; exact key
  · rw [decide_eq_false hp] at v2
    rw [wpC_cond_f (by simp only [ev, v2]), wpC_skip]
    simp only [thenC]
    exact h0 (by omega) _ (fun j hj hne => (a2 j hj).trans (a1 j hj hne)) ((a2 _ (by omega)).trans v1)
def LvX (lv : Value) (X : List Nat) (cl sz : Nat) : Prop := (lv = .slice none 0 0 ∧ X = []) ∨ ∃ A n k, lv = .slice (some ⟨A, 0, none⟩) n k ∧ X = [A] ∧ cl = k * sz
theorem Rep.lstD {O : List Nat} {w : World} {g : GV} {base : Option Addr} {n k : Nat} (h : Rep O w g [.slice base n k]) (hg : ∃ a b l, g = .lst a b l) : g.isnil = base.isNone := by
  obtain ⟨a, b, l, rfl⟩ := hg
  cases h <;> rfl
end
end Go.Msk
