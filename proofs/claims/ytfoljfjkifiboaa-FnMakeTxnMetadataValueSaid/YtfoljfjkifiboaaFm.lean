/- A small language of resolved operations, and what the generic and the generated functions do in it (part 13). -/
import Derived.Test.YtfoljfjkifiboaaFl

namespace Go.Msk
open Go.RowKit
set_option maxRecDepth 100000
section
variable {P : Program} {F : Nat → Nat}
theorem LRaw.slc {w : World} {n0 : Nat} {lv : Value} {css : List (List Value)} (h : LRaw w n0 lv css) {ok : Nat → Prop} (hok : ∀ b, n0 ≤ b → ok b) : SlC ok w lv css.length css.flatten := by
  rcases h.sl with ⟨rfl, rfl⟩ | ⟨BA, cap, rest, rfl, q2, q3, q4, q5⟩
  · exact SlC.nil
  · refine ⟨some ⟨BA, 0, none⟩, cap, rfl, q2, fun h => by simp at h, fun a ha _ => ?_⟩
    simp only [Option.some.injEq] at ha; subst ha
    refine ⟨hok _ q3, q4.lt, ?_⟩
    have := q4.cells.take css.flatten.length
    rwa [List.take_left] at this
theorem LRaw2.slc {w : World} {n0 : Nat} {lv : Value} {css : List (List Value)} (h : LRaw2 w n0 lv css) {ok : Nat → Prop} (hok : ∀ b, n0 ≤ b → ok b) : SlC ok w lv css.length css.flatten := by
  rcases h.sl with ⟨rfl, rfl⟩ | ⟨BA, cap, rest, rfl, q2, q3, q4, q5⟩
  · exact SlC.nil
  · refine ⟨some ⟨BA, 0, none⟩, cap, rfl, q2, fun h => by simp at h, fun a ha _ => ?_⟩
    simp only [Option.some.injEq] at ha; subst ha
    refine ⟨hok _ q3, q4.lt, ?_⟩
    have := q4.cells.take css.flatten.length
    rwa [List.take_left] at this
theorem got_one (hm : P.follows .mixedOrders = true) (h : liftF P (F lGot) = some (ir_lGot F)) {n : Int} {s : List UInt8} {null : Bool} {l : List TR} {u : List (Nat × List UInt8)} (hf : ∀ t ∈ l, GotAt P (F lGot) t)
    (hl : l.length ≤ 2147483647) (hul : u.length ≤ 2147483647) : GotAt P (F lGot) (.mk n s null l u) := by
  intro N w cs hN hrep
  obtain ⟨sv, lv0, uv0, css, uss, rfl, h1, h2, h3, h4, h5⟩ : ∃ sv lv0 uv0 css uss, cs = [.int .i64 n, sv, .bool null, lv0, uv0] ∧ SlC (fun b => b < N) w sv s.length (u8s s) ∧ SlC (fun b => b < N) w lv0 l.length css.flatten ∧ RepTL (fun b => b < N) w l css ∧
      SlC (fun b => b < N) w uv0 u.length uss.flatten ∧ RepU (fun b => b < N) w u uss := by
    cases hrep with | mk h1 h2 h3 h4 h5 => exact ⟨_, _, _, _, _, rfl, h1, h2, h3, h4, h5⟩
  refine call_of h hm (by simp) ?_
  have a0 : args0 [.agg [.int .i64 n, sv, .bool null, lv0, uv0].toArray] 0 = .agg [.int .i64 n, sv, .bool null, lv0, uv0].toArray := rfl
  generalize args0 [.agg [.int .i64 n, sv, .bool null, lv0, uv0].toArray] = σ0 at a0 ⊢
  rw [wpC_seq, wpC_blk]
  refine wpR_run ?_
  have ec : (Value.agg [.int .i64 n, sv, .bool null, lv0, uv0].toArray).cells.toList = [.int .i64 n, sv, .bool null, lv0, uv0] := rfl
  simp only [RK.run, ev, a0, ec]
  intro T1
  have b1 := Blk.new w [.int .i64 n, sv, .bool null, lv0, uv0] T1
  have m1 : Mod [] w (w.alloc (.cells [.int .i64 n, sv, .bool null, lv0, uv0].toArray T1)) := Mod.alloc _ _ _
  have z1 : (w.alloc (.cells [.int .i64 n, sv, .bool null, lv0, uv0].toArray T1)).heap.size = w.heap.size + 1 := by simp
  generalize w.alloc (.cells [.int .i64 n, sv, .bool null, lv0, uv0].toArray T1) = w1 at b1 m1 z1 ⊢
  refine wpR_run ?_
  have hz : ([Value.int .i64 0, .slice none 0 0, .bool false, .slice none 0 0, .slice none 0 0] : List Value) = tzero := rfl
  rw [hz]
  simp only [RK.run]
  intro T2
  have b2 := Blk.new w1 tzero T2
  have m2 : Mod [] w1 (w1.alloc (.cells tzero.toArray T2)) := Mod.alloc _ _ _
  have z2 : (w1.alloc (.cells tzero.toArray T2)).heap.size = w1.heap.size + 1 := by simp
  generalize w1.alloc (.cells tzero.toArray T2) = w2 at b2 m2 z2 ⊢
  simp only [wpR, thenC]
  rw [wpC_seq, wpC_blk]
  have b12 := b1.mod m2 (by simp)
  have s1 : ∀ x y, updo (updo σ0 (some 1) x) (some 2) y 1 = x := fun x y => by simp [updo, upd]
  have c0 := b12.cell 0
  have c1 := b12.cell 1
  have c2 := b12.cell 2
  simp only [List.getElem?_cons_zero, List.getElem?_cons_succ] at c0 c1 c2
  obtain ⟨svb, svc, esv⟩ := h1.shape
  refine wpR_step (v := .pointer (some ⟨w.heap.size, 0, none⟩)) (by simp [RK.val?, ev, updo, upd, Addr.add_mk]) ?_
  refine wpR_step (v := .int .i64 n) (by simp only [RK.val?, ev, updo, upd_same, c0]) ?_
  refine wpR_step (v := .pointer (some ⟨w.heap.size, 1, none⟩)) (by simp [RK.val?, ev, updo, upd, Addr.add_mk]) ?_
  refine wpR_step (v := sv) (by simp only [RK.val?, ev, updo, upd_same, c1]) ?_
  refine wpR_step (v := .pointer (some ⟨w.heap.size, 2, none⟩)) (by simp [RK.val?, ev, updo, upd, Addr.add_mk]) ?_
  refine wpR_step (v := .bool null) (by simp only [RK.val?, ev, updo, upd_same, c2]) ?_
  refine wpR_step (v := .agg [.int .i64 n, sv, .bool null, .slice none 0 0, .slice none 0 0].toArray) (by simp [RK.val?, ev, updo, upd, tzero, fillL, splice, Value.cells, esv]) ?_
  refine wpR_run ?_
  simp only [RK.run]
  intro T3
  obtain ⟨q1, q2, q3⟩ := new_put w2 tzero [.int .i64 n, sv, .bool null, .slice none 0 0, .slice none 0 0] T3 rfl (by rw [esv]; simp [Value.oneCell'])
  refine wpR_run ?_
  have ec2 : (Value.agg [.int .i64 n, sv, .bool null, .slice none 0 0, .slice none 0 0].toArray).cells.toList = [.int .i64 n, sv, .bool null, .slice none 0 0, .slice none 0 0] := rfl
  simp only [RK.run, ev, updo, upd]
  simp only [if_true, show (14 : Nat) ≠ 3 by decide, if_false, ec2]
  refine ⟨rfl, q1, ?_⟩
  have hsz3 : (putCells (w2.alloc (.cells tzero.toArray T3)) ⟨w2.heap.size, 0, none⟩ 0 [.int .i64 n, sv, .bool null, .slice none 0 0, .slice none 0 0]).heap.size = w2.heap.size + 1 := by rw [size_putCells]; simp
  generalize putCells (w2.alloc (.cells tzero.toArray T3)) ⟨w2.heap.size, 0, none⟩ 0 [.int .i64 n, sv, .bool null, .slice none 0 0, .slice none 0 0] = w3 at q2 q3 hsz3
  have m03 : Mod [] w w3 := (m1.trans m2).trans q3
  simp only [wpR, thenC]
  rw [wpC_seq]
  refine got_loop1 (Pb := w.heap.size) (b2 := w1.heap.size) (Ob := w2.heap.size) (n := n) (sv := sv) (null := null) hf m03 hN h2 h3 hl q2 (by omega) (by simp [upd]) (by simp [upd]) (by simp [upd]) ((b12.mod q3 (by simp)).cell 3) fun σ4 w4 lv tcs t1 t2 t3 hgs hln => ?_
  simp only [thenC]
  rw [wpC_seq]
  have m04 : Mod [w2.heap.size] w w4 := m03.nil.trans hgs.mod
  have nO : ∀ b ∈ [w2.heap.size], ¬ b < N := fun b hb => by simp only [List.mem_singleton] at hb; omega
  refine got_loop2 (Pb := w.heap.size) (b2 := w1.heap.size) (Ob := w2.heap.size) (n := n) (sv := sv) (null := null) (.inr m04) hN h4 h5 hul hgs.ob (by omega) t1 t2 t3 (((b12.mod q3 (by simp)).mod hgs.mod (by simp; omega)).cell 4) fun σ5 w5 uv ucs r2 r3 hgu hun => ?_
  simp only [thenC]
  rw [wpC_seq, wpC_blk]
  refine wpR_step (v := .agg [.int .i64 n, sv, .bool null, lv, uv].toArray) (by simp only [RK.val?, ev, r3, cellsAt_of' hgu.ob.cells (n := 5) rfl, Option.map_some]) ?_
  have m05 : Mod [w2.heap.size] w w5 := m04.trans hgu.mod
  have m45 := hgu.mod
  have own_ne : ∀ b, own lv = some b → w3.heap.size ≤ b := fun b hb => (hgs.raw.own hb).1
  have hraw5 : LRaw w5 w3.heap.size lv tcs := hgs.raw.mod m45 (fun b hb => by have := own_ne b hb; simp; omega)
  have hrep5 : RepTL (fun b => b < N ∨ (w3.heap.size ≤ b ∧ own lv ≠ some b)) w5 l tcs := hgs.rep.mod m45 (fun b hb hc => by
    simp only [List.mem_singleton] at hb
    rcases hc with hc | hc <;> omega) fun _ _ h => h
  have hb25 : Blk w5 w1.heap.size tzero := ((b2.mod q3 (by simp)).mod hgs.mod (by simp; omega)).mod m45 (by simp; omega)
  have hs5 := h1.mod (ok' := fun b => b < N) m05 nO fun _ _ h => h
  have hfin : RepT (fun b => (b < N ∨ w.heap.size ≤ b) ∧ b ≠ w1.heap.size) w5 (.mk n s null l u) [.int .i64 n, sv, .bool null, lv, uv] := by
    refine .mk (css := tcs) (uss := ucs) (hs5.mod (Mod.refl [] _) (by simp) fun b _ hb => ⟨.inl hb, by omega⟩) ?_ (hrep5.mod (Mod.refl [] _) (by simp) fun b _ hb => ?_) ?_ (hgu.rep.mod (Mod.refl [] _) (by simp) fun b _ hb => ⟨.inl hb, by omega⟩)
    · rw [← hln]; exact hraw5.slc fun b hb => ⟨.inr (by omega), by omega⟩
    · rcases hb with hb | hb
      · exact ⟨.inl hb, by omega⟩
      · exact ⟨.inr (by omega), by omega⟩
    · rw [← hun]; exact hgu.raw.slc fun b hb => ⟨.inr (by have := hgs.mod.size; omega), by have := hgs.mod.size; omega⟩
  have hput : Mod [w1.heap.size] w5 (putCells w5 ⟨w1.heap.size, 0, none⟩ 0 [.int .i64 n, sv, .bool null, lv, uv]) := Mod.put (by simp)
  have hp := hb25.put (o := 0) (vs := [.int .i64 n, sv, .bool null, lv, uv]) (by simp [tzero])
  rw [splice_all (by rfl)] at hp
  refine wpR_run ?_
  have ec3 : (Value.agg [.int .i64 n, sv, .bool null, lv, uv].toArray).cells.toList = [.int .i64 n, sv, .bool null, lv, uv] := rfl
  simp only [RK.run, ev, updo, upd]
  simp only [show (2 : Nat) ≠ 48 by decide, if_false, if_true, r2, ec3]
  refine ⟨rfl, stOk_many hb25 (by simp [tzero]) hfin.oneCell, ?_⟩
  simp only [wpR, wpC, thenC, postC, rvals, List.mapM_cons, List.mapM_nil, RV.val, upd, show (2 : Nat) ≠ 48 by decide, if_false, r2, cellsAt_of' hp.cells (n := 5) rfl, Option.bind_eq_bind, Option.map_some, Option.bind_some, Option.pure_def, tup_one]
  refine ⟨_, rfl, hfin.mod hput (fun b hb hc => by simp only [List.mem_singleton] at hb; exact hc.2 hb) (fun b _ hb => hb.1), ?_⟩
  refine Mod.drop (b := w1.heap.size) (S := []) ?_ (by omega)
  refine Mod.drop (b := w2.heap.size) (S := [w1.heap.size]) ?_ (by omega)
  exact (m05.mono (by simp)).trans (hput.mono (by simp))
end
end Go.Msk

namespace Go.Msk
open Go.RowKit
set_option maxRecDepth 100000
theorem RepFL.lowN {w : World} {l : List FD} {cs : List (List Value)} (h : RepFL anyB w l cs) : RepFL (fun b => b < w.heap.size) w l cs := h.mod (Mod.refl [] w) (by simp) fun _ hb _ => hb
section
variable {P : Program} {F : Nat → Nat}
attribute [local simp] gOk updo upd ev RK.val? isShift intBin Addr.add_mk args0 Value.cells undef
theorem fit_body1 (hm : P.follows .mixedOrders = true) (ha : liftF P (F sAt) = some (ir_sAt F)) {N : Nat} {w0 w3 w : World} {c : Nat} {a : Addr} {fds : List FD} {css tcs : List (List Value)} {ver : Int} {t : TR} {ts : List Value} {tb Ob j n : Nat} {lv uv : Value} {out : List TR} {f : FD} {σ : Sl} {Q : Exit → Sl → World → Prop}
    (hF : FitdC P F f) (hN : N ≤ w0.heap.size) (hm03 : Mod [] w0 w3) (hO : w0.heap.size ≤ Ob) (hj : fds[j]? = some f) (hjn : j < n) (hn : n = fds.length) (hn2 : n < 1000) (hsv : SlC anyB w0 (.slice (some a) n c) n css.flatten) (hr : RepFL anyB w0 fds css) (ht : RepT (fun b => b < N) w0 t ts) (hbt3 : Blk w3 tb ts) (htb : tb ≠ Ob)
    (hg : GS w3 w Ob 0 (.slice none 0 0) lv uv false N out tcs) (htl : tcs.length = j)
    (h1 : σ 1 = .int .i64 ver) (h5 : σ 5 = .pointer (some ⟨tb, 0, none⟩)) (h7 : σ 7 = .pointer (some ⟨Ob, 0, none⟩)) (h13 : σ 13 = .slice (some a) n c) (h15 : σ 15 = .int .i64 (j : Nat))
    (hQ : ∀ σ' w' lv' tcs', (∀ s, s < 17 → s ≠ 8 → s ≠ 9 → σ' s = σ s) → GS w3 w' Ob 0 (.slice none 0 0) lv' uv false N (out ++ [f.fit ver (t.at j)]) tcs' → tcs'.length = j + 1 → Q .normal σ' w') : wpC P (ir_sFit_1 F) Q σ w := by
  unfold ir_sFit_1
  have hm0 : Mod [Ob] w0 w := hm03.nil.trans hg.mod
  have hbt : Blk w tb ts := hbt3.mod hg.mod (by simpa using htb)
  have nO : ∀ b ∈ [Ob], ¬ b < w0.heap.size := fun b hb => by simp only [List.mem_singleton] at hb; omega
  have nN : ∀ b ∈ [Ob], ¬ b < N := fun b hb => by simp only [List.mem_singleton] at hb; omega
  have hsv1 : SlC anyB w (.slice (some a) n c) n css.flatten := hsv.lowN.mod hm0 nO fun _ _ _ => trivial
  have hr1 : RepFL anyB w fds css := hr.lowN.mod hm0 nO fun _ _ _ => trivial
  have ht1 : RepT (fun b => b < N) w t ts := ht.mod hm0 nN fun _ _ h => h
  obtain ⟨fcs, hcs, hrf⟩ := hr1.nth hj
  obtain ⟨a', c', ea, -, hcell⟩ := hsv1.flat (by rw [hn]; exact hr1.length) hr1.eight hcs
  simp only [Value.slice.injEq, Option.some.injEq, true_and] at ea
  obtain ⟨rfl, rfl⟩ := ea
  rw [wpC_seq, wpC_blk]
  refine go1 (v := .int .i64 (j : Nat)) rfl (by simp [h15]) ?_
  refine go1 (v := .pointer (some (a.add (j * 8)))) rfl (by simp [h13, h15, hjn]) ?_
  refine go1 (v := .agg fcs.toArray) rfl (by simp [hcell]) ?_
  refine goAlloc fun w1 hb1 hm1 => ?_
  refine go1 (v := .int .i64 (j : Nat)) rfl (by simp) ?_
  refine goSt (b := w.heap.size) (v := .agg fcs.toArray) (by simp) (by simp) hb1 (by simp [hrf.eight]) rfl (by simpa using hrf.oneCell) fun w2 hb2 hm2 => ?_
  have hb2 : Blk w2 w.heap.size fcs := by simpa using hb2
  have hm02 : Mod [] w w2 := Mod.drop (b := w.heap.size) (S := []) (hm1.nil.trans hm2) (Nat.le_refl _)
  refine wpR_done ?_
  simp only [thenC, wpC]
  have hmd : Mod [] w w2.drew := hm02.trans (Mod.drew _ _)
  have hg2 := hg.same hmd
  have hbf : Blk w2.drew w.heap.size fcs := hb2.mod (Mod.drew [] _) (by simp)
  have hbt2 : Blk w2.drew tb ts := hbt.mod hmd (by simp)
  have ht2 := ht1.mod (ok' := fun b => b < N) hmd (by simp) fun _ _ h => h
  have hrf2 : RepF anyB w2.drew f fcs := hrf.keep hmd
  have hNw : N ≤ w2.drew.heap.size := Nat.le_trans hN (Nat.le_trans hm0.size hmd.size)
  have sz : w3.heap.size ≤ w2.drew.heap.size := Nat.le_trans hg.mod.size hmd.size
  generalize hw4 : w2.drew = w4 at hmd hg2 hbf hbt2 ht2 hrf2 hNw sz ⊢
  refine wpD_of_B (fun i v w' => match i with | 6 => ∃ cs, v = .agg cs.toArray ∧ RepT (fun b => b < N) w' (t.at j) cs | 7 => ∃ cs, v = .agg cs.toArray ∧ RepT (fun b => b < N ∨ w4.heap.size ≤ b) w' (f.fit ver (t.at j)) cs | 8 => ∃ sb cs, v = .slice (some ⟨sb, 0, none⟩) 1 1 ∧ Blk w' sb cs ∧ RepT (fun b => b < N ∨ w4.heap.size ≤ b) w' (f.fit ver (t.at j)) cs | _ => True) (by
    intro i v w w' h hm
    split at h
    · obtain ⟨cs, e1, e2⟩ := h; exact ⟨cs, e1, e2.mod hm (by simp) fun _ _ h => h⟩
    · obtain ⟨cs, e1, e2⟩ := h; exact ⟨cs, e1, e2.mod hm (by simp) fun _ _ h => h⟩
    · obtain ⟨sb, cs, e1, e2, e3⟩ := h; exact ⟨sb, cs, e1, e2.mod hm (by simp), e3.mod hm (by simp) fun _ _ h => h⟩
    · trivial) ?_
  refine bo1 (v := .pointer (some ⟨Ob, 3, none⟩)) rfl (by simp [h7]) ?_
  refine bo1 (v := lv) rfl (by simp; exact hg2.ob.cell 3) ?_
  refine bo1 (v := .agg fcs.toArray) rfl (by simp [cellsAt_of' hbf.cells hrf.eight]) ?_
  refine bo1 (v := .int .i64 ver) rfl (by simp [h1]) ?_
  refine bo1 (v := .agg ts.toArray) rfl (by simp [h5, cellsAt_of' hbt2.cells ht.five]) ?_
  refine bo1 (v := .int .i64 (j : Nat)) rfl (by simp) ?_
  refine boCall (vs := [.agg ts.toArray, .int .i64 (j : Nat)]) rfl (by simp) (fun w' hm' _ => (at_callO hm ha (ht2.mod (ok' := fun b => b < N) hm' (by simp) fun _ _ h => h)).mono ?_) ?_
  · rintro e w'' ⟨cs, rfl, hr, hm2⟩; exact ⟨_, rfl, hm2, cs, rfl, hr⟩
  rintro v6 ⟨_, cs6, rfl, -⟩
  refine boCall (vs := [.agg fcs.toArray, .int .i64 ver, .agg cs6.toArray]) rfl (by simp) (fun w' hm' hkn => ?_) ?_
  · obtain ⟨cs, e1, e2⟩ := known_get (j := 6) (t := 26) hkn (by simp) rfl rfl rfl rfl
    simp only [updo, upd, if_true, Value.agg.injEq, Array.mk.injEq] at e1
    have e1 : cs6 = cs := by simpa using e1
    subst e1
    refine (hF N w' fcs ver (t.at j) cs6 (Nat.le_trans hNw hm'.size) (hrf2.keep hm') e2).mono ?_
    rintro e w'' ⟨cs', rfl, g1, g2⟩
    exact ⟨_, rfl, g2, cs', rfl, g1.mod (Mod.refl [] _) (by simp) fun b _ hb => hb.imp id fun h => Nat.le_trans hm'.size h⟩
  rintro v7 ⟨_, cs7, rfl, h57⟩
  have h75 := h57.five
  refine boN rfl (fun w' hm' hkn => ?_) ?_
  · obtain ⟨cs, e1, e2⟩ := known_get (j := 7) (t := 27) hkn (by simp) rfl rfl rfl rfl
    simp only [updo, upd, if_true, Value.agg.injEq, Array.mk.injEq] at e1
    have e1 : cs7 = cs := by simpa using e1
    subst e1
    refine bslice_run (cs := cs7) (n0 := 0) (by simp) h75 (Nat.zero_le _) fun v w6 hbs hm6 => ?_
    obtain ⟨sb, cs', g1, g2, g3, g4, g5⟩ := hbs
    have : cs' = cs7 := by
      have := congrArg (fun v => match v with | Value.agg a => a.toList | _ => []) g5
      simpa using this
    subst this
    exact ⟨hm6, sb, cs', g1, g3, e2.mod hm6 (by simp) fun _ _ h => h⟩
  rintro v8 -
  intro w5 hm5 hkn
  obtain ⟨sb, es, e8, hblk, htree⟩ := known_get (j := 8) (t := 28) hkn (by simp) rfl rfl rfl rfl
  simp only [updo, upd, if_true] at e8
  subst e8
  refine (hg2.same hm5).step (wr := w4) (by simp) (by simp) hblk htree (by omega) (fun b hb => (hg2.raw.own hb).2) sz (fun v => by simp [h7]) (by decide) fun w6 lv' hgs6 => ?_
  refine hQ _ w6 lv' _ (fun s s1 s2 s3 => ?_) hgs6 (by simp [htl])
  simp only [updo, upd]
  repeat rw [if_neg (by omega)]
theorem fit_body2 (hm : P.follows .mixedOrders = true) (hw : liftF P (F sWhole) = some (ir_sWhole F)) {N : Nat} {w3 w : World} {c : Nat} {a : Addr} {u out : List (Nat × List UInt8)} {uss ucs : List (List Value)} {Ob j n k : Nat} {b : List UInt8} {lv uv : Value} {σ : Sl} {Q : Exit → Sl → World → Prop}
    (hN : N ≤ w3.heap.size) (hj : u[j]? = some (k, b)) (hjn : j < n) (hn : n = u.length) (hn2 : n ≤ 32767) (hu : SlC (fun b => b ≠ Ob) w3 (.slice (some a) n c) n uss.flatten) (hr : RepU (fun b => b < N) w3 u uss)
    (hg : GU w3 w Ob 0 (.slice none 0 0) lv uv false N out ucs) (hul : ucs.length = j)
    (h7 : σ 7 = .pointer (some ⟨Ob, 0, none⟩)) (h35 : σ 35 = .slice (some a) n c) (h37 : σ 37 = .int .i64 (j : Nat))
    (hQ : ∀ σ' w' uv' ucs', (∀ s, s < 39 → s ≠ 10 → s ≠ 11 → σ' s = σ s) → GU w3 w' Ob 0 (.slice none 0 0) lv uv' false N (out ++ [(k, wholeP b)]) ucs' → ucs'.length = j + 1 → Q .normal σ' w') : wpC P (ir_sFit_2 F) Q σ w := by
  unfold ir_sFit_2
  have hnob := hg.nob
  have nO : ∀ b ∈ [Ob], ¬ b ≠ Ob := fun b hb => by simpa using hb
  have nN : ∀ b ∈ [Ob], ¬ b < N := fun b hb => by simp only [List.mem_singleton] at hb; omega
  have hu1 : SlC anyB w (.slice (some a) n c) n uss.flatten := hu.mod hg.mod nO fun _ _ _ => trivial
  have hr1 : RepU (fun b => b < N) w u uss := hr.mod hg.mod nN fun _ _ h => h
  obtain ⟨v, hcs, hv⟩ := hr1.nth hj
  obtain ⟨a', c', ea, -, hcell⟩ := hu1.flat (by rw [hn]; exact hr1.length) hr1.two hcs
  simp only [Value.slice.injEq, Option.some.injEq, true_and] at ea
  obtain ⟨rfl, rfl⟩ := ea
  rw [wpC_seq, wpC_blk]
  refine go1 (v := .pointer (some (a.add (j * 2)))) rfl (by simp [h35, h37, hjn]) ?_
  refine go1 (v := .agg #[.int .u32 (k : Nat), v]) rfl (by simp [hcell]) ?_
  refine goAlloc fun w1 hb1 hm1 => ?_
  refine goSt (b := w.heap.size) (v := .agg #[.int .u32 (k : Nat), v]) (by simp) (by simp) hb1 rfl rfl (two_one hv.one) fun w2 hb2 hm2 => ?_
  have hb2 : Blk w2 w.heap.size [.int .u32 (k : Nat), v] := by simpa using hb2
  have hm02 : Mod [] w w2 := Mod.drop (b := w.heap.size) (S := []) (hm1.nil.trans hm2) (Nat.le_refl _)
  refine wpR_done ?_
  simp only [thenC, wpC]
  have hmd : Mod [] w w2.drew := hm02.trans (Mod.drew _ _)
  have hg2 := hg.same hmd
  have hbf : Blk w2.drew w.heap.size [.int .u32 (k : Nat), v] := hb2.mod (Mod.drew [] _) (by simp)
  have hv2 := hv.mod (ok' := fun b => b < N) hmd (by simp) fun _ _ h => h
  generalize hw4 : w2.drew = w4 at hmd hg2 hbf hv2 ⊢
  have c2 := fun k => hbf.cell k
  refine wpD_of_B (fun i v w' => match i with | 6 => SlC (fun b => b < N) w' v (wholeP b).length (u8s (wholeP b)) | 8 => ∃ sb v', v = .slice (some ⟨sb, 0, none⟩) 1 1 ∧ Blk w' sb [.int .u32 (k : Nat), v'] ∧ SlC (fun b => b < N) w' v' (wholeP b).length (u8s (wholeP b)) | _ => True) (by
    intro i v w w' h hm
    split at h
    · exact h.mod hm (by simp) fun _ _ h => h
    · obtain ⟨sb, v', e1, e2, e3⟩ := h; exact ⟨sb, v', e1, e2.mod hm (by simp), e3.mod hm (by simp) fun _ _ h => h⟩
    · trivial) ?_
  refine bo1 (v := .pointer (some ⟨Ob, 4, none⟩)) rfl (by simp [h7]) ?_
  refine bo1 (v := uv) rfl (by simp; exact hg2.ob.cell 4) ?_
  refine bo1 (v := .pointer (some ⟨w.heap.size, 0, none⟩)) rfl (by simp) ?_
  refine bo1 (v := .int .u32 (k : Nat)) rfl (by simp [c2]) ?_
  refine bo1 (v := .pointer (some ⟨w.heap.size, 1, none⟩)) rfl (by simp) ?_
  refine bo1 (v := v) rfl (by simp [c2]) ?_
  refine boCall (vs := [v]) rfl (by simp) (fun w' hm' _ => (whole_call hm hw (hv2.mod (ok' := fun b => b < N) hm' (by simp) fun _ _ h => h)).mono ?_) ?_
  · rintro e w'' ⟨rfl, v', rfl, h⟩; exact ⟨_, rfl, Mod.refl _ _, h⟩
  rintro v6 ⟨_, h6⟩
  obtain ⟨b6, c6, e6⟩ := h6.shape
  refine bo1 (v := .agg #[.int .u32 (k : Nat), v6]) rfl (by simp [fillL, splice, e6]) ?_
  refine boN rfl (fun w' hm' hkn => ?_) ?_
  · have h6 := known_get (j := 6) (t := 47) hkn (by simp) rfl rfl rfl rfl
    simp only [updo, upd] at h6
    simp only [RK.run, List.map_cons, List.map_nil, ev, updo, upd, if_true]
    have hf : fillL (zrep 1 [Value.int .u32 0, .slice none 0 0]) [(0, 2, Value.agg #[.int .u32 (k : Nat), v6])] = some [.int .u32 (k : Nat), v6] := by
      simp [zrep, fillL, splice, Value.cells]
    rw [hf]
    intro T
    exact ⟨Mod.alloc _ _ _, w'.heap.size, v6, rfl, Blk.new _ _ _, SlC.mod (ok' := fun b => b < N) h6 (Mod.alloc [] _ _) (by simp) fun _ _ h => h⟩
  rintro v8 -
  intro w5 hm5 hkn
  obtain ⟨sb, v', e8, hblk, hsl⟩ := known_get (j := 8) (t := 49) hkn (by simp) rfl rfl rfl rfl
  simp only [updo, upd, if_true] at e8
  subst e8
  refine (hg2.same hm5).step (by simp) (by simp) hblk hsl (by omega) (fun v => by simp [h7]) (by decide) fun w6 uv' hgs6 => ?_
  refine hQ _ w6 uv' _ (fun s s1 s2 s3 => ?_) hgs6 (by simp [hul])
  simp only [updo, upd]
  repeat rw [if_neg (by omega)]
end
end Go.Msk

namespace Go.Msk
open Go.RowKit
set_option maxRecDepth 100000
theorem unkP_len (fs : List FD) (u : List (Nat × List UInt8)) : (unknownP fs u).length ≤ 32767 := by
  unfold unknownP
  have := unk_length (knownP fs) (u.take 32767) []
  simp only [List.length_nil, Nat.zero_add] at this
  refine Nat.le_trans this ?_
  simp; omega
section
variable {P : Program} {F : Nat → Nat}
attribute [local simp] gOk updo upd ev RK.val? isShift intBin Addr.add_mk args0 Value.cells undef
theorem fit_call (hm : P.follows .mixedOrders = true) (h : liftF P (F sFit) = some (ir_sFit F)) (ha : liftF P (F sAt) = some (ir_sAt F)) (hw : liftF P (F sWhole) = some (ir_sWhole F)) (hun : liftF P (F sUnknown) = some (ir_sUnknown F)) (hk : liftF P (F sKnown) = some (ir_sKnown F))
    {fds : List FD} (hlen : fds.length < 1000) (htag : ∀ f ∈ fds, f.tag < 2147483648) (hF : ∀ f ∈ fds, FitdC P F f) : FitC P F fds := by
  intro N w sv css ver t ts hN hsv hr ht
  unfold ir_sFit at h
  refine call_of h hm (by simp) ?_
  clear h
  obtain ⟨sb, sc, es⟩ := hsv.shape
  have h5 := ht.five
  have hr8 := hr.length
  rw [wpC_seq, wpC_blk]
  refine goBox rfl fun w1 hb1 hm1 => ?_
  have e1 : (ev (args0 [sv, .int .i64 ver, .agg ts.toArray]) (.tmp 2)).cells.toList = ts := by simp
  rw [e1] at hb1
  refine goAlloc fun w2 hb2 hm2 => ?_
  have s1 := hm1.size
  have l1 := hb1.lt
  have l2 := hb2.lt
  have s2 := hm2.size
  refine wpR_done ?_
  rw [wpC_seq, wpC_blk]
  refine go1 (v := .agg tzero.toArray) rfl rfl ?_
  refine goAlloc fun w3 hb3 hm3 => ?_
  refine goSt (b := w2.heap.size) (v := .agg tzero.toArray) (by simp) (by simp) hb3 rfl rfl (by simp [tzero, Value.oneCell']) fun w4 hb4 hm4 => ?_
  have hb4 : Blk w4 w2.heap.size tzero := by simpa using hb4
  have hm24 : Mod [] w2 w4 := Mod.drop (b := w2.heap.size) (S := []) (hm3.nil.trans hm4) (Nat.le_refl _)
  have hm14 : Mod [] w1 w4 := hm2.trans hm24
  have hm04 : Mod [] w w4 := hm1.trans hm14
  have hbt4 : Blk w4 w.heap.size ts := hb1.mod hm14 (by simp)
  have hbr4 : Blk w4 w1.heap.size tzero := hb2.mod hm24 (by simp)
  have s4 := hm24.size
  refine wpR_done ?_
  rw [wpC_seq, wpC_seq, wpC_blk]
  refine go1 (v := sv) rfl (by simp) ?_
  refine go1 (v := .int .i64 (fds.length : Nat)) rfl (by simp [es]) ?_
  refine go1 rfl rfl (wpR_done ?_)
  refine rangeLoop (n := fds.length) (fun j σ w' => σ 0 = sv ∧ σ 1 = .int .i64 ver ∧ σ 5 = .pointer (some ⟨w.heap.size, 0, none⟩) ∧ σ 6 = .pointer (some ⟨w1.heap.size, 0, none⟩) ∧ σ 7 = .pointer (some ⟨w2.heap.size, 0, none⟩) ∧ σ 13 = sv ∧ σ 14 = .int .i64 (fds.length : Nat) ∧ σ 15 = .int .i64 (j : Nat) ∧
      ∃ lv tcs, GS w4 w' w2.heap.size 0 (.slice none 0 0) lv (.slice none 0 0) false N ((fitL ver fds 0 t).take j) tcs ∧ tcs.length = j) (by omega) (by omega) (fun j σ w h => ⟨h.2.2.2.2.2.2.2.1, h.2.2.2.2.2.2.1⟩) ?_ ?_ ?_
  · refine ⟨by simp, by simp, by simp, by simp, by simp, by simp, by simp, by simp, .slice none 0 0, [], ⟨hb4, ⟨by simp, .inl ⟨rfl, rfl⟩⟩, by simpa using .nil, Mod.refl _ _, by have := hb4.lt; omega, by omega⟩, rfl⟩
  · rintro j σ w5 hj ⟨g0, g1, g5, g6, g7, g13, g14, g15, lv, tcs, hg, htl⟩
    have hfj : fds[j]? = some fds[j] := List.getElem?_eq_getElem hj
    have hfit := fitL_get ver t fds 0 j _ hfj
    rw [Nat.zero_add] at hfit
    obtain ⟨a, ea⟩ : ∃ a, sb = some a := by
      cases sb with
      | some a => exact ⟨a, rfl⟩
      | none =>
        exfalso
        obtain ⟨base, cap, e, q1, q2, -⟩ := hsv
        rw [es] at e; cases e
        have := q2 rfl
        omega
    subst ea
    have eqn : ∀ s, s < 17 → s ≠ 16 → (upd σ 16 (.bool true)) s = σ s := fun s h1 h2 => by simp only [upd]; rw [if_neg h2]
    refine fit_body1 (ver := ver) (t := t) (n := fds.length) (a := a) (c := sc) (tb := w.heap.size) (Ob := w2.heap.size) (j := j) hm ha (hF _ (List.mem_of_getElem? hfj)) hN hm04 (by omega) hfj hj rfl hlen (by rw [← es]; exact hsv) hr ht hbt4 (by omega) hg htl
      (by simp [g1]) (by simp [g5]) (by simp [g7]) (by simp [g13, es]) (by simp [g15]) fun σ' w' lv' tcs' hfr hg' hl' => ?_
    have fr : ∀ s, s < 16 → s ≠ 8 → s ≠ 9 → σ' s = σ s := fun s h1 h2 h3 => by rw [hfr s (by omega) h2 h3, eqn s (by omega) (by omega)]
    simp only [rngP]
    refine ⟨(fr 15 (by omega) (by omega) (by omega)).trans g15, ?_⟩
    have fr2 : ∀ s, s < 15 → s ≠ 8 → s ≠ 9 → upd (upd σ' 31 (.int .i64 ((j + 1 : Nat) : Int))) 15 (.int .i64 ((j + 1 : Nat) : Int)) s = σ s := fun s h1 h2 h3 => by
      simp only [upd]; rw [if_neg (by omega), if_neg (by omega)]; exact fr s (by omega) h2 h3
    refine ⟨(fr2 0 (by omega) (by omega) (by omega)).trans g0, (fr2 1 (by omega) (by omega) (by omega)).trans g1, (fr2 5 (by omega) (by omega) (by omega)).trans g5, (fr2 6 (by omega) (by omega) (by omega)).trans g6, (fr2 7 (by omega) (by omega) (by omega)).trans g7, (fr2 13 (by omega) (by omega) (by omega)).trans g13,
      (fr2 14 (by omega) (by omega) (by omega)).trans g14, by simp, lv', tcs', ?_, hl'⟩
    rw [take_succ_of hfit]
    exact hg'
  · rintro σ w5 ⟨g0, g1, g5, g6, g7, g13, g14, g15, lv, tcs, hg, htl⟩
    have hfull : (fitL ver fds 0 t).take fds.length = fitL ver fds 0 t := List.take_of_length_le (by rw [fitL_length]; exact Nat.le_refl _)
    rw [hfull] at hg
    simp only [thenC]
    -- the unknown tags
    have hm05 : Mod [w2.heap.size] w w5 := hm04.nil.trans hg.mod
    have nO : ∀ b ∈ [w2.heap.size], ¬ b < w.heap.size := fun b hb => by simp only [List.mem_singleton] at hb; omega
    have nN : ∀ b ∈ [w2.heap.size], ¬ b < N := fun b hb => by simp only [List.mem_singleton] at hb; omega
    have hbt5 : Blk w5 w.heap.size ts := hbt4.mod hg.mod (by simp; omega)
    have hbr5 : Blk w5 w1.heap.size tzero := hbr4.mod hg.mod (by simp; omega)
    have hsv5 : SlC anyB w5 sv fds.length css.flatten := hsv.lowN.mod hm05 nO fun _ _ _ => trivial
    have hr5 : RepFL anyB w5 fds css := hr.lowN.mod hm05 nO fun _ _ _ => trivial
    have ht5 : RepT (fun b => b < N) w5 t ts := ht.mod hm05 nN fun _ _ h => h
    cases ht5 with
    | @mk n s tnull l u sv' lv' uv0 tcss uss q1 q2 q3 q4 q5 =>
    rw [wpC_seq, wpC_seq, wpC_blk]
    have c5 := fun k => hbt5.cell k
    refine go1 (v := sv) rfl (by simp [g0]) ?_
    refine go1 (v := .pointer (some ⟨w.heap.size, 4, none⟩)) rfl (by simp [g5]) ?_
    refine go1 (v := uv0) rfl (by simp [c5]) ?_
    refine goCall rfl (vs := [sv, uv0]) (by simp) (unknown_callO hm hun hk hsv5 hr5 (by omega) htag q4.any (Nat.le_trans hN hm05.size) q5) ?_
    rintro e w6 ⟨uv1, ucs, rfl, hu1, hur1, hm6⟩
    have hul := unkP_len fds u
    obtain ⟨ub, uc, eu⟩ := hu1.shape
    refine ⟨uv1, rfl, ?_⟩
    refine go1 (v := .int .i64 ((unknownP fds u).length : Nat)) rfl (by simp [eu]) ?_
    refine go1 rfl rfl (wpR_done ?_)
    have hg6 := hg.same hm6
    have hob6 := hg6.ob
    have lo := hob6.lt
    have hNO := hg6.nob
    have hs56 := hm6.size
    have lo5 := hg.ob.lt
    have hu2 : SlC (fun b => b ≠ w2.heap.size) w6 uv1 (unknownP fds u).length ucs.flatten := hu1.mod (Mod.refl [] _) (by simp) fun b _ hb => by omega
    refine rangeLoop (n := (unknownP fds u).length) (fun j σ w' => σ 6 = .pointer (some ⟨w1.heap.size, 0, none⟩) ∧ σ 7 = .pointer (some ⟨w2.heap.size, 0, none⟩) ∧ σ 35 = uv1 ∧ σ 36 = .int .i64 ((unknownP fds u).length : Nat) ∧ σ 37 = .int .i64 (j : Nat) ∧
      ∃ uv ucs', GU w6 w' w2.heap.size 0 (.slice none 0 0) lv uv false N ((fitU fds u).take j) ucs' ∧ ucs'.length = j) (by omega) (by omega) (fun j σ w h => ⟨h.2.2.2.2.1, h.2.2.2.1⟩) ?_ ?_ ?_
    · refine ⟨by simp [g6], by simp [g7], by simp, by simp, by simp, .slice none 0 0, [], ⟨hob6, ⟨by simp, .inl ⟨rfl, rfl⟩⟩, by simpa using .nil, Mod.refl _ _, lo, hNO⟩, rfl⟩
    · rintro j σ1 w7 hj ⟨k6, k7, k35, k36, k37, uv, ucs', hgu, hul'⟩
      obtain ⟨p, hp⟩ : ∃ p, (unknownP fds u)[j]? = some p := ⟨_, List.getElem?_eq_getElem hj⟩
      obtain ⟨k, b⟩ := p
      have hfit : (fitU fds u)[j]? = some (k, wholeP b) := by unfold fitU; rw [List.getElem?_map, hp]; rfl
      obtain ⟨a, ea⟩ : ∃ a, ub = some a := by
        cases ub with
        | some a => exact ⟨a, rfl⟩
        | none =>
          exfalso
          obtain ⟨base, cap, e, q1, q2, -⟩ := hu1
          rw [eu] at e; cases e
          have := q2 rfl
          omega
      subst ea
      refine fit_body2 (n := (unknownP fds u).length) (a := a) (c := uc) (Ob := w2.heap.size) (j := j) hm hw (Nat.le_trans hN (Nat.le_trans hm05.size hm6.size)) hp hj rfl hul (by rw [← eu]; exact hu2) hur1 hgu hul' (by simp [k7]) (by simp [k35, eu]) (by simp [k37]) fun σ' w' uv' ucs'' hfr hg' hl' => ?_
      have fr : ∀ s, s < 38 → s ≠ 10 → s ≠ 11 → σ' s = σ1 s := fun s h1 h2 h3 => by
        rw [hfr s (by omega) h2 h3]; simp only [upd]; rw [if_neg (by omega)]
      simp only [rngP]
      refine ⟨(fr 37 (by omega) (by omega) (by omega)).trans k37, ?_⟩
      have fr2 : ∀ s, s < 37 → s ≠ 10 → s ≠ 11 → upd (upd σ' 52 (.int .i64 ((j + 1 : Nat) : Int))) 37 (.int .i64 ((j + 1 : Nat) : Int)) s = σ1 s := fun s h1 h2 h3 => by
        simp only [upd]; rw [if_neg (by omega), if_neg (by omega)]; exact fr s (by omega) h2 h3
      refine ⟨(fr2 6 (by omega) (by omega) (by omega)).trans k6, (fr2 7 (by omega) (by omega) (by omega)).trans k7, (fr2 35 (by omega) (by omega) (by omega)).trans k35, (fr2 36 (by omega) (by omega) (by omega)).trans k36, by simp, uv', ucs'', ?_, hl'⟩
      rw [take_succ_of hfit]
      exact hg'
    · rintro σ1 w7 ⟨k6, k7, k35, k36, k37, uv, ucs', hgu, hul'⟩
      have hfullU : (fitU fds u).take (unknownP fds u).length = fitU fds u := List.take_of_length_le (by simp [fitU])
      rw [hfullU] at hgu
      simp only [thenC]
      rw [wpC_seq, wpC_blk]
      have m67 := hgu.mod
      have m07 : Mod [w2.heap.size] w w7 := (hm05.trans hm6.nil).trans m67
      have own_ne : ∀ b, own lv = some b → w4.heap.size ≤ b := fun b hb => (hg6.raw.own hb).1
      have hraw7 : LRaw w7 w4.heap.size lv tcs := hg6.raw.mod m67 (fun b hb => by have := own_ne b hb; have := hb4.lt; simp; omega)
      have hrep7 : RepTL (fun b => b < N ∨ (w4.heap.size ≤ b ∧ own lv ≠ some b)) w7 (fitL ver fds 0 (.mk n s tnull l u)) tcs := hg6.rep.mod m67 (fun b hb hc => by
        simp only [List.mem_singleton] at hb
        have := hb4.lt
        rcases hc with hc | hc <;> omega) fun _ _ h => h
      have hbr7 : Blk w7 w1.heap.size tzero := (hbr5.mod hm6 (by simp)).mod m67 (by simp; omega)
      have hlf : (fitL ver fds 0 (.mk n s tnull l u)).length = tcs.length := by rw [fitL_length]; exact htl.symm
      have hluf : (fitU fds u).length = ucs'.length := by simp [fitU, hul']
      have s6 : w4.heap.size ≤ w6.heap.size := Nat.le_trans hg.mod.size hm6.size
      have hfin : RepT (fun b => (b < N ∨ w.heap.size ≤ b) ∧ b ≠ w1.heap.size) w7 (fitT ver fds (.mk n s tnull l u)) [.int .i64 0, .slice none 0 0, .bool false, lv, uv] := by
        refine .mk (s := []) (css := tcs) (uss := ucs') SlC.nil ?_ (hrep7.mod (Mod.refl [] _) (by simp) fun b _ hb => ?_) ?_ (hgu.rep.mod (Mod.refl [] _) (by simp) fun b _ hb => ⟨.inl hb, by omega⟩)
        · rw [hlf]; exact hraw7.slc fun b hb => ⟨.inr (by omega), by omega⟩
        · rcases hb with hb | hb
          · exact ⟨.inl hb, by omega⟩
          · exact ⟨.inr (by omega), by omega⟩
        · show SlC _ _ _ (fitU fds u).length _
          rw [hluf]; exact hgu.raw.slc fun b hb => ⟨.inr (by omega), by omega⟩
      refine go1 (v := .agg #[.int .i64 0, .slice none 0 0, .bool false, lv, uv]) rfl (by simp [k7, cellsAt_of' hgu.ob.cells (n := 5) rfl]) ?_
      refine goSt (b := w1.heap.size) (v := .agg #[.int .i64 0, .slice none 0 0, .bool false, lv, uv]) (by simp [k6]) (by simp) hbr7 rfl rfl (by simpa using hfin.oneCell) fun w8 hb8 hm8 => ?_
      have hb8 : Blk w8 w1.heap.size [.int .i64 0, .slice none 0 0, .bool false, lv, uv] := by simpa using hb8
      refine wpR_done (retN (by simpa using k6) hb8 rfl ⟨_, rfl, ?_, ?_⟩)
      · exact hfin.mod hm8 (fun b hb hc => by simp only [List.mem_singleton] at hb; exact hc.2 hb) (fun b _ hb => hb.1)
      · refine Mod.drop (b := w1.heap.size) (S := []) ?_ (by omega)
        refine Mod.drop (b := w2.heap.size) (S := [w1.heap.size]) ?_ (by omega)
        exact (m07.mono (by simp)).trans (hm8.mono (by simp))
end
end Go.Msk

namespace Go.Msk
open Go.RowKit
set_option maxRecDepth 100000
theorem RepF.lowN {w : World} {f : FD} {cs : List Value} (h : RepF anyB w f cs) : RepF (fun b => b < w.heap.size) w f cs := h.mod (Mod.refl [] w) (by simp) fun _ hb _ => hb
section
variable {P : Program} {F : Nat → Nat}
attribute [local simp] gOk updo upd ev RK.val? isShift intBin Addr.add_mk args0 Value.cells undef
theorem fitd_st {N : Nat} {w0 w : World} {T : TR} {cs : List Value} {rb : Nat} {σ : Sl} {x : Operand} {Q : Sl → World → Prop} (hrb : Blk w rb tzero) (h6 : σ 6 = .pointer (some ⟨rb, 0, none⟩)) (hx : ev σ x = .agg cs.toArray) (hlo : w0.heap.size ≤ rb)
    (hT : RepT (fun b => (b < N ∨ w0.heap.size ≤ b) ∧ b ≠ rb) w T cs) (hm0 : Mod [] w0 w) (hQ : ∀ w', Blk w' rb cs → RepT (fun b => b < N ∨ w0.heap.size ≤ b) w' T cs → Mod [] w0 w' → Q σ w') :
    wpR P [⟨none, .st (.tmp 6) 5 x, none⟩] σ w Q := by
  have h5 := hT.five
  refine goSt (b := rb) (v := .agg cs.toArray) (by simpa using h6) hx hrb (by simp [h5]) rfl (by simpa using hT.oneCell) fun w8 hb8 hm8 => ?_
  have hb8 : Blk w8 rb cs := by simpa using hb8
  refine goEnd (hQ w8 hb8 ?_ ?_)
  · exact hT.mod hm8 (fun b hb hc => by simp only [List.mem_singleton] at hb; exact hc.2 hb) (fun b _ hb => hb.1)
  · exact Mod.drop (b := rb) (S := []) (hm0.nil.trans hm8) hlo
theorem fitd_body {N : Nat} {w0 w3 w : World} {c : Nat} {a : Addr} {l out : List TR} {css tcs : List (List Value)} {ver : Int} {x : TR} {fb Ob j n : Nat} {null : Bool} {lv uv : Value} {one : FD} {ocs : List Value} {σ : Sl} {Q : Exit → Sl → World → Prop}
    (hF : FitdC P F one) (hN : N ≤ w0.heap.size) (hm03 : Mod [] w0 w3) (hO : w0.heap.size ≤ Ob) (hj : l[j]? = some x) (hjn : j < n) (hn : n = l.length) (hn2 : n ≤ 32767) (hsv : SlC (fun b => b < N) w3 (.slice (some a) n c) n css.flatten) (hr : RepTL (fun b => b < N) w3 l css) (hbf3 : Blk w3 fb ocs) (hfo : RepF anyB w0 one ocs) (hfb : fb ≠ Ob)
    (hg : GS w3 w Ob 0 (.slice none 0 0) lv uv null N out tcs) (htl : tcs.length = j)
    (h1 : σ 1 = .int .i64 ver) (h9 : σ 9 = .pointer (some ⟨Ob, 0, none⟩)) (h10 : σ 10 = .pointer (some ⟨fb, 0, none⟩)) (h60 : σ 60 = .slice (some a) n c) (h62 : σ 62 = .int .i64 (j : Nat))
    (hQ : ∀ σ' w' lv' tcs', (∀ s, s < 64 → s ≠ 11 → s ≠ 12 → σ' s = σ s) → GS w3 w' Ob 0 (.slice none 0 0) lv' uv null N (out ++ [one.fit ver x]) tcs' → tcs'.length = j + 1 → Q .normal σ' w') : wpC P (ir_sFitted_2 F) Q σ w := by
  unfold ir_sFitted_2
  have hm0 : Mod [Ob] w0 w := hm03.nil.trans hg.mod
  have hbf : Blk w fb ocs := hbf3.mod hg.mod (by simpa using hfb)
  have nO : ∀ b ∈ [Ob], ¬ b < w0.heap.size := fun b hb => by simp only [List.mem_singleton] at hb; omega
  have nN : ∀ b ∈ [Ob], ¬ b < N := fun b hb => by simp only [List.mem_singleton] at hb; omega
  have hsv1 : SlC (fun b => b < N) w (.slice (some a) n c) n css.flatten := hsv.mod hg.mod nN fun _ _ h => h
  have hr1 : RepTL (fun b => b < N) w l css := hr.mod hg.mod nN fun _ _ h => h
  have hfo1 : RepF anyB w one ocs := hfo.lowN.mod hm0 nO fun _ _ _ => trivial
  obtain ⟨xs, hcs, hx⟩ := hr1.nth hj
  obtain ⟨a', c', ea, -, hcell⟩ := hsv1.flat (by rw [hn]; exact hr1.length) hr1.five hcs
  simp only [Value.slice.injEq, Option.some.injEq, true_and] at ea
  obtain ⟨rfl, rfl⟩ := ea
  rw [wpC_seq, wpC_blk]
  refine go1 (v := .pointer (some (a.add (j * 5)))) rfl (by simp [h60, h62, hjn]) ?_
  refine go1 (v := .agg xs.toArray) rfl (by simp [hcell]) ?_
  refine goAlloc fun w1 hb1 hm1 => ?_
  refine goSt (b := w.heap.size) (v := .agg xs.toArray) (by simp) (by simp) hb1 (by simp [hx.five]) rfl (by simpa using hx.oneCell) fun w2 hb2 hm2 => ?_
  have hb2 : Blk w2 w.heap.size xs := by simpa using hb2
  have hm02 : Mod [] w w2 := Mod.drop (b := w.heap.size) (S := []) (hm1.nil.trans hm2) (Nat.le_refl _)
  refine wpR_done ?_
  simp only [thenC, wpC]
  have hmd : Mod [] w w2.drew := hm02.trans (Mod.drew _ _)
  have hg2 := hg.same hmd
  have hbx : Blk w2.drew w.heap.size xs := hb2.mod (Mod.drew [] _) (by simp)
  have hbf2 : Blk w2.drew fb ocs := hbf.mod hmd (by simp)
  have hx2 := hx.mod (ok' := fun b => b < N) hmd (by simp) fun _ _ h => h
  have hrf2 : RepF anyB w2.drew one ocs := hfo1.keep hmd
  have hNw : N ≤ w2.drew.heap.size := Nat.le_trans hN (Nat.le_trans hm0.size hmd.size)
  have sz : w3.heap.size ≤ w2.drew.heap.size := Nat.le_trans hg.mod.size hmd.size
  generalize hw4 : w2.drew = w4 at hmd hg2 hbx hbf2 hx2 hrf2 hNw sz ⊢
  refine wpD_of_B (fun i v w' => match i with | 5 => ∃ cs, v = .agg cs.toArray ∧ RepT (fun b => b < N ∨ w4.heap.size ≤ b) w' (one.fit ver x) cs | 6 => ∃ sb cs, v = .slice (some ⟨sb, 0, none⟩) 1 1 ∧ Blk w' sb cs ∧ RepT (fun b => b < N ∨ w4.heap.size ≤ b) w' (one.fit ver x) cs | _ => True) (by
    intro i v w w' h hm
    split at h
    · obtain ⟨cs, e1, e2⟩ := h; exact ⟨cs, e1, e2.mod hm (by simp) fun _ _ h => h⟩
    · obtain ⟨sb, cs, e1, e2, e3⟩ := h; exact ⟨sb, cs, e1, e2.mod hm (by simp), e3.mod hm (by simp) fun _ _ h => h⟩
    · trivial) ?_
  refine bo1 (v := .pointer (some ⟨Ob, 3, none⟩)) rfl (by simp [h9]) ?_
  refine bo1 (v := lv) rfl (by simp; exact hg2.ob.cell 3) ?_
  refine bo1 (v := .agg ocs.toArray) rfl (by simp [h10, cellsAt_of' hbf2.cells hfo.eight]) ?_
  refine bo1 (v := .int .i64 ver) rfl (by simp [h1]) ?_
  refine bo1 (v := .agg xs.toArray) rfl (by simp [cellsAt_of' hbx.cells hx.five]) ?_
  refine boCall (vs := [.agg ocs.toArray, .int .i64 ver, .agg xs.toArray]) rfl (by simp) (fun w' hm' _ => (hF N w' ocs ver x xs (Nat.le_trans hNw hm'.size) (hrf2.keep hm') (hx2.mod (ok' := fun b => b < N) hm' (by simp) fun _ _ h => h)).mono ?_) ?_
  · rintro e w'' ⟨cs', rfl, g1, g2⟩
    exact ⟨_, rfl, g2, cs', rfl, g1.mod (Mod.refl [] _) (by simp) fun b _ hb => hb.imp id fun h => Nat.le_trans hm'.size h⟩
  rintro v7 ⟨_, cs7, rfl, h57⟩
  have h75 := h57.five
  refine boN rfl (fun w' hm' hkn => ?_) ?_
  · obtain ⟨cs, e1, e2⟩ := known_get (j := 5) (t := 71) hkn (by simp) rfl rfl rfl rfl
    simp only [updo, upd, if_true, Value.agg.injEq, Array.mk.injEq] at e1
    have e1 : cs7 = cs := by simpa using e1
    subst e1
    refine bslice_run (cs := cs7) (n0 := 0) (by simp) h75 (Nat.zero_le _) fun v w6 hbs hm6 => ?_
    obtain ⟨sb, cs', g1, g2, g3, g4, g5⟩ := hbs
    have : cs' = cs7 := by
      have := congrArg (fun v => match v with | Value.agg a => a.toList | _ => []) g5
      simpa using this
    subst this
    exact ⟨hm6, sb, cs', g1, g3, e2.mod hm6 (by simp) fun _ _ h => h⟩
  rintro v8 -
  intro w5 hm5 hkn
  obtain ⟨sb, es, e8, hblk, htree⟩ := known_get (j := 6) (t := 72) hkn (by simp) rfl rfl rfl rfl
  simp only [updo, upd, if_true] at e8
  subst e8
  refine (hg2.same hm5).step (wr := w4) (by simp) (by simp) hblk htree (by omega) (fun b hb => (hg2.raw.own hb).2) sz (fun v => by simp [h9]) (by decide) fun w6 lv' hgs6 => ?_
  refine hQ _ w6 lv' _ (fun s s1 s2 s3 => ?_) hgs6 (by simp [htl])
  simp only [updo, upd]
  repeat rw [if_neg (by omega)]
end
end Go.Msk

namespace Go.Msk
open Go.RowKit
set_option maxRecDepth 100000
theorem len_eq0 (l : List TR) : (((l.length : Nat) : Int) == 0) = decide (l.length = 0) := by
  cases l with
  | nil => rfl
  | cons a l =>
    have : ¬ (((a :: l).length : Nat) : Int) = 0 := by simp only [List.length_cons]; omega
    simp only [List.length_cons] at this ⊢
    have e : ((((l.length + 1 : Nat)) : Int) == 0) = false := by simpa using this
    rw [e]; simp
section
variable {P : Program} {F : Nat → Nat}
attribute [local simp] gOk updo upd ev RK.val? isShift intBin Addr.add_mk args0 Value.cells undef
theorem fitd_head {w : World} {fb tb lc : Nat} {lb : Option Addr} {kind frm to null tag dfl of n : Int} {fsv sv uv : Value} {nl tn : Bool} {l : List TR} {σ : Sl} {Q : Exit → Sl → World → Prop} (hb : Blk w fb [.int .i64 kind, .int .i64 frm, .int .i64 to, .int .i64 null, .int .i64 tag, .int .i64 dfl, .int .i64 of, fsv])
    (hbt : Blk w tb [.int .i64 n, sv, .bool tn, .slice lb l.length lc, uv]) (h3 : σ 3 = .pointer (some ⟨fb, 0, none⟩)) (h5 : σ 5 = .pointer (some ⟨tb, 0, none⟩)) (h7 : σ 7 = .bool nl)
    (hQ : ∀ σ' w', (∀ s, s < 39 → s ≠ 9 → σ' s = σ s) → σ' 9 = .pointer (some ⟨w.heap.size, 0, none⟩) → Blk w' w.heap.size [.int .i64 0, .slice none 0 0, .bool (nl || (decide (tag ≥ 0) && decide (l.length = 0))), .slice none 0 0, .slice none 0 0] → Mod [] w w' → Q .normal σ' w') :
    wpC P (ir_sFitted_1 F) Q σ w := by
  unfold ir_sFitted_1
  have c1 := fun k => hb.cell k
  have c2 := fun k => hbt.cell k
  have fin : ∀ (σ1 : Sl) (v : Bool), v = (nl || (decide (tag ≥ 0) && decide (l.length = 0))) → (∀ s, s < 39 → σ1 s = σ s) → σ1 50 = .bool v → wpR P [⟨(some (51)), .build [.int .i64 0, .slice none 0 0, .bool false, .slice none 0 0, .slice none 0 0] [(2, 1, .tmp 50)], none⟩,
                ⟨(some (9)), .alloc [.int .i64 0, .slice none 0 0, .bool false, .slice none 0 0, .slice none 0 0], none⟩,
                ⟨none, .st (.tmp 9) 5 (.tmp 51), none⟩] σ1 w (Q .normal) := by
    intro σ1 v hv hf h50
    refine go1 (v := .agg #[.int .i64 0, .slice none 0 0, .bool v, .slice none 0 0, .slice none 0 0]) rfl (by simp [h50, fillL, splice]) ?_
    refine goAlloc fun w1 hb1 hm1 => ?_
    refine goSt (b := w.heap.size) (v := .agg #[.int .i64 0, .slice none 0 0, .bool v, .slice none 0 0, .slice none 0 0]) (by simp) (by simp) hb1 rfl rfl (by simp [Value.oneCell']) fun w2 hb2 hm2 => ?_
    refine goEnd (hQ _ w2 (fun s s1 s2 => ?_) (by simp) (by rw [← hv]; simpa using hb2) (Mod.drop (b := w.heap.size) (S := []) (hm1.nil.trans hm2) (Nat.le_refl _)))
    simp only [updo, upd]
    repeat rw [if_neg (by omega)]
    exact hf s s1
  rw [wpC_blk] 
  refine go1 (v := .bool nl) rfl (by simp [h7]) ?_
  refine go1 (v := .bool nl) rfl (by simp) ?_
  cases nl with
  | true =>
    iterate 9 (refine go0 (by simp) ?_)
    refine go1 (v := .bool true) rfl (by simp) ?_
    exact fin _ true (by simp) (fun s hs => by simp only [updo, upd]; repeat rw [if_neg (by omega)]) (by simp)
  | false =>
    refine go1 (v := .pointer (some ⟨fb, 4, none⟩)) (by simp) (by simp [h3]) ?_
    refine go1 (v := .int .i64 tag) (by simp) (by simp [c1]) ?_
    refine go1 (v := .bool (decide (tag ≥ 0))) (by simp) (by simp) ?_
    refine go1 (v := .bool (decide (tag ≥ 0))) (by simp) (by simp) ?_
    cases htg : decide (tag ≥ 0) with
    | true =>
      refine go1 (v := .pointer (some ⟨tb, 3, none⟩)) (by simp) (by simp [h5]) ?_
      refine go1 (v := .slice lb l.length lc) (by simp) (by simp [c2]) ?_
      refine go1 (v := .int .i64 (l.length : Nat)) (by simp) (by simp) ?_
      refine go1 (v := .bool (decide (l.length = 0))) (by simp) (by simp [len_eq0]) ?_
      refine go1 (v := .bool (decide (l.length = 0))) (by simp) (by simp) ?_
      refine go1 (v := .bool (decide (l.length = 0))) rfl (by simp) ?_
      exact fin _ (decide (l.length = 0)) (by rw [htg]; simp) (fun s hs => by simp only [updo, upd]; repeat rw [if_neg (by omega)]) (by simp)
    | false =>
      iterate 4 (refine go0 (by simp) ?_)
      refine go1 (v := .bool false) (by simp) (by simp) ?_
      refine go1 (v := .bool false) rfl (by simp) ?_
      exact fin _ false (by rw [htg]; simp) (fun s hs => by simp only [updo, upd]; repeat rw [if_neg (by omega)]) (by simp)
end
end Go.Msk

namespace Go.Msk
open Go.RowKit
set_option maxRecDepth 100000
def FD.one : FD → FD | .mk _ frm to _ _ dfl of sub => .mk of frm to (-1) (-1) dfl of sub
theorem FD.one_fit (ver : Int) (x : TR) (kind frm to null tag dfl of : Int) (sub : List FD) (h : of ≠ 11) : (FD.one (.mk kind frm to null tag dfl of sub)).fit ver x = fitV of (fun y => .mk 0 [] false (fitL ver sub 0 y) (fitU sub y.u)) false x := by
  simp only [FD.one, FD.fit]
  rw [if_neg h]
  have : FD.nullV (.mk of frm to (-1) (-1) dfl of sub) ver x = false := by simp [FD.nullV, FD.null]
  rw [this]
section
variable {P : Program} {F : Nat → Nat}
attribute [local simp] gOk updo upd ev RK.val? isShift intBin Addr.add_mk args0 Value.cells undef
theorem goCell {a x : Operand} {b o : Nat} {r : List RI} {σ : Sl} {w : World} {v : Value} {cs : List Value} {Q : Sl → World → Prop} (ha : ev σ a = .pointer (some ⟨b, o, none⟩)) (hx : ev σ x = v) (hb : Blk w b cs) (hv : v.oneCell' = true) (hc : v.cells = #[v]) (ho : o < cs.length)
    (h : ∀ w', Blk w' b (splice cs o [v]) → Mod [b] w w' → wpR P r σ w' Q) : wpR P (⟨none, .st a 1 x, none⟩ :: r) σ w Q := by
  subst hx
  refine wpR_run ?_
  simp only [RK.run, ha, hc]
  refine ⟨rfl, stOk_one hb ho hv, ?_⟩
  have := hb.put (o := o) (vs := [ev σ x]) (by simp; omega)
  exact h _ (by simpa using this) (Mod.put (by simp))
theorem fitd_list (hm : P.follows .mixedOrders = true) (hth : liftF P (F sThings) = some (ir_sThings F)) {N : Nat} {w0 w : World} {fb tb rb : Nat} {kind frm to null tag dfl of ver : Int} {sub : List FD} {fcs ts : List Value} {t : TR} {σ : Sl} {Q : Exit → Sl → World → Prop}
    (hof : of ≠ 11) (hF : FitdC P F (FD.one (.mk kind frm to null tag dfl of sub))) (hN : N ≤ w0.heap.size) (hm0 : Mod [] w0 w) (hb : Blk w fb fcs) (hf : RepF anyB w (.mk kind frm to null tag dfl of sub) fcs) (hbt : Blk w tb ts) (ht : RepT (fun b => b < N) w t ts) (hrb : Blk w rb tzero) (hlo : w0.heap.size ≤ rb) (hk : kind = 11) (_hfr : fb ≠ rb)
    (h1 : σ 1 = .int .i64 ver) (h3 : σ 3 = .pointer (some ⟨fb, 0, none⟩)) (h5 : σ 5 = .pointer (some ⟨tb, 0, none⟩)) (h6 : σ 6 = .pointer (some ⟨rb, 0, none⟩)) (h7 : σ 7 = .bool (FD.nullV (.mk kind frm to null tag dfl of sub) ver t))
    (hR : ∀ σ' w' cs', σ' 6 = .pointer (some ⟨rb, 0, none⟩) → Blk w' rb cs' → RepT (fun b => b < N ∨ w0.heap.size ≤ b) w' (FD.fit ver (.mk kind frm to null tag dfl of sub) t) cs' → Mod [] w0 w' → Q .ret σ' w') : wpC P (ir_sFitted_3 F) Q σ w := by
  unfold ir_sFitted_3
  have lr := hrb.lt
  have lf := hb.lt
  have lt := hbt.lt
  generalize hnl : FD.nullV (.mk kind frm to null tag dfl of sub) ver t = nl at h7
  have hfit : FD.fit ver (.mk kind frm to null tag dfl of sub) t = .mk 0 [] (nl || (decide (tag ≥ 0) && decide (t.l.length = 0))) ((t.l.take 32767).map ((FD.one (.mk kind frm to null tag dfl of sub)).fit ver)) [] := by
    simp only [FD.fit]
    rw [if_pos hk, hnl]
    congr 1
    refine List.map_congr_left fun x _ => ?_
    rw [FD.one_fit ver x kind frm to null tag dfl of sub hof]
  cases hf with
  | @mk _ _ _ _ _ _ _ _ fsv css f1 f2 =>
  cases ht with
  | @mk n s tn l u sv lv0 uv0 lcss uss q1 q2 q3 q4 q5 =>
  obtain ⟨lb, lc, elv⟩ := q2.shape
  subst elv
  have hfit2 : FD.fit ver (.mk kind frm to null tag dfl of sub) (.mk n s tn l u) = .mk 0 [] (nl || (decide (tag ≥ 0) && decide (l.length = 0))) ((l.take 32767).map ((FD.one (.mk kind frm to null tag dfl of sub)).fit ver)) [] := hfit
  rw [hfit2] at hR
  rw [wpC_seq]
  refine fitd_head hb hbt h3 h5 h7 fun σ1 w1 fr1 g9 hob1 hm1 => ?_
  simp only [thenC]
  have hb1 := hb.mod hm1 (by simp)
  have hbt1 := hbt.mod hm1 (by simp)
  rw [wpC_seq, wpC_blk]
  refine go1 (v := .agg #[.int .i64 kind, .int .i64 frm, .int .i64 to, .int .i64 null, .int .i64 tag, .int .i64 dfl, .int .i64 of, fsv]) rfl (by simp [fr1, h3, cellsAt_of' hb1.cells (n := 8) rfl]) ?_
  refine goAlloc fun w2 hb2 hm2 => ?_
  refine goSt (b := w1.heap.size) (v := .agg #[.int .i64 kind, .int .i64 frm, .int .i64 to, .int .i64 null, .int .i64 tag, .int .i64 dfl, .int .i64 of, fsv]) (by simp) (by simp) hb2 rfl rfl (fun y hy => (RepF.mk (kind := kind) (frm := frm) (to := to) (null := null) (tag := tag) (dfl := dfl) (of := of) f1 f2).oneCell y (by simpa using hy)) fun w3 hb3 hm3 => ?_
  have hb3 : Blk w3 w1.heap.size [.int .i64 kind, .int .i64 frm, .int .i64 to, .int .i64 null, .int .i64 tag, .int .i64 dfl, .int .i64 of, fsv] := by simpa using hb3
  have hm13 : Mod [] w1 w3 := Mod.drop (b := w1.heap.size) (S := []) (hm2.nil.trans hm3) (Nat.le_refl _)
  have hbo3 := hb1.mod hm13 (by simp)
  have c3 := fun k => hbo3.cell k
  refine wpR_done ?_
  rw [wpC_seq, wpC_blk]
  refine go1 (v := .pointer (some ⟨fb, 6, none⟩)) rfl (by simp [fr1, h3]) ?_
  refine go1 (v := .int .i64 of) rfl (by simp [c3]) ?_
  refine go1 (v := .pointer (some ⟨w1.heap.size, 0, none⟩)) rfl (by simp) ?_
  refine goCell (b := w1.heap.size) (o := 0) (v := .int .i64 of) (by simp) (by simp) hb3 rfl rfl (by simp) fun w4 hb4 hm4 => ?_
  refine go1 (v := .pointer (some ⟨w1.heap.size, 3, none⟩)) rfl (by simp) ?_
  refine goCell (b := w1.heap.size) (o := 3) (v := .int .i64 (-1)) (by simp) (by simp) hb4 rfl rfl (by simp [splice]) fun w5 hb5 hm5 => ?_
  refine go1 (v := .pointer (some ⟨w1.heap.size, 4, none⟩)) rfl (by simp) ?_
  refine goCell (b := w1.heap.size) (o := 4) (v := .int .i64 (-1)) (by simp) (by simp) hb5 rfl rfl (by simp [splice]) fun w6 hb6 hm6 => ?_
  have hb6 : Blk w6 w1.heap.size [.int .i64 of, .int .i64 frm, .int .i64 to, .int .i64 (-1), .int .i64 (-1), .int .i64 dfl, .int .i64 of, fsv] := by simpa [splice] using hb6
  have hm36 : Mod [w1.heap.size] w3 w6 := (hm4.trans hm5).trans hm6
  have hm16 : Mod [] w1 w6 := Mod.drop (b := w1.heap.size) (S := []) (hm13.nil.trans hm36) (Nat.le_refl _)
  have hmw6 : Mod [] w w6 := hm1.trans hm16
  have hm06 := hm0.trans hmw6
  have hob6 := hob1.mod hm16 (by simp)
  have hbt6 := hbt1.mod hm16 (by simp)
  have hrb6 := hrb.mod hmw6 (by simp)
  have lo6 := hob1.lt
  have hNs : N ≤ w6.heap.size := Nat.le_trans hN hm06.size
  have hs0 := hm0.size
  have hs6 := hmw6.size
  have hone : RepF anyB w6 (FD.one (.mk kind frm to null tag dfl of sub)) [.int .i64 of, .int .i64 frm, .int .i64 to, .int .i64 (-1), .int .i64 (-1), .int .i64 dfl, .int .i64 of, fsv] := .mk (f1.keep hmw6) (f2.keep hmw6)
  have hone0 : RepF anyB w (FD.one (.mk kind frm to null tag dfl of sub)) [.int .i64 of, .int .i64 frm, .int .i64 to, .int .i64 (-1), .int .i64 (-1), .int .i64 dfl, .int .i64 of, fsv] := .mk f1 f2
  refine wpR_done ?_
  rw [wpC_seq, wpC_seq, wpC_blk]
  have c6 := fun k => hbt6.cell k
  refine go1 (v := .pointer (some ⟨tb, 3, none⟩)) rfl (by simp [fr1, h5]) ?_
  refine go1 (v := .slice lb l.length lc) rfl (by simp [c6]) ?_
  have q2' : SlC (fun b => b < N) w6 (.slice lb l.length lc) l.length lcss.flatten := q2.mod hmw6 (by simp) fun _ _ h => h
  have q3' : RepTL (fun b => b < N) w6 l lcss := q3.mod hmw6 (by simp) fun _ _ h => h
  refine goCall rfl (vs := [.slice lb l.length lc]) (by simp) (things_call hm hth q2' q3') ?_
  rintro e w7 ⟨rfl, v60, rfl, hv60, hr60⟩
  refine ⟨v60, rfl, ?_⟩
  obtain ⟨vb, vc, ev60⟩ := hv60.shape
  have htl : (l.take 32767).length ≤ 32767 := by simp; omega
  refine go1 (v := .int .i64 ((l.take 32767).length : Nat)) rfl (by simp [ev60]) ?_
  refine go1 rfl rfl (wpR_done ?_)
  generalize hne : (nl || (decide (tag ≥ 0) && decide (l.length = 0))) = ne at hob6 hR
  generalize hl2 : l.take 32767 = l2 at hv60 hr60 ev60 htl hR ⊢
  generalize lcss.take 32767 = lcss2 at hv60 hr60
  refine rangeLoop (n := l2.length) (fun j σ w' => σ 1 = .int .i64 ver ∧ σ 6 = .pointer (some ⟨rb, 0, none⟩) ∧ σ 9 = .pointer (some ⟨w.heap.size, 0, none⟩) ∧ σ 10 = .pointer (some ⟨w1.heap.size, 0, none⟩) ∧ σ 60 = v60 ∧ σ 61 = .int .i64 (l2.length : Nat) ∧ σ 62 = .int .i64 (j : Nat) ∧
      ∃ lv tcs, GS w7 w' w.heap.size 0 (.slice none 0 0) lv (.slice none 0 0) ne N ((l2.map ((FD.one (.mk kind frm to null tag dfl of sub)).fit ver)).take j) tcs ∧ tcs.length = j) (by omega) (by omega) (fun j σ w h => ⟨h.2.2.2.2.2.2.1, h.2.2.2.2.2.1⟩) ?_ ?_ ?_
  · refine ⟨by simp [fr1, h1], by simp [fr1, h6], by simp [g9], by simp, by simp, by simp, by simp, .slice none 0 0, [], ⟨hob6, ⟨by simp, .inl ⟨rfl, rfl⟩⟩, by simpa using .nil, Mod.refl _ _, by have := hob6.lt; omega, by omega⟩, rfl⟩
  · rintro j σ2 w8 hj ⟨k1, k6, k9, k10, k60, k61, k62, lv, tcs, hg, htc⟩
    have hlj : l2[j]? = some l2[j] := List.getElem?_eq_getElem hj
    have hfj : (l2.map ((FD.one (.mk kind frm to null tag dfl of sub)).fit ver))[j]? = some ((FD.one (.mk kind frm to null tag dfl of sub)).fit ver l2[j]) := by rw [List.getElem?_map, hlj]; rfl
    obtain ⟨a, ea⟩ : ∃ a, vb = some a := by
      cases vb with
      | some a => exact ⟨a, rfl⟩
      | none =>
        exfalso
        obtain ⟨base, cap, e, z1, z2, -⟩ := hv60
        rw [ev60] at e; cases e
        have := z2 rfl
        omega
    subst ea
    refine fitd_body (w0 := w) (w3 := w7) (ver := ver) (x := l2[j]) (l := l2) (n := l2.length) (a := a) (c := vc) (fb := w1.heap.size) (Ob := w.heap.size) (j := j) hF (Nat.le_trans hN hs0) hmw6 (Nat.le_refl _) hlj hj rfl htl (by rw [← ev60]; exact hv60) hr60 hb6 hone0 (by omega) hg htc (by simp [k1]) (by simp [k9]) (by simp [k10]) (by simp [k60, ev60]) (by simp [k62]) fun σ' w' lv' tcs' hfr hg' hl' => ?_
    have fr : ∀ s, s < 63 → s ≠ 11 → s ≠ 12 → σ' s = σ2 s := fun s h1 h2 h3 => by
      rw [hfr s (by omega) h2 h3]; simp only [upd]; rw [if_neg (by omega)]
    simp only [rngP]
    refine ⟨(fr 62 (by omega) (by omega) (by omega)).trans k62, ?_⟩
    have fr2 : ∀ s, s < 62 → s ≠ 11 → s ≠ 12 → upd (upd σ' 75 (.int .i64 ((j + 1 : Nat) : Int))) 62 (.int .i64 ((j + 1 : Nat) : Int)) s = σ2 s := fun s h1 h2 h3 => by
      simp only [upd]; rw [if_neg (by omega), if_neg (by omega)]; exact fr s (by omega) h2 h3
    refine ⟨(fr2 1 (by omega) (by omega) (by omega)).trans k1, (fr2 6 (by omega) (by omega) (by omega)).trans k6, (fr2 9 (by omega) (by omega) (by omega)).trans k9, (fr2 10 (by omega) (by omega) (by omega)).trans k10, (fr2 60 (by omega) (by omega) (by omega)).trans k60, (fr2 61 (by omega) (by omega) (by omega)).trans k61, by simp, lv', tcs', ?_, hl'⟩
    rw [take_succ_of hfj]
    exact hg'
  · rintro σ2 w8 ⟨k1, k6, k9, k10, k60, k61, k62, lv, tcs, hg, htc⟩
    rw [List.take_of_length_le (by simp)] at hg
    simp only [thenC]
    rw [wpC_seq, wpC_blk]
    have m78 := hg.mod
    have m08 : Mod [w.heap.size] w0 w8 := hm06.nil.trans m78
    have hrb8 : Blk w8 rb tzero := hrb6.mod m78 (by simp; omega)
    have own_ne : ∀ b, own lv = some b → w7.heap.size ≤ b := fun b hb => (hg.raw.own hb).1
    have hfin : RepT (fun b => (b < N ∨ w0.heap.size ≤ b) ∧ b ≠ rb) w8 (.mk 0 [] ne (l2.map ((FD.one (.mk kind frm to null tag dfl of sub)).fit ver)) []) [.int .i64 0, .slice none 0 0, .bool ne, lv, .slice none 0 0] := by
      refine .mk (s := []) (css := tcs) (uss := []) SlC.nil ?_ (hg.rep.mod (Mod.refl [] _) (by simp) fun b _ hb => ?_) SlC.nil .nil
      · have : (l2.map ((FD.one (.mk kind frm to null tag dfl of sub)).fit ver)).length = tcs.length := by simp [htc]
        rw [this]; exact hg.raw.slc fun b hb => ⟨.inr (by omega), by omega⟩
      · rcases hb with hb | hb
        · exact ⟨.inl hb, by omega⟩
        · exact ⟨.inr (by omega), by omega⟩
    refine go1 (v := .agg #[.int .i64 0, .slice none 0 0, .bool ne, lv, .slice none 0 0]) rfl (by simp [k9, cellsAt_of' hg.ob.cells (n := 5) rfl]) ?_
    refine fitd_st (N := N) (w0 := w0) (T := .mk 0 [] ne (l2.map ((FD.one (.mk kind frm to null tag dfl of sub)).fit ver)) []) hrb8 (by simpa using k6) (by simp) hlo hfin (Mod.drop (b := w.heap.size) (S := []) m08 hs0) fun w9 hb9 hr9 hm9 => ?_
    exact hR _ w9 _ (by simpa using k6) hb9 (by first | exact hr9 | (rw [hne]; exact hr9)) hm9
end
end Go.Msk

namespace Go.Msk
open Go.RowKit
set_option maxRecDepth 100000
section
variable {P : Program} {F : Nat → Nat}
attribute [local simp] gOk updo upd ev RK.val? isShift intBin Addr.add_mk args0 Value.cells undef
theorem fitd_call (hm : P.follows .mixedOrders = true) (h : liftF P (F sFitted) = some (ir_sFitted F)) (hnu : liftF P (F sNull) = some (ir_sNull F)) (hw : liftF P (F sWhole) = some (ir_sWhole F)) (hth : liftF P (F sThings) = some (ir_sThings F))
    {kind frm to null tag dfl of : Int} {sub : List FD} (hS : kind = 10 → FitC P F sub) (hL : kind = 11 → of ≠ 11 ∧ FitdC P F (FD.one (.mk kind frm to null tag dfl of sub))) : FitdC P F (.mk kind frm to null tag dfl of sub) := by
  intro N w fcs ver t ts hN hf ht
  unfold ir_sFitted at h
  refine call_of h hm (by simp) ?_
  clear h
  have h5 := ht.five
  have h8 := hf.eight
  rw [wpC_seq, wpC_blk]
  refine goBox rfl fun w1 hb1 hm1 => ?_
  have e1 : (ev (args0 [.agg fcs.toArray, .int .i64 ver, .agg ts.toArray]) (.tmp 0)).cells.toList = fcs := by simp
  rw [e1] at hb1
  refine goBox (v := .agg ts.toArray) (by simp) fun w2 hb2 hm2 => ?_
  have e2 : (Value.agg ts.toArray).cells.toList = ts := by simp
  rw [e2] at hb2
  refine goAlloc fun w3 hb3 hm3 => ?_
  have l1 := hb1.lt
  have l2 := hb2.lt
  have s1 := hm1.size
  have s2 := hm2.size
  have hm03 := (hm1.trans hm2).trans hm3
  have hf3 := hb1.mod (hm2.trans hm3) (by simp)
  have ht3 := hb2.mod hm3 (by simp)
  refine wpR_done ?_
  rw [wpC_seq, wpC_blk]
  refine go1 (v := .agg fcs.toArray) rfl (by simp [cellsAt_of' hf3.cells h8]) ?_
  refine go1 (v := .int .i64 ver) rfl (by simp) ?_
  refine go1 (v := .agg ts.toArray) rfl (by simp [cellsAt_of' ht3.cells h5]) ?_
  refine goCall rfl (vs := [.agg fcs.toArray, .int .i64 ver, .agg ts.toArray]) (by simp) (null_call hm hnu (hf.keep hm03) (ht.any.keep hm03)) ?_
  rintro e w4 ⟨rfl, hm4⟩
  refine ⟨_, rfl, ?_⟩
  refine go1 (v := .bool (FD.nullV (.mk kind frm to null tag dfl of sub) ver t)) rfl (by simp) (wpR_done ?_)
  have hm04 := hm03.trans hm4
  have hf4 := hf3.mod hm4 (by simp)
  have ht4 := ht3.mod hm4 (by simp)
  have hr4 := hb3.mod hm4 (by simp)
  have hf4' : RepF anyB w4 (.mk kind frm to null tag dfl of sub) fcs := hf.keep hm04
  have htr : RepT (fun b => b < N) w4 t ts := ht.mod hm04 (by simp) fun _ _ h => h
  have c0 : w4.cell? ⟨w.heap.size, 0, none⟩ = some (.int .i64 kind) := by
    have := hf4.cell 0
    cases hf with | mk => exact this
  have c7 : ∃ sv css, w4.cell? ⟨w.heap.size, 7, none⟩ = some sv ∧ SlC anyB w4 sv sub.length css.flatten ∧ RepFL anyB w4 sub css := by
    have := hf4.cell 7
    cases hf4' with | mk g1 g2 => exact ⟨_, _, this, g1, g2⟩
  have d0 : w4.cell? ⟨w1.heap.size, 0, none⟩ = some (.int .i64 t.n) := by
    have := ht4.cell 0
    cases ht with | mk => exact this
  have d1 : ∃ sv, w4.cell? ⟨w1.heap.size, 1, none⟩ = some sv ∧ SlC (fun b => b < N) w4 sv t.s.length (u8s t.s) := by
    have := ht4.cell 1
    cases htr with | mk g1 => exact ⟨_, this, g1⟩
  have hrb : Blk w4 w2.heap.size tzero := hr4
  rw [wpC_seq]
  unfold ir_sFitted_5
  rw [wpC_seq, wpC_blk]
  refine go1 (v := .pointer (some ⟨w.heap.size, 0, none⟩)) rfl (by simp) ?_
  refine go1 (v := .int .i64 kind) rfl (by simp [c0]) (wpR_done ?_)
  try simp only [thenC]
  rw [wpC_block, wpC_seq, wpC_seq, wpC_blk]
  refine go1 (v := .bool (decide (kind = 8))) rfl (by simp; by_cases e : kind = 8 <;> simp [e]) ?_
  refine go1 (v := .bool (decide (kind = 8))) rfl (by simp) (wpR_done ?_)
  try simp only [thenC]
  have fin : ∀ (σ' : Sl) (w' : World) (cs' : List Value), σ' 6 = .pointer (some ⟨w2.heap.size, 0, none⟩) → Blk w' w2.heap.size cs' → RepT (fun b => b < N ∨ w.heap.size ≤ b) w' (FD.fit ver (.mk kind frm to null tag dfl of sub) t) cs' → Mod [] w w' →
      postC [.cells 6 5] (fun e w' => ∃ cs', e = Ending.returned (.agg cs'.toArray) ∧ RepT (fun b => b < N ∨ w.heap.size ≤ b) w' (FD.fit ver (.mk kind frm to null tag dfl of sub) t) cs' ∧ Mod [] w w') .ret σ' w' :=
    fun σ' w' cs' g6 hb hr hm' => retN (P := P) g6 hb hr.five ⟨cs', rfl, hr, hm'⟩
  -- texts and octets
  have isTxt : ∀ σ : Sl, (kind = 8 ∨ kind = 9) → σ 5 = .pointer (some ⟨w1.heap.size, 0, none⟩) → σ 6 = .pointer (some ⟨w2.heap.size, 0, none⟩) → σ 7 = .bool (FD.nullV (.mk kind frm to null tag dfl of sub) ver t) → ∀ Q : Exit → Sl → World → Prop,
      (∀ σ' w' cs', σ' 6 = .pointer (some ⟨w2.heap.size, 0, none⟩) → Blk w' w2.heap.size cs' → RepT (fun b => b < N ∨ w.heap.size ≤ b) w' (FD.fit ver (.mk kind frm to null tag dfl of sub) t) cs' → Mod [] w w' → Q .ret σ' w') →
      wpC P (.seq (.blk [⟨(some (22)), .fad (.tmp 5) 1, none⟩,
            ⟨(some (23)), .ld (.tmp 22), none⟩,
            ⟨(some (24)), .call (F sWhole) [.tmp 23], none⟩,
            ⟨(some (25)), .mv (.tmp 7), none⟩,
            ⟨(some (26)), .build [.int .i64 0, .slice none 0 0, .bool false, .slice none 0 0, .slice none 0 0] [(1, 1, .tmp 24), (2, 1, .tmp 25)], none⟩,
            ⟨none, .st (.tmp 6) 5 (.tmp 26), none⟩])
        (.ret)) Q σ w4 := by
    intro σ hk g5 g6 g7 Q hR
    obtain ⟨sv, hsv, hsl⟩ := d1
    have hfit : FD.fit ver (.mk kind frm to null tag dfl of sub) t = .mk 0 (wholeP t.s) (FD.nullV (.mk kind frm to null tag dfl of sub) ver t) [] [] := by
      simp only [FD.fit, fitV]
      rw [if_neg (by omega), if_pos hk]
    rw [hfit] at hR
    rw [wpC_seq, wpC_blk]
    refine go1 (v := .pointer (some ⟨w1.heap.size, 1, none⟩)) rfl (by simp [g5]) ?_
    refine go1 (v := sv) rfl (by simp [hsv]) ?_
    refine goCall rfl (vs := [sv]) (by simp) (whole_call hm hw hsl) ?_
    rintro e w5 ⟨rfl, v', rfl, hv'⟩
    obtain ⟨b6, c6, e6⟩ := hv'.shape
    refine ⟨v', rfl, ?_⟩
    refine go1 (v := .bool (FD.nullV (.mk kind frm to null tag dfl of sub) ver t)) rfl (by simp [g7]) ?_
    refine go1 (v := .agg #[.int .i64 0, v', .bool (FD.nullV (.mk kind frm to null tag dfl of sub) ver t), .slice none 0 0, .slice none 0 0]) rfl (by simp [fillL, splice, e6]) ?_
    refine fitd_st (N := N) (w0 := w) (T := .mk 0 (wholeP t.s) (FD.nullV (.mk kind frm to null tag dfl of sub) ver t) [] []) (cs := [.int .i64 0, v', .bool (FD.nullV (.mk kind frm to null tag dfl of sub) ver t), .slice none 0 0, .slice none 0 0]) hrb (by simp [g6]) (by simp) (by omega) (.mk (css := []) (uss := []) (hv'.mod (Mod.refl [] _) (by simp) fun b _ hb => ⟨.inl hb, by omega⟩) SlC.nil .nil SlC.nil .nil) hm04 fun w9 hb9 hr9 hm9 => ?_
    exact hR _ w9 _ (by simp [g6]) hb9 hr9 hm9
  by_cases hk8 : kind = 8
  · rw [wpC_cond_t (by simp [hk8]), wpC_skip]
    try simp only [thenC]
    rw [wpC_cond_t (by simp [hk8])]
    refine isTxt _ (.inl hk8) (by simp) (by simp) (by simp) _ fun σ' w' cs' g6 hb hr hm' => ?_
    exact fin _ _ _ g6 hb hr hm'
  rw [wpC_cond_f (by simp [hk8]), wpC_blk]
  refine go1 (v := .bool (decide (kind = 9))) rfl (by simp; by_cases e : kind = 9 <;> simp [e]) ?_
  refine go1 (v := .bool (decide (kind = 9))) rfl (by simp) (wpR_done ?_)
  try simp only [thenC]
  by_cases hk9 : kind = 9
  · rw [wpC_cond_t (by simp [hk9])]
    refine isTxt _ (.inr hk9) (by simp) (by simp) (by simp) _ fun σ' w' cs' g6 hb hr hm' => ?_
    exact fin _ _ _ g6 hb hr hm'
  rw [wpC_cond_f (by simp [hk9])]
  unfold ir_sFitted_4
  rw [wpC_seq, wpC_blk]
  refine go1 (v := .bool (decide (kind = 10))) rfl (by simp; by_cases e : kind = 10 <;> simp [e]) ?_
  refine go1 (v := .bool (decide (kind = 10))) rfl (by simp) (wpR_done ?_)
  try simp only [thenC]
  by_cases hk10 : kind = 10
  · rw [wpC_cond_t (by simp [hk10])]
    obtain ⟨ssv, scss, k1, k2, k3⟩ := c7
    rw [wpC_seq, wpC_blk]
    refine go1 (v := .pointer (some ⟨w.heap.size, 7, none⟩)) rfl (by simp) ?_
    refine go1 (v := ssv) rfl (by simp [k1]) ?_
    refine go1 (v := .int .i64 ver) rfl (by simp) ?_
    refine go1 (v := .agg ts.toArray) rfl (by simp [cellsAt_of' ht4.cells h5]) ?_
    refine goCall rfl (vs := [ssv, .int .i64 ver, .agg ts.toArray]) (by simp) (hS hk10 N w4 ssv scss ver t ts (Nat.le_trans hN hm04.size) k2 k3 htr) ?_
    rintro e w5 ⟨cs', rfl, hr5, hm5⟩
    refine ⟨_, rfl, ?_⟩
    have hm05 := hm04.trans hm5
    have l4 := hrb.lt
    have s5 := hm5.size
    refine goAlloc fun w6 hb6 hm6 => ?_
    refine goSt (b := w5.heap.size) (v := .agg cs'.toArray) (by simp) (by simp) hb6 (by simp [hr5.five]) rfl (by simpa using hr5.oneCell) fun w7 hb7 hm7 => ?_
    have hb7 : Blk w7 w5.heap.size cs' := by simpa using hb7
    have hm57 : Mod [] w5 w7 := Mod.drop (b := w5.heap.size) (S := []) (hm6.nil.trans hm7) (Nat.le_refl _)
    refine wpR_done ?_
    try simp only [thenC]
    rw [wpC_seq, wpC_blk]
    refine go1 (v := .bool (FD.nullV (.mk kind frm to null tag dfl of sub) ver t)) rfl (by simp) ?_
    refine go1 (v := .pointer (some ⟨w5.heap.size, 2, none⟩)) rfl (by simp) ?_
    refine goCell (b := w5.heap.size) (o := 2) (v := .bool (FD.nullV (.mk kind frm to null tag dfl of sub) ver t)) (by simp) (by simp) hb7 rfl rfl (by rw [hr5.five]; omega) fun w8 hb8 hm8 => ?_
    have hm58 : Mod [] w5 w8 := Mod.drop (b := w5.heap.size) (S := []) (hm57.nil.trans hm8) (Nat.le_refl _)
    refine wpR_done ?_
    try simp only [thenC]
    have hfit : FD.fit ver (.mk kind frm to null tag dfl of sub) t = .mk 0 [] (FD.nullV (.mk kind frm to null tag dfl of sub) ver t) (fitL ver sub 0 t) (fitU sub t.u) := by
      simp only [FD.fit, fitV]
      rw [if_neg (by omega), if_neg (by omega), if_pos hk10]
      rfl
    unfold fitT at hr5
    have hr58 := hr5.mod (ok' := fun b => (b < N ∨ w.heap.size ≤ b) ∧ b ≠ w2.heap.size) hm58 (by simp) fun b _ hb => ⟨hb.imp id fun h => Nat.le_trans hm04.size h, by rcases hb with hb | hb <;> omega⟩
    cases hr58 with
    | @mk _ _ _ _ _ sv9 lv9 uv9 css9 uss9 r1 r2 r3 r4 r5 =>
    have hb8 : Blk w8 w5.heap.size [.int .i64 0, sv9, .bool (FD.nullV (.mk kind frm to null tag dfl of sub) ver t), lv9, uv9] := by simpa [splice] using hb8
    rw [wpC_seq, wpC_blk]
    refine go1 (v := .agg #[.int .i64 0, sv9, .bool (FD.nullV (.mk kind frm to null tag dfl of sub) ver t), lv9, uv9]) rfl (by simp [cellsAt_of' hb8.cells (n := 5) rfl]) ?_
    refine fitd_st (N := N) (w0 := w) (T := FD.fit ver (.mk kind frm to null tag dfl of sub) t) (cs := [.int .i64 0, sv9, .bool (FD.nullV (.mk kind frm to null tag dfl of sub) ver t), lv9, uv9]) (hrb.mod (hm5.trans hm58) (by simp)) (by simp) (by simp) (by omega) ?_ (hm05.trans hm58) fun w9 hb9 hr9 hm9 => ?_
    · rw [hfit]; exact .mk r1 r2 r3 r4 r5
    · exact fin _ _ _ (by simp) hb9 hr9 hm9
  rw [wpC_cond_f (by simp [hk10])]
  rw [wpC_seq, wpC_blk]
  refine go1 (v := .bool (decide (kind = 11))) rfl (by simp; by_cases e : kind = 11 <;> simp [e]) ?_
  refine go1 (v := .bool (decide (kind = 11))) rfl (by simp) (wpR_done ?_)
  try simp only [thenC]
  by_cases hk11 : kind = 11
  · rw [wpC_cond_t (by simp [hk11])]
    obtain ⟨hof, hF⟩ := hL hk11
    refine fitd_list (ver := ver) (tb := w1.heap.size) hm hth hof hF hN hm04 hf4 hf4' ht4 htr hrb (by omega) hk11 (by omega) (by simp) (by simp) (by simp) (by simp) (by simp) fun σ' w' cs' g6 hb hr hm' => ?_
    exact fin _ _ _ g6 hb hr hm'
  rw [wpC_cond_f (by simp [hk11]), wpC_skip]
  try simp only [thenC, inBlockC]
  -- numbers
  obtain ⟨sv, hsv, hsl⟩ := d1
  obtain ⟨b6, c6, e6⟩ := hsl.shape
  have hfit : FD.fit ver (.mk kind frm to null tag dfl of sub) t = .mk t.n t.s false [] [] := by
    simp only [FD.fit, fitV]
    rw [if_neg hk11, if_neg (by omega), if_neg hk10]
  rw [wpC_seq, wpC_blk]
  refine go1 (v := .pointer (some ⟨w1.heap.size, 0, none⟩)) rfl (by simp) ?_
  refine go1 (v := .int .i64 t.n) rfl (by simp [d0]) ?_
  refine go1 (v := .pointer (some ⟨w1.heap.size, 1, none⟩)) rfl (by simp) ?_
  refine go1 (v := sv) rfl (by simp [hsv]) ?_
  refine go1 (v := .agg #[.int .i64 t.n, sv, .bool false, .slice none 0 0, .slice none 0 0]) rfl (by simp [fillL, splice, e6]) ?_
  refine fitd_st (N := N) (w0 := w) (T := FD.fit ver (.mk kind frm to null tag dfl of sub) t) (cs := [.int .i64 t.n, sv, .bool false, .slice none 0 0, .slice none 0 0]) hrb (by simp) (by simp) (by omega) ?_ hm04 fun w9 hb9 hr9 hm9 => ?_
  · rw [hfit]; exact .mk (css := []) (uss := []) (hsl.mod (Mod.refl [] _) (by simp) fun b _ hb => ⟨.inl hb, by omega⟩) SlC.nil .nil SlC.nil .nil
  · exact fin _ _ _ (by simp) hb9 hr9 hm9
end
end Go.Msk

namespace Go.Msk
open Go.RowKit
set_option maxRecDepth 100000
mutual
/-- A field whose things are no lists. -/
def FD.fitB : FD → Bool
  | .mk kind _ _ _ _ _ of sub => (decide (kind ≠ 11) || decide (of ≠ 11)) && FD.fitBL sub
def FD.fitBL : List FD → Bool
  | [] => true
  | f :: l => f.fitB && FD.fitBL l
end
structure FLib (P : Program) (F : Nat → Nat) : Prop where
  sl : SLib P F
  fit : liftF P (F sFit) = some (ir_sFit F)
  fitted : liftF P (F sFitted) = some (ir_sFitted F)
section
variable {P : Program} {F : Nat → Nat}
theorem plain_tags : ∀ {l : List FD}, FD.plainL l = true → ∀ f ∈ l, f.tag < 2147483648
  | [], _, f, hf => by simp at hf
  | a :: l, h, f, hf => by
    simp only [FD.plainL, Bool.and_eq_true] at h
    rcases List.mem_cons.1 hf with e | hf
    · subst e
      cases f with
      | mk kind frm to null tag dfl of sub =>
        have := h.1
        simp only [FD.plain, Bool.and_eq_true, decide_eq_true_eq] at this
        show tag < _
        omega
    · exact plain_tags h.2 f hf
mutual
theorem FD.fitdC (L : FLib P F) : ∀ f : FD, f.plain = true → f.fitB = true → FitdC P F f
  | .mk kind frm to null tag dfl of sub, h, hb => by
    simp only [FD.plain, Bool.and_eq_true, decide_eq_true_eq] at h
    simp only [FD.fitB, Bool.and_eq_true, Bool.or_eq_true, decide_eq_true_eq] at hb
    have hS : FitC P F sub := fit_call L.sl.mixed L.fit L.sl.at_ L.sl.whole L.sl.unknown L.sl.known h.2.1 (plain_tags h.2.2) (fitdCL L sub h.2.2 hb.2)
    refine fitd_call L.sl.mixed L.fitted L.sl.null L.sl.whole L.sl.things (fun _ => hS) fun hk => ?_
    have hof : of ≠ 11 := hb.1.resolve_left (by simp [hk])
    exact ⟨hof, fitd_call L.sl.mixed L.fitted L.sl.null L.sl.whole L.sl.things (fun _ => hS) fun e => absurd e hof⟩
theorem fitdCL (L : FLib P F) : ∀ l : List FD, FD.plainL l = true → FD.fitBL l = true → ∀ f ∈ l, FitdC P F f
  | [], _, _, f, hf => by simp at hf
  | a :: l, h, hb, f, hf => by
    simp only [FD.plainL, Bool.and_eq_true] at h
    simp only [FD.fitBL, Bool.and_eq_true] at hb
    rcases List.mem_cons.1 hf with e | hf
    · rw [e]; exact FD.fitdC L a h.1 hb.1
    · exact fitdCL L l h.2 hb.2 f hf
end
theorem fit_plain (L : FLib P F) {fds : List FD} (h : FD.plainL fds = true) (hb : FD.fitBL fds = true) (hlen : fds.length < 1000) : FitC P F fds :=
  fit_call L.sl.mixed L.fit L.sl.at_ L.sl.whole L.sl.unknown L.sl.known hlen (plain_tags h) (fitdCL L fds h hb)
mutual
/-- Lists within what can be counted. -/
def TR.sml : TR → Prop
  | .mk _ _ _ l u => l.length ≤ 2147483647 ∧ u.length ≤ 2147483647 ∧ TR.smlL l
def TR.smlL : List TR → Prop
  | [] => True
  | t :: l => t.sml ∧ TR.smlL l
end
theorem TR.smlL_mem : ∀ {l : List TR}, TR.smlL l → ∀ t ∈ l, t.sml
  | [], _, t, h => by simp at h
  | a :: l, hs, t, h => by
    simp only [TR.smlL] at hs
    rcases List.mem_cons.1 h with rfl | h
    · exact hs.1
    · exact TR.smlL_mem hs.2 t h
theorem TR.smlL_of : ∀ {l : List TR}, (∀ t ∈ l, t.sml) → TR.smlL l
  | [], _ => trivial
  | a :: l, h => ⟨h a (by simp), TR.smlL_of fun t ht => h t (by simp [ht])⟩
theorem given_call (hm : P.follows .mixedOrders = true) (h : liftF P (F lGiven) = some (ir_lGiven F)) (t : TR) (ht : t.sml) : GotAt P (F lGiven) t := by
  have h' : liftF P ((fun c => if c = lGot then F lGiven else F c) lGot) = some (ir_lGot (fun c => if c = lGot then F lGiven else F c)) := h
  refine TR.rec (motive_1 := fun t => t.sml → GotAt P ((fun c => if c = lGot then F lGiven else F c) lGot) t) (motive_2 := fun l => ∀ t ∈ l, t.sml → GotAt P ((fun c => if c = lGot then F lGiven else F c) lGot) t) ?_ ?_ ?_ t ht
  · intro n s null l u ih hs
    simp only [TR.sml] at hs
    exact got_one (F := fun c => if c = lGot then F lGiven else F c) hm h' (fun t ht => ih t ht (TR.smlL_mem hs.2.2 t ht)) hs.1 hs.2.1
  · intro t ht; simp at ht
  · intro a l ih1 ih2 t ht
    rcases List.mem_cons.1 ht with rfl | ht
    · exact ih1
    · exact ih2 t ht
theorem fitU_le (fs : List FD) (u : List (Nat × List UInt8)) : (fitU fs u).length ≤ 32767 := by
  unfold fitU; rw [List.length_map]; exact unkP_len fs u
mutual
theorem FD.fit_sml (ver : Int) : ∀ (f : FD) (t : TR), f.plain = true → (f.fit ver t).sml
  | .mk kind frm to null tag dfl of sub, t, h => by
    simp only [FD.plain, Bool.and_eq_true, decide_eq_true_eq] at h
    have hv : ∀ k nl (x : TR), (fitV k (fun y => .mk 0 [] false (fitL ver sub 0 y) (fitU sub y.u)) nl x).sml := by
      intro k nl x
      have hU := fitU_le sub x.u
      have hL := fitL_length ver sub 0 x
      unfold fitV
      split
      · simp [TR.sml, TR.smlL]
      · split
        · exact ⟨by show (fitL ver sub 0 x).length ≤ _; omega, by show (fitU sub x.u).length ≤ _; omega, fitL_sml ver sub 0 x h.2.2⟩
        · simp [TR.sml, TR.smlL]
    simp only [FD.fit]
    split
    · refine ⟨by simp; omega, by simp, TR.smlL_of fun y hy => ?_⟩
      obtain ⟨x, -, rfl⟩ := List.mem_map.1 hy
      exact hv _ _ x
    · exact hv _ _ t
theorem fitL_sml (ver : Int) : ∀ (l : List FD) (i : Nat) (t : TR), FD.plainL l = true → TR.smlL (fitL ver l i t)
  | [], _, _, _ => trivial
  | f :: l, i, t, h => by
    simp only [FD.plainL, Bool.and_eq_true] at h
    exact ⟨FD.fit_sml ver f (t.at i) h.1, fitL_sml ver l (i + 1) t h.2⟩
end
end
end Go.Msk

namespace Go.Msk
open Go.RowKit
set_option maxRecDepth 100000
structure FE where
  ptr : Bool
  fat : FuncId
  sx : FuncId
  deriving Inhabited
def FE.tr (E : FE) : Nat := if E.ptr then 3 else 1
def FE.k (E : FE) : Nat := if E.ptr then 1 else 0
def FE.aOps (E : FE) (t : Nat) : List RI := if E.ptr then [⟨some t, .mv (.tmp 0), none⟩] else []
def FE.stO (E : FE) (t u off sz v : Nat) : List RI :=
  if E.ptr then [⟨some u, .nilc (.tmp t), none⟩, ⟨some (u + 1), .fad (.tmp u) off, none⟩, ⟨none, .st (.tmp (u + 1)) sz (.tmp v), none⟩]
  else [⟨some u, .fad (.tmp 3) off, none⟩, ⟨none, .st (.tmp u) sz (.tmp v), none⟩]
def FE.atO (E : FE) (t i : Nat) : List RI := [⟨some t, .ldn (.tmp E.tr) 5, none⟩, ⟨some (t + 1), .call E.fat [.tmp t, .const (.int .i64 (i : Nat))], none⟩]
def fldOf : PK → Nat
  | .str => 1
  | .uuid => 1
  | _ => 0
def cvR (sx : FuncId) (p : PK) (a : Nat) : List RI :=
  match p with
  | .bool => [⟨some (a + 1), .bin .and (.tmp a) (.const (.int .i64 1)), none⟩, ⟨some (a + 2), .bin .eql (.tmp (a + 1)) (.const (.int .i64 1)), none⟩]
  | .i8 => [⟨some (a + 1), .conv .i8 (.tmp a), none⟩]
  | .i16 => [⟨some (a + 1), .conv .i16 (.tmp a), none⟩]
  | .u16 => [⟨some (a + 1), .conv .u16 (.tmp a), none⟩]
  | .i32 => [⟨some (a + 1), .conv .i32 (.tmp a), none⟩]
  | .str => [⟨some (a + 1), .b2s (.tmp a), none⟩]
  | .uuid => [⟨some (a + 1), .call sx [.tmp a], none⟩]
  | _ => []
def cvN : PK → Nat
  | .bool => 2
  | .i64 => 0
  | .i8 | .i16 | .u16 | .i32 | .str | .uuid => 1
  | _ => 0
def ziP : PK → List Value
  | .bool => [.bool false]
  | .i8 => [.int .i8 0]
  | .i16 => [.int .i16 0]
  | .u16 => [.int .u16 0]
  | .i32 => [.int .i32 0]
  | .i64 => [.int .i64 0]
  | .str => [.string .empty]
  | .uuid => u8s (List.replicate 16 0)
  | _ => [.int .i64 0]
inductive Fl where
  | nil
  | prm (p : PK) (rest : Fl)
  | lsp (p : PK) (bytes : Nat) (rest : Fl)
  | lss (f : FuncId) (bytes : Nat) (body rest : Fl)
  | tags (set : FuncId)
  deriving Inhabited
def Fl.zs : Fl → List (List Value)
  | .nil => []
  | .prm p rest => ziP p :: rest.zs
  | .lsp _ _ rest => [.slice none 0 0] :: rest.zs
  | .lss _ _ _ rest => [.slice none 0 0] :: rest.zs
  | .tags _ => [[.map none]]
abbrev Fl.z (fl : Fl) : List Value := fl.zs.flatten
def Fl.loops : Fl → Nat
  | .nil => 0
  | .prm _ rest => rest.loops
  | .lsp _ _ rest => 1 + rest.loops
  | .lss _ _ _ rest => 1 + rest.loops
  | .tags _ => 1
def nd' (r : RI) : DI := ⟨r, false, []⟩
def appS (E : FE) (c xv off bytes : Nat) (f : FuncId) (z : List Value) : IC :=
  if E.ptr then .drw [⟨⟨some c, .mv (.tmp 0), none⟩, false, []⟩, ⟨⟨some (c + 1), .mv (.tmp 0), none⟩, false, []⟩, ⟨⟨some (c + 2), .nilc (.tmp (c + 1)), none⟩, false, []⟩, ⟨⟨some (c + 3), .fad (.tmp (c + 2)) off, none⟩, false, []⟩, ⟨⟨some (c + 4), .ld (.tmp (c + 3)), none⟩, false, []⟩,
      ⟨⟨some (c + 5), .ldn (.tmp xv) 5, none⟩, false, []⟩, ⟨⟨some (c + 6), .call f [.tmp (c + 5)], none⟩, true, []⟩, ⟨⟨some (c + 7), .bslice 1 z [(0, z.length, .tmp (c + 6))], none⟩, true, [6]⟩, ⟨⟨some (c + 8), .append (.tmp (c + 4)) (.tmp (c + 7)) z.length bytes, none⟩, true, [6, 7]⟩,
      ⟨⟨some (c + 9), .nilc (.tmp c), none⟩, false, [6, 7, 8]⟩, ⟨⟨some (c + 10), .fad (.tmp (c + 9)) off, none⟩, false, [6, 7, 8]⟩] [⟨none, .st (.tmp (c + 10)) 1 (.tmp (c + 8)), none⟩]
  else .drw [⟨⟨some c, .fad (.tmp 3) off, none⟩, false, []⟩, ⟨⟨some (c + 1), .ld (.tmp c), none⟩, false, []⟩, ⟨⟨some (c + 2), .ldn (.tmp xv) 5, none⟩, false, []⟩, ⟨⟨some (c + 3), .call f [.tmp (c + 2)], none⟩, true, []⟩, ⟨⟨some (c + 4), .bslice 1 z [(0, z.length, .tmp (c + 3))], none⟩, true, [3]⟩]
      [⟨some (c + 5), .append (.tmp (c + 1)) (.tmp (c + 4)) z.length bytes, none⟩, ⟨some (c + 6), .fad (.tmp 3) off, none⟩, ⟨none, .st (.tmp (c + 6)) 1 (.tmp (c + 5)), none⟩]
def FE.nS (E : FE) : Nat := if E.ptr then 11 else 7
def appP (E : FE) (c xv off bytes : Nat) (p : PK) : IC :=
  if E.ptr then .drw ([nd' ⟨some c, .mv (.tmp 0), none⟩, nd' ⟨some (c + 1), .mv (.tmp 0), none⟩, nd' ⟨some (c + 2), .nilc (.tmp (c + 1)), none⟩, nd' ⟨some (c + 3), .fad (.tmp (c + 2)) off, none⟩, nd' ⟨some (c + 4), .ld (.tmp (c + 3)), none⟩,
      nd' ⟨some (c + 5), .fad (.tmp xv) (fldOf p), none⟩, nd' ⟨some (c + 6), .ld (.tmp (c + 5)), none⟩] ++ ((cvR E.sx p (c + 6)).map nd' ++ [⟨⟨some (c + 7 + cvN p), .bslice 1 (ziP p) [(0, 1, .tmp (c + 6 + cvN p))], none⟩, true, []⟩, ⟨⟨some (c + 8 + cvN p), .append (.tmp (c + 4)) (.tmp (c + 7 + cvN p)) 1 bytes, none⟩, true, [7 + cvN p]⟩,
      ⟨⟨some (c + 9 + cvN p), .nilc (.tmp c), none⟩, false, [7 + cvN p, 8 + cvN p]⟩, ⟨⟨some (c + 10 + cvN p), .fad (.tmp (c + 9 + cvN p)) off, none⟩, false, [7 + cvN p, 8 + cvN p]⟩])) [⟨none, .st (.tmp (c + 10 + cvN p)) 1 (.tmp (c + 8 + cvN p)), none⟩]
  else .blk ([⟨some c, .fad (.tmp 3) off, none⟩, ⟨some (c + 1), .ld (.tmp c), none⟩, ⟨some (c + 2), .fad (.tmp xv) (fldOf p), none⟩, ⟨some (c + 3), .ld (.tmp (c + 2)), none⟩] ++ (cvR E.sx p (c + 3) ++
      [⟨some (c + 4 + cvN p), .bslice 1 (ziP p) [(0, 1, .tmp (c + 3 + cvN p))], none⟩, ⟨some (c + 5 + cvN p), .append (.tmp (c + 1)) (.tmp (c + 4 + cvN p)) 1 bytes, none⟩, ⟨some (c + 6 + cvN p), .fad (.tmp 3) off, none⟩, ⟨none, .st (.tmp (c + 6 + cvN p)) 1 (.tmp (c + 5 + cvN p)), none⟩]))
def FE.nP (E : FE) (p : PK) : Nat := if E.ptr then 11 + cvN p else 7 + cvN p
def setT (E : FE) (c xv off : Nat) (set : FuncId) : IC :=
  if E.ptr then .drw [⟨⟨some c, .mv (.tmp 0), none⟩, false, []⟩, ⟨⟨some (c + 1), .nilc (.tmp c), none⟩, false, []⟩, ⟨⟨some (c + 2), .fad (.tmp (c + 1)) off, none⟩, false, []⟩, ⟨⟨some (c + 3), .fad (.tmp xv) 0, none⟩, false, []⟩, ⟨⟨some (c + 4), .ld (.tmp (c + 3)), none⟩, false, []⟩,
      ⟨⟨some (c + 5), .fad (.tmp xv) 1, none⟩, false, []⟩, ⟨⟨some (c + 6), .ld (.tmp (c + 5)), none⟩, false, []⟩, ⟨⟨some (c + 7), .call set [.tmp (c + 2), .tmp (c + 4), .tmp (c + 6)], none⟩, true, []⟩] []
  else .blk [⟨some c, .fad (.tmp 3) off, none⟩, ⟨some (c + 1), .fad (.tmp xv) 0, none⟩, ⟨some (c + 2), .ld (.tmp (c + 1)), none⟩, ⟨some (c + 3), .fad (.tmp xv) 1, none⟩, ⟨some (c + 4), .ld (.tmp (c + 3)), none⟩, ⟨some (c + 5), .call set [.tmp c, .tmp (c + 2), .tmp (c + 4)], none⟩]
def FE.nT (E : FE) : Nat := if E.ptr then 8 else 6
def rowL (r xv nb sz nx : Nat) (z : List Value) (body : IC) : IC :=
  .block nb (.loop (.seq (.blk [⟨some (r + 3), .bin .lss (.tmp (r + 2)) (.tmp (r + 1)), none⟩]) (.seq (.cond (.tmp (r + 3)) .skip (.exit nb)) (.seq (.block (nb + 1) (.seq (.blk [⟨some (r + 4), .iad (.tmp r) (.tmp (r + 2)) sz, none⟩, ⟨some (r + 5), .ldn (.tmp (r + 4)) sz, none⟩, ⟨some xv, .alloc z, none⟩, ⟨none, .st (.tmp xv) sz (.tmp (r + 5)), none⟩]) body))
    (.blk [⟨some nx, .bin .add (.tmp (r + 2)) (.const (.int .i64 1)), none⟩, ⟨some (r + 2), .mv (.tmp nx), none⟩])))))
def lstF' (E : FE) (i off t nb xv bytes nx : Nat) (z : List Value) (body : IC) : IC :=
  .seq (.blk (E.atO t i ++ [⟨some (t + 2), .fld (.tmp (t + 1)) 2 none, none⟩, ⟨some (t + 3), .lnot (.tmp (t + 2)), none⟩])) (.cond (.tmp (t + 3))
    (.seq (.blk (E.aOps (t + 4) ++ (E.atO (t + 4 + E.k) i ++ ([⟨some (t + 4 + E.k + 2), .fld (.tmp (t + 4 + E.k + 1)) 3 none, none⟩, ⟨some (t + 4 + E.k + 3), .len (.tmp (t + 4 + E.k + 2)), none⟩, ⟨some (t + 4 + E.k + 4), .mkslice (.const (.int .i64 0)) (.tmp (t + 4 + E.k + 3)) bytes z, none⟩] ++ E.stO (t + 4) (t + 4 + E.k + 5) off 1 (t + 4 + E.k + 4)))))
      (.seq (.blk (E.atO (t + 10 + 2 * E.k) i ++ [⟨some (t + 10 + 2 * E.k + 2), .fld (.tmp (t + 10 + 2 * E.k + 1)) 3 none, none⟩, ⟨some (t + 10 + 2 * E.k + 3), .len (.tmp (t + 10 + 2 * E.k + 2)), none⟩, ⟨some (t + 10 + 2 * E.k + 4), .mv (.const (.int .i64 0)), none⟩]))
        (rowL (t + 10 + 2 * E.k + 2) xv nb 5 nx tzero body))) .skip)
def Fl.gen (E : FE) : Fl → (i off t nb xv : Nat) → List IC
  | .nil, _, _, _, _, _ => []
  | .prm p rest, i, off, t, nb, xv =>
    .blk (E.aOps t ++ (E.atO (t + E.k) i ++ (⟨some (t + E.k + 2), .fld (.tmp (t + E.k + 1)) (fldOf p) none, none⟩ :: (cvR E.sx p (t + E.k + 2) ++ E.stO t (t + E.k + 3 + cvN p) off (ziP p).length (t + E.k + 2 + cvN p))))) ::
      rest.gen E (i + 1) (off + (ziP p).length) (t + (4 + cvN p + 2 * E.k)) nb xv
  | .lsp p bytes rest, i, off, t, nb, xv =>
    lstF' E i off t nb xv bytes (t + 18 + 2 * E.k + E.nP p) (ziP p) (appP E (t + 18 + 2 * E.k) xv off bytes p) :: rest.gen E (i + 1) (off + 1) (t + 18 + 2 * E.k + E.nP p + 1) (nb + 2) (xv + 2)
  | .lss f bytes body rest, i, off, t, nb, xv =>
    lstF' E i off t nb xv bytes (t + 18 + 2 * E.k + E.nS) body.z (appS E (t + 18 + 2 * E.k) xv off bytes f body.z) :: rest.gen E (i + 1) (off + 1) (t + 18 + 2 * E.k + E.nS + 1) (nb + 2) (xv + 2)
  | .tags set, _, off, t, nb, xv =>
    [.seq (.blk [⟨some t, .fad (.tmp E.tr) 4, none⟩, ⟨some (t + 1), .ld (.tmp t), none⟩, ⟨some (t + 2), .len (.tmp (t + 1)), none⟩, ⟨some (t + 3), .mv (.const (.int .i64 0)), none⟩]) (rowL (t + 1) xv nb 2 (t + 7 + E.nT) uzero (setT E (t + 7) xv off set))]
def Fl.nt (E : FE) : Fl → Nat
  | .nil => 0
  | .prm p rest => 4 + cvN p + 2 * E.k + rest.nt E
  | .lsp p _ rest => 18 + 2 * E.k + E.nP p + 1 + rest.nt E
  | .lss _ _ _ rest => 18 + 2 * E.k + E.nS + 1 + rest.nt E
  | .tags _ => 7 + E.nT + 1
def Fl.genTop (fl : Fl) (fat sx : FuncId) : IC × List RV × Nat :=
  (seqs (.blk [⟨some 3, .box (.tmp 1), none⟩] :: fl.gen ⟨true, fat, sx⟩ 0 1 (4 + 2 * fl.loops) 0 5), [], 4 + 2 * fl.loops + fl.nt ⟨true, fat, sx⟩)
def Fl.genMake (fl : Fl) (fat sx : FuncId) : IC × List RV × Nat :=
  (seqs ([.blk [⟨some 1, .box (.tmp 0), none⟩, ⟨some 2, .alloc fl.z, none⟩], .blk [⟨some 3, .alloc fl.z, none⟩]] ++ (fl.gen ⟨false, fat, sx⟩ 0 0 (4 + 2 * fl.loops) 0 5 ++
    [.blk [⟨some (4 + 2 * fl.loops + fl.nt ⟨false, fat, sx⟩), .ldn (.tmp 3) fl.z.length, none⟩, ⟨none, .st (.tmp 2) fl.z.length (.tmp (4 + 2 * fl.loops + fl.nt ⟨false, fat, sx⟩)), none⟩], .ret])), [.cells 2 fl.z.length], 4 + 2 * fl.loops + fl.nt ⟨false, fat, sx⟩ + 1)
def makeCode (z : List Value) (setv fill app : FuncId) : IC × List RV × Nat :=
  (seqs [.blk [⟨some 3, .box (.tmp 1), none⟩, ⟨some 4, .mv (.const (.slice none 0 0)), none⟩], .blk [⟨some 6, .build z [], none⟩, ⟨some 7, .box (.tmp 6), none⟩, ⟨some 5, .mv (.tmp 7), none⟩],
    .blk [⟨some 8, .mv (.tmp 5), none⟩, ⟨some 9, .mv (.tmp 0), none⟩, ⟨some 10, .conv .i16 (.tmp 9), none⟩, ⟨some 11, .call setv [.tmp 8, .tmp 10], none⟩], .blk [⟨some 12, .mv (.tmp 5), none⟩, ⟨some 13, .ldn (.tmp 3) 5, none⟩, ⟨some 14, .call fill [.tmp 12, .tmp 13], none⟩],
    .blk [⟨some 15, .mv (.tmp 5), none⟩, ⟨some 16, .call app [.tmp 15, .const (.slice none 0 0)], none⟩, ⟨some 4, .mv (.tmp 16), none⟩], .ret], [.tmp 4], 17)
end Go.Msk
