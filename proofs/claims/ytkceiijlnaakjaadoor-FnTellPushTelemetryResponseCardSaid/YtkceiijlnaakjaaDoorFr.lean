/- A small language of resolved operations, and what the generic and the generated functions do in it (part 18). -/
import Derived.Test.YtkceiijlnaakjaaDoorFq
import Derived.Shelf.GgSortFunc.Whole
import Derived.Shelf.GgSortFunc.Tiny

namespace Go.Msk
open Go.RowKit
set_option maxRecDepth 100000
def tellLaw (zz mx sm ver wr door flx got tol : FuncId) : IC × List RV × Nat :=
  (.seq (.blk [⟨some 3, .box (.tmp 1), none⟩, ⟨some 4, .mv (.const (.bool false)), none⟩])
  (.seq (.seq (.blk [⟨some 10, .ldn (.tmp 3) 5, none⟩, ⟨some 11, .call zz [.tmp 10], none⟩, ⟨some 12, .lnot (.tmp 11), none⟩])
    (.cond (.tmp 12) (.seq (.blk [⟨some 4, .mv (.const (.bool true)), none⟩]) .ret) .skip))
  (.seq (.blk [⟨some 13, .call mx [], none⟩, ⟨some 5, .mv (.tmp 13), none⟩])
  (.seq (.seq (.blk [⟨some 14, .mv (.tmp 5), none⟩, ⟨some 15, .bin .lss (.tmp 14) (.const (.int .i64 0)), none⟩])
    (.cond (.tmp 15) (.seq (.blk [⟨some 4, .mv (.const (.bool false)), none⟩]) .ret) .skip))
  (.seq (.blk [⟨some 16, .call sm [], none⟩, ⟨some 17, .mv (.tmp 0), none⟩, ⟨some 18, .mv (.tmp 5), none⟩, ⟨some 19, .call ver [.tmp 17, .tmp 18], none⟩, ⟨some 6, .alloc [.slice none 0 0, .int .i64 0], none⟩, ⟨none, .st (.tmp 6) 2 (.tmp 16), none⟩, ⟨some 7, .mv (.tmp 19), none⟩])
  (.seq (.blk [⟨some 21, .mv (.tmp 7), none⟩, ⟨some 22, .ldn (.tmp 6) 2, none⟩, ⟨some 23, .mv (.tmp 7), none⟩, ⟨some 24, .ldn (.tmp 3) 5, none⟩, ⟨some 25, .call wr [.tmp 22, .tmp 23, .tmp 24], none⟩, ⟨some 26, .call door [.tmp 21, .tmp 25], none⟩,
      ⟨some 20, .mv (.tmp 26), none⟩, ⟨some 27, .ext (.tmp 20) 0, none⟩, ⟨some 28, .ext (.tmp 20) 1, none⟩, ⟨some 8, .alloc tzero, none⟩, ⟨none, .st (.tmp 8) 5 (.tmp 27), none⟩, ⟨some 9, .mv (.tmp 28), none⟩])
  (.seq (.drw [⟨⟨some 29, .mv (.tmp 9), none⟩, false, []⟩, ⟨⟨some 30, .mv (.tmp 29), none⟩, false, []⟩, ⟨⟨some 31, .fad (.tmp 6) 0, some (30, true)⟩, false, []⟩, ⟨⟨some 32, .ld (.tmp 31), some (30, true)⟩, false, []⟩, ⟨⟨some 33, .mv (.tmp 7), some (30, true)⟩, false, []⟩,
      ⟨⟨some 34, .ldn (.tmp 6) 2, some (30, true)⟩, false, []⟩, ⟨⟨some 35, .mv (.tmp 7), some (30, true)⟩, false, []⟩, ⟨⟨some 36, .call flx [.tmp 34, .tmp 35], some (30, true)⟩, true, []⟩, ⟨⟨some 37, .ldn (.tmp 3) 5, some (30, true)⟩, false, []⟩, ⟨⟨some 38, .ldn (.tmp 8) 5, some (30, true)⟩, false, []⟩,
      ⟨⟨some 39, .call got [.tmp 38], some (30, true)⟩, true, [7]⟩, ⟨⟨some 40, .call tol [.tmp 32, .tmp 33, .tmp 36, .tmp 37, .tmp 39], some (30, true)⟩, true, [7, 10]⟩, ⟨⟨some 41, .pick (.tmp 30) (.tmp 40) (.const (.bool false)), none⟩, false, [7, 10, 11]⟩, ⟨⟨some 4, .mv (.tmp 41), none⟩, false, [7, 10, 11]⟩] [])
  .ret)))))), [.tmp 4], 42)
section
variable {P : Program} {F : Nat → Nat}
attribute [local simp] gOk updo upd ev RK.val? isShift intBin Addr.add_mk args0 Value.cells undef
theorem tell_law (hm : P.follows .mixedOrders = true) {f zz mx sm ver wr door flx got tol g : FuncId} (h : liftF P f = some (tellLaw zz mx sm ver wr door flx got tol)) {m : MD} {most : Int} (hmost : 0 ≤ most ∧ most < 32768)
    (hzz : ∀ (w : World) (t : TR) (ts : List Value), RepT anyB w t ts → Calls P zz [.agg ts.toArray].toArray w (BoolR w))
    (hmx : ∀ w, Calls P mx #[] w fun e w' => e = .returned (.int .i64 most) ∧ Mod [] w w')
    (hsm : ∀ w, Calls P sm #[] w fun e w' => ∃ cs, e = .returned (.agg cs.toArray) ∧ RepM anyB w' m cs ∧ Mod [] w w')
    (hver : ∀ w n, 0 ≤ n ∧ n < 256 → Calls P ver [.int .u8 n, .int .i64 most].toArray w fun e w' => e = .returned (.int .i64 (n % (most + 1))) ∧ w' = w)
    (hwr : ∀ (v : Int) (w : World) (ms : List Value) (t : TR) (ts : List Value), RepM anyB w m ms → RepT anyB w t ts → t.kok → (writeP m v t).length ≤ lim → Calls P wr [.agg ms.toArray, .int .i64 v, .agg ts.toArray].toArray w (BytesR w (writeP m v t)))
    {Te : TypeId} {ve : Value} {R : Int → TR → TR} (hdoor : DoorOf P door m most g Te ve R)
    {w : World} {n : Int} (hn : 0 ≤ n ∧ n < 256) {t : TR} {ts : List Value} (hgot : ∀ v, 0 ≤ v → v ≤ most → GotAt P got (R v t))
    (hflx : ∀ (v : Int) (w : World) (ms : List Value), RepM anyB w m ms → Calls P flx [.agg ms.toArray, .int .i64 v].toArray w fun e w' => e = .returned (.bool (m.isFlex v)) ∧ Mod [] w w')
    (htol : ∀ (v : Int) (w : World) (sv : Value) (css : List (List Value)) (xs us : List Value), 0 ≤ v → v ≤ most → SlC anyB w sv m.fs.length css.flatten → RepFL anyB w m.fs css → RepT anyB w t xs → RepT anyB w (R v t) us → Calls P tol [sv, .int .i64 v, .bool (m.isFlex v), .agg xs.toArray, .agg us.toArray].toArray w (TrueR w))
    (ht : RepT anyB w t ts) (hk : t.kok) (hlen : ∀ v, (writeP m v t).length + 1000 ≤ lim) (hg : GErr g w Te ve) :
    Calls P f [.int .u8 n, .agg ts.toArray].toArray w fun e w' => e = .returned (.bool true) ∧ Mod [] w w' := by
  unfold tellLaw at h
  refine call_of h hm (by simp) ?_
  clear h
  have h5 := ht.five
  rw [wpC_seq, wpC_blk]
  refine goBox (v := .agg ts.toArray) (by simp) fun w1 hb1 hm1 => ?_
  have hb1 : Blk w1 w.heap.size ts := by simpa using hb1
  refine go1 (v := .bool false) rfl (by simp) (goEnd ?_)
  simp only [thenC]
  have hload1 := cellsAt_of' hb1.cells h5
  rw [wpC_seq, wpC_seq, wpC_blk]
  refine go1 (v := .agg ts.toArray) rfl (by simp [hload1]) ?_
  refine goCall rfl (vs := [.agg ts.toArray]) (by simp) (hzz w1 t ts (ht.keep hm1)) ?_
  rintro e w2 ⟨zb, rfl, hm2⟩
  have hm02 := hm1.trans hm2
  refine ⟨_, rfl, ?_⟩
  refine go1 (v := .bool !zb) rfl (by simp) (goEnd ?_)
  simp only [thenC]
  cases zb with
  | false =>
    rw [wpC_cond_t (by simp), wpC_seq, wpC_blk]
    refine go1 (v := .bool true) rfl (by simp) (goEnd ?_)
    simp only [thenC]
    repeat first | refine retThen ?_ | refine retBlk ?_
    exact ret1 (v := .bool true) (by simp) ⟨rfl, hm02⟩
  | true =>
  rw [wpC_cond_f (by simp), wpC_skip]
  simp only [thenC]
  rw [wpC_seq, wpC_blk]
  refine goCall rfl (vs := []) rfl (hmx w2) ?_
  rintro e w3 ⟨rfl, hm3⟩
  have hm03 := hm02.trans hm3
  refine ⟨_, rfl, go1 (v := .int .i64 most) rfl (by simp) (goEnd ?_)⟩
  simp only [thenC]
  rw [wpC_seq, wpC_seq, wpC_blk]
  refine go1 (v := .int .i64 most) rfl (by simp) ?_
  refine go1 (v := .bool false) rfl (by simp; omega) (goEnd ?_)
  simp only [thenC]
  rw [wpC_cond_f (by simp), wpC_skip]
  simp only [thenC]
  rw [wpC_seq, wpC_blk]
  refine goCall rfl (vs := []) rfl (hsm w3) ?_
  rintro e w4 ⟨cs, rfl, hrm, hm4⟩
  have hm04 := hm03.trans hm4
  refine ⟨_, rfl, ?_⟩
  obtain ⟨cv, cfl, rfl, hone, fcss, hfs, hfl⟩ : ∃ a b, cs = [a, .int .i64 b] ∧ a.oneCell' = true ∧ ∃ css, SlC anyB w4 a m.fs.length css.flatten ∧ RepFL anyB w4 m.fs css := by cases hrm with | mk q1 q2 => exact ⟨_, _, rfl, q1.one, _, q1, q2⟩
  refine go1 (v := .int .u8 n) rfl (by simp) ?_
  refine go1 (v := .int .i64 most) rfl (by simp) ?_
  refine goCall rfl (vs := [.int .u8 n, .int .i64 most]) (by simp) (hver w4 n hn) ?_
  rintro e w5 ⟨rfl, e5⟩
  subst e5
  refine ⟨_, rfl, ?_⟩
  refine goAlloc fun w6 hb6 hm6 => ?_
  refine goSt (b := w5.heap.size) (v := .agg #[cv, .int .i64 cfl]) (by simp) (by simp) hb6 (by simp) (by simp) (by
    intro y hy
    simp only [Value.cells, List.mem_cons, List.not_mem_nil, or_false] at hy
    rcases hy with rfl | rfl
    · exact hone
    · rfl) fun w7 hb7 hm7 => ?_
  have hb7 : Blk w7 w5.heap.size [cv, .int .i64 cfl] := by simpa using hb7
  have hm57 : Mod [] w5 w7 := Mod.drop (b := w5.heap.size) (S := []) (hm6.nil.trans hm7) (Nat.le_refl _)
  have hm07 := hm04.trans hm57
  have hv0 : 0 ≤ n % (most + 1) := Int.emod_nonneg _ (by omega)
  have hv1 : n % (most + 1) ≤ most := by have := Int.emod_lt_of_pos n (show 0 < most + 1 by omega); omega
  generalize n % (most + 1) = vr at hv0 hv1 ⊢
  refine go1 (v := .int .i64 vr) rfl (by simp) (goEnd ?_)
  simp only [thenC]
  have hld7 := cellsAt_of' hb7.cells (show [cv, Value.int .i64 cfl].length = 2 from rfl)
  have hb17 : Blk w7 w.heap.size ts := hb1.mod (((hm2.trans hm3).trans hm4).trans hm57) (by simp)
  have hload7 := cellsAt_of' hb17.cells h5
  rw [wpC_seq, wpC_blk]
  refine go1 (v := .int .i64 vr) rfl (by simp) ?_
  refine go1 (v := .agg #[cv, .int .i64 cfl]) rfl (by simp [hld7]) ?_
  refine go1 (v := .int .i64 vr) rfl (by simp) ?_
  refine go1 (v := .agg ts.toArray) rfl (by simp [hload7]) ?_
  refine goCall rfl (vs := [.agg [cv, .int .i64 cfl].toArray, .int .i64 vr, .agg ts.toArray]) (by simp) (hwr vr w7 _ t ts (hrm.keep hm57) (ht.keep hm07) hk (by have := hlen vr; omega)) ?_
  rintro e w8 ⟨sv, rfl, hsd, hm8⟩
  have hm08 := hm07.trans hm8
  refine ⟨_, rfl, ?_⟩
  have hsl : SlC anyB w8 sv (writeP m vr t).length (u8s (writeP m vr t)) := hsd.slc.any
  refine goCall rfl (vs := [.int .i64 vr, sv]) (by simp) (hdoor w8 vr t sv hk (hlen vr) hv0 hv1 hsl (cell_mod hg hm08 (by simp))) ?_
  rintro e w9 ⟨xs, rfl, hx, hm9⟩
  have hm09 := hm08.trans hm9
  refine ⟨_, rfl, ?_⟩
  refine go1 (v := .tuple #[.agg xs.toArray, .bool true]) rfl (by simp) ?_
  refine go1 (v := .agg xs.toArray) rfl (by simp) ?_
  refine go1 (v := .bool true) rfl (by simp) ?_
  refine goAlloc fun w10 hb10 hm10 => ?_
  refine goSt (b := w9.heap.size) (v := .agg xs.toArray) (by simp) (by simp) hb10 (by simpa using hx.five) rfl (by simpa using hx.oneCell) fun w11 hb11 hm11 => ?_
  have hb11 : Blk w11 w9.heap.size xs := by simpa using hb11
  have hm911 : Mod [] w9 w11 := Mod.drop (b := w9.heap.size) (S := []) (hm10.nil.trans hm11) (Nat.le_refl _)
  refine go1 (v := .bool true) rfl (by simp) (goEnd ?_)
  simp only [thenC]
  rw [wpC_seq]
  show wpD P _ [] _ w11.drew _
  have hmd : Mod [] w9 w11.drew := hm911.trans (Mod.drew _ _)
  have hm0d := hm09.trans hmd
  have hb7d : Blk w11.drew w5.heap.size [cv, .int .i64 cfl] := hb7.mod ((hm8.trans hm9).trans hmd) (by simp)
  have c7 := fun k => hb7d.cell k
  have hb11d := hb11.mod (Mod.drew [] w11) (by simp)
  have hldx := cellsAt_of' hb11d.cells hx.five
  have hsz : w11.drew.heap.size = w11.heap.size := rfl
  have hxd : RepT (fun b => b < w11.drew.heap.size) w11.drew (R vr t) xs := (hx.mod (ok' := fun _ => True) hmd (by simp) fun _ _ _ => trivial).mod (Mod.refl [] _) (by simp) fun b hb _ => hb
  have hm5d : Mod [] w5 w11.drew := ((hm57.trans hm8).trans hm9).trans hmd
  have hld7d := cellsAt_of' hb7d.cells (show [cv, Value.int .i64 cfl].length = 2 from rfl)
  have hld1d := cellsAt_of' (hb17.mod ((hm8.trans hm9).trans hmd) (by simp)).cells h5
  have hrmd := hrm.keep hm5d
  refine wpD_of_B (fun i v w' => match i with | 7 => v = .bool (m.isFlex vr) | 10 => ∃ cs, v = .agg cs.toArray ∧ RepT anyB w' (R vr t) cs | 11 => v = .bool true | _ => True) (by
    intro i v w w' h hm
    split at h
    · exact h
    · obtain ⟨cs, e, h⟩ := h; exact ⟨cs, e, h.keep hm⟩
    · exact h
    · trivial) ?_
  refine bo1 (v := .bool true) rfl (by simp) ?_
  refine bo1 (v := .bool true) rfl (by simp) ?_
  refine bo1 (v := .pointer (some ⟨w5.heap.size, 0, none⟩)) (by simp) (by simp) ?_
  refine bo1 (v := cv) (by simp) (by simp [c7]) ?_
  refine bo1 (v := .int .i64 vr) (by simp) (by simp) ?_
  refine bo1 (v := .agg #[cv, .int .i64 cfl]) (by simp) (by simp [hld7d]) ?_
  refine bo1 (v := .int .i64 vr) (by simp) (by simp) ?_
  refine boCall (vs := [.agg [cv, .int .i64 cfl].toArray, .int .i64 vr]) (by simp) (by simp) (fun w' hm' _ => (hflx vr w' _ (hrmd.keep hm')).mono ?_) ?_
  · rintro e w'' ⟨rfl, hmm⟩
    exact ⟨_, rfl, hmm, rfl⟩
  rintro v7 ⟨wv7, ev7⟩
  have ev7 : v7 = .bool (m.isFlex vr) := ev7
  subst ev7
  refine bo1 (v := .agg ts.toArray) (by simp) (by simp [hld1d]) ?_
  refine bo1 (v := .agg xs.toArray) (by simp) (by simp [hldx]) ?_
  refine boCall (vs := [.agg xs.toArray]) (by simp) (by simp) (fun w' hm' _ => (hgot vr hv0 hv1 w11.drew.heap.size w' xs hm'.size (hxd.mod hm' (by simp) fun _ _ h => h)).mono ?_) ?_
  · rintro e w'' ⟨us, rfl, hru, hmm⟩
    exact ⟨_, rfl, hmm, us, rfl, hru.any⟩
  rintro v ⟨wv, us, rfl, -⟩
  refine boCall (vs := [cv, .int .i64 vr, .bool (m.isFlex vr), .agg ts.toArray, .agg us.toArray]) (by simp) (by simp) (fun w' hm' hkn => ?_) ?_
  · have k5 := known_get (j := 10) (t := 39) hkn (by simp) rfl rfl (by simp) rfl
    obtain ⟨us', eu, hru⟩ : ∃ cs, Value.agg us.toArray = .agg cs.toArray ∧ RepT anyB w' (R vr t) cs := by simpa using k5
    have hm4w : Mod [] w5 w' := hm5d.trans hm'
    rw [show ([cv, .int .i64 vr, .bool (m.isFlex vr), .agg ts.toArray, Value.agg us.toArray] : List Value) = [cv, .int .i64 vr, .bool (m.isFlex vr), .agg ts.toArray, .agg us'.toArray] by rw [eu]]
    refine (htol vr w' cv fcss ts us' hv0 hv1 (hfs.keep hm4w) (hfl.keep hm4w) (ht.keep (hm0d.trans hm')) hru).mono ?_
    rintro e w'' ⟨rfl, hmm⟩
    exact ⟨_, rfl, hmm, rfl⟩
  rintro v ⟨wv', ev'⟩
  have ev' : v = .bool true := ev'
  subst ev'
  refine bo1 (v := .bool true) rfl (by simp) ?_
  refine bo1 (v := .bool true) rfl (by simp) ?_
  intro w' hm' hkn
  refine goEnd ?_
  simp only [thenC]
  exact ret1 (v := .bool true) (by simp) ⟨rfl, hm0d.trans hm'⟩
end
end Go.Msk

namespace Go.Msk
open Go.RowKit
set_option maxRecDepth 100000
theorem uuidP_len (s : List UInt8) : (uuidP s).length = 16 := by simp [uuidP]; omega
theorem valG_ty {p : PK} {kind : Int} {nul null : Bool} {t : TR} (hk : kindOk kind nul p = true) : p.ty (valG p null t) := by
  have hw := wholeP_le t.s
  cases p with
  | bool => exact ⟨_, rfl⟩
  | i64 => exact ⟨_, rfl, i64_wrap_wrap _⟩
  | str => exact ⟨_, rfl⟩
  | nstr => exact ⟨_, rfl⟩
  | byt => exact ⟨_, rfl, fun l e => by cases e; omega⟩
  | uuid => exact ⟨_, rfl, uuidP_len _⟩
  | u32 => simp [kindOk] at hk
  | nbyt => simp [kindOk] at hk
  | _ => exact ⟨_, _, rfl⟩
theorem valG_sm (p : PK) (null : Bool) (t : TR) : (valG p null t).sm := by
  have hw := wholeP_le t.s
  have hb : (GV.byt (some (wholeP t.s))).sm := ⟨by simp only [GV.told, TR.small, TR.smallL]; simp; omega, fun m e => by simp at e⟩
  cases p with
  | str => exact str_sm (by omega)
  | nstr =>
    refine ⟨?_, fun m e => by simp [valG] at e⟩
    cases null <;> simp [valG, GV.told, TR.small, TR.smallL]; omega
  | uuid => exact arr_sm (by rw [uuidP_len]; omega)
  | byt => exact hb
  | u32 => exact hb
  | nbyt => exact hb
  | _ => exact num_sm (by simp)
theorem lstG_ty {T : GV → Prop} {sz esz : Nat} {val : TR → GV} {ys : List TR} (hsz : sz = esz) (hl : ys.length ≤ 32767) (h : ∀ y ∈ ys, T (val y)) : ∃ isnil z l, lstG sz val ys = .lst isnil z l ∧ (∀ g ∈ l, T g) ∧ l.length ≤ 2147483647 ∧ (l = [] ∨ z = esz) := by
  refine ⟨_, _, _, rfl, fun g hg => ?_, by simp; omega, ?_⟩
  · obtain ⟨y, hy, rfl⟩ := List.mem_map.1 hg; exact h y hy
  · by_cases hz : (ys.length : Int) ≤ 0
    · left
      have : ys = [] := List.length_eq_zero_iff.1 (by omega)
      simp [this]
    · right; rw [if_neg hz, hsz]
theorem lstG_sm {sz : Nat} {val : TR → GV} {ys : List TR} (hl : ys.length ≤ 32767) (h : ∀ y ∈ ys, (val y).sm) : (lstG sz val ys).sm := by
  refine lst_small (by simp; omega) fun g hg => ?_
  obtain ⟨y, hy, rfl⟩ := List.mem_map.1 hg; exact h y hy
section
variable {ver : Int} {x : Bool}
theorem vals_len : ∀ (sc : Sc) (fds : List FD) (i : Nat) (t : TR), sc.rvB ver x fds = true → (sc.vals ver x fds i t).length = sc.len := by
  intro sc
  induction sc with
  | nil => intro fds i t _; rfl
  | tags f => intro fds i t _; rfl
  | _ =>
    rename_i ih
    intro fds i t h
    cases fds with
    | nil => simp [Sc.rvB] at h
    | cons f fs =>
      simp only [Sc.rvB, Bool.and_eq_true] at h
      simp [Sc.vals, Sc.len, ih fs (i + 1) t h.2]
theorem vals_sm : ∀ (sc : Sc) (fds : List FD) (i : Nat) (t : TR), sc.rvB ver x fds = true → sc.smallB = true → t.kok → ∀ g ∈ sc.vals ver x fds i t, g.sm := by
  intro sc
  have l0 : (GV.lst true 0 []).sm := ⟨by simp [GV.told, GV.toldL, TR.small, TR.smallL], fun m e => by simp at e⟩
  have cons : ∀ {g : GV} {l : List GV}, g.sm → (∀ y ∈ l, y.sm) → ∀ y ∈ g :: l, y.sm := fun h1 h2 y hy => by
    rcases List.mem_cons.1 hy with rfl | hy
    · exact h1
    · exact h2 y hy
  induction sc with
  | nil => intro fds i t _ _ _ g hg; simp [Sc.vals] at hg
  | tags f =>
    intro fds i t _ _ hk g hg
    simp only [Sc.vals, List.mem_singleton] at hg
    subst hg
    have hku : ∀ p ∈ t.u, p.1 < 4294967296 := by cases t; exact hk.1
    obtain ⟨-, h2⟩ := unk_ok hku
    refine ⟨by simp [GV.told, TR.small, TR.smallL, TR.zero], fun m e => ?_⟩
    simp only [GV.tag.injEq] at e
    subst e
    cases x with
    | false => simp
    | true =>
      refine ⟨by simp [wholeU]; omega, fun p hp => ?_⟩
      simp only [if_true, wholeU, List.mem_map] at hp
      obtain ⟨q, -, rfl⟩ := hp
      have := wholeP_le q.2
      show (wholeP q.2).length ≤ _
      omega
  | prm vc init rr p d rest ih =>
    intro fds i t h hs hk
    cases fds with
    | nil => simp [Sc.rvB] at h
    | cons f fs =>
      simp only [Sc.rvB, Bool.and_eq_true] at h
      simp only [Sc.smallB, Bool.and_eq_true] at hs
      refine cons ?_ (ih fs (i + 1) t h.2 hs.2 hk)
      split
      · exact valG_sm _ _ _
      · exact Df.small hs.1
  | enm vc init rr p d rest ih =>
    intro fds i t h hs hk
    cases fds with
    | nil => simp [Sc.rvB] at h
    | cons f fs =>
      simp only [Sc.rvB, Bool.and_eq_true] at h
      simp only [Sc.smallB, Bool.and_eq_true] at hs
      refine cons ?_ (ih fs (i + 1) t h.2 hs.2 hk)
      split
      · exact valG_sm _ _ _
      · exact Df.small hs.1
  | uid vc ff rest ih =>
    intro fds i t h hs hk
    cases fds with
    | nil => simp [Sc.rvB] at h
    | cons f fs =>
      simp only [Sc.rvB, Bool.and_eq_true] at h
      refine cons ?_ (ih fs (i + 1) t h.2 hs hk)
      split
      · exact arr_sm (by rw [uuidP_len]; omega)
      · exact arr_sm (by simp)
  | lsp vc ln bytes d init rr p rest ih =>
    intro fds i t h hs hk
    cases fds with
    | nil => simp [Sc.rvB] at h
    | cons f fs =>
      simp only [Sc.rvB, Bool.and_eq_true] at h
      refine cons ?_ (ih fs (i + 1) t h.2 hs hk)
      split
      · exact lstG_sm (take_le _) fun y _ => valG_sm _ _ _
      · exact l0
  | lss vc ln bytes z dfl body rest ihb ih =>
    intro fds i t h hs hk
    cases fds with
    | nil => simp [Sc.rvB] at h
    | cons f fs =>
      simp only [Sc.rvB, Bool.and_eq_true] at h
      simp only [Sc.smallB, Bool.and_eq_true, decide_eq_true_eq] at hs
      refine cons ?_ (ih fs (i + 1) t h.2 hs.2 hk)
      split
      · rename_i hh
        have hb : body.rvB ver x f.sub = true := by
          have := h.1.2
          rw [hh] at this
          simp only [Bool.not_true, Bool.false_or, Bool.and_eq_true] at this
          exact this.2
        refine lstG_sm (take_le _) fun y hy => rcd_small (by rw [vals_len _ _ _ _ hb]; exact hs.1.1) ?_
        exact ihb f.sub 0 y hb hs.1.2 (TR.kok_mem (hk.at i) (List.mem_of_mem_take hy))
      · exact l0
  | sub vc dfl body rest ihb ih =>
    intro fds i t h hs hk
    cases fds with
    | nil => simp [Sc.rvB] at h
    | cons f fs =>
      simp only [Sc.rvB, Bool.and_eq_true] at h
      simp only [Sc.smallB, Bool.and_eq_true, decide_eq_true_eq] at hs
      refine cons ?_ (ih fs (i + 1) t h.2 hs.2 hk)
      split
      · rename_i hh
        have hb : body.rvB ver x f.sub = true := by
          have := h.1.2
          rw [hh] at this
          simp only [Bool.not_true, Bool.false_or, Bool.and_eq_true] at this
          exact this.2
        exact rcd_small (by rw [vals_len _ _ _ _ hb]; exact hs.1.1) (ihb f.sub 0 (t.at i) hb hs.1.2 (hk.at i))
      · exact rcd_small (by rw [Sc.dgv_len]; exact hs.1.1) (Sc.dgv_small body hs.1.2)
theorem vals_ty : ∀ (sc : Sc) (tl : Tl) (fds : List FD) (i : Nat) (t : TR), sc.rvB ver x fds = true → fit sc tl = true → t.kok → tl.ty (sc.vals ver x fds i t) := by
  intro sc
  induction sc with
  | nil => intro tl fds i t _ hf _; cases tl <;> simp only [fit, Bool.false_eq_true] at hf; rfl
  | tags f =>
    intro tl fds i t _ hf hk
    cases tl <;> simp only [fit, Bool.false_eq_true] at hf
    have hku : ∀ p ∈ t.u, p.1 < 4294967296 := by cases t; exact hk.1
    obtain ⟨-, h2⟩ := unk_ok hku
    refine ⟨_, rfl, ?_⟩
    cases x with
    | false => simp
    | true =>
      refine ⟨by simp [wholeU]; omega, fun p hp => ?_⟩
      simp only [if_true, wholeU, List.mem_map] at hp
      obtain ⟨q, -, rfl⟩ := hp
      have := wholeP_le q.2
      show (wholeP q.2).length ≤ _
      omega
  | prm vc init rr p d rest ih =>
    intro tl fds i t h hf hk
    cases fds with
    | nil => simp [Sc.rvB] at h
    | cons f fs =>
      simp only [Sc.rvB, Bool.and_eq_true] at h
      have key : fitD p d = true → p.ty (if f.hasV ver = true then valG p (f.nullV ver (t.at i)) (t.at i) else d.gv) := fun hd => by
        split
        · rename_i hh
          have := h.1.2
          rw [hh] at this
          exact valG_ty (by simpa using this)
        · exact fitD_ty hd
      cases tl <;> simp only [fit, Bool.false_eq_true, Bool.and_eq_true] at hf
      · exact ⟨_, _, rfl, fitF_ty hf.1.1 (key hf.1.2), ih _ fs (i + 1) t h.2 hf.2 hk⟩
      · have e : p = .uuid := by simpa using hf.1.1
        subst e
        obtain ⟨l, h1, h2⟩ := key hf.1.2
        exact ⟨l, _, by rw [Sc.vals, h1], h2, ih _ fs (i + 1) t h.2 hf.2 hk⟩
  | enm vc init rr p d rest ih =>
    intro tl fds i t h hf hk
    cases fds with
    | nil => simp [Sc.rvB] at h
    | cons f fs =>
      simp only [Sc.rvB, Bool.and_eq_true] at h
      have key : fitD p d = true → p.ty (if f.hasV ver = true then valG p (f.nullV ver (t.at i)) (t.at i) else d.gv) := fun hd => by
        split
        · rename_i hh
          have := h.1.2
          rw [hh] at this
          exact valG_ty (by simpa using this)
        · exact fitD_ty hd
      cases tl <;> simp only [fit, Bool.false_eq_true, Bool.and_eq_true] at hf
      exact ⟨_, _, rfl, fitF_ty hf.1.1 (key hf.1.2), ih _ fs (i + 1) t h.2 hf.2 hk⟩
  | uid vc ff rest ih =>
    intro tl fds i t h hf hk
    cases fds with
    | nil => simp [Sc.rvB] at h
    | cons f fs =>
      simp only [Sc.rvB, Bool.and_eq_true] at h
      cases tl <;> simp only [fit, Bool.false_eq_true] at hf
      refine ⟨if f.hasV ver = true then uuidP (t.at i).s else List.replicate 16 0, _, by simp only [Sc.vals]; split <;> rfl, ?_, ih _ fs (i + 1) t h.2 hf hk⟩
      split
      · exact uuidP_len _
      · simp
  | lsp vc ln bytes d init rr p rest ih =>
    intro tl fds i t h hf hk
    cases fds with
    | nil => simp [Sc.rvB] at h
    | cons f fs =>
      simp only [Sc.rvB, Bool.and_eq_true] at h
      cases tl <;> simp only [fit, Bool.false_eq_true, Bool.and_eq_true, decide_eq_true_eq] at hf
      rename_i k esz body r'
      have key : ∃ isnil z l, (if f.hasV ver = true then lstG d.size (valG p false) ((t.at i).l.take 32767) else .lst true 0 []) = .lst isnil z l ∧ (∀ g ∈ l, k.ty body.ty g) ∧ l.length ≤ 2147483647 ∧ (l = [] ∨ z = esz) := by
        split
        · rename_i hh
          have := h.1.2
          rw [hh] at this
          simp only [Bool.not_true, Bool.false_or, Bool.and_eq_true] at this
          exact lstG_ty hf.1.2 (take_le _) fun y _ => fitE_ty hf.1.1 (valG_ty this.1.2)
        · exact ⟨_, _, _, rfl, by simp, by simp, .inl rfl⟩
      obtain ⟨b, z, l, e, h1, h2, h3⟩ := key
      exact ⟨b, z, l, _, by rw [Sc.vals, e], h1, h2, h3, ih _ fs (i + 1) t h.2 hf.2 hk⟩
  | lss vc ln bytes z dfl body rest ihb ih =>
    intro tl fds i t h hf hk
    cases fds with
    | nil => simp [Sc.rvB] at h
    | cons f fs =>
      simp only [Sc.rvB, Bool.and_eq_true] at h
      cases tl with
      | lst k esz b r' =>
        cases k with
        | tell ft =>
          simp only [fit, Bool.and_eq_true, decide_eq_true_eq] at hf
          have key : ∃ isnil z l, (if f.hasV ver = true then lstG body.size (fun y => .rcd (body.vals ver x f.sub 0 y)) ((t.at i).l.take 32767) else .lst true 0 []) = .lst isnil z l ∧ (∀ g ∈ l, (EK.tell ft).ty b.ty g) ∧ l.length ≤ 2147483647 ∧ (l = [] ∨ z = esz) := by
            split
            · rename_i hh
              have hb : body.rvB ver x f.sub = true := by
                have := h.1.2
                rw [hh] at this
                simp only [Bool.not_true, Bool.false_or, Bool.and_eq_true] at this
                exact this.2
              exact lstG_ty hf.1.2 (take_le _) fun y hy => ⟨_, rfl, ihb b f.sub 0 y hb hf.1.1 (TR.kok_mem (hk.at i) (List.mem_of_mem_take hy))⟩
            · exact ⟨_, _, _, rfl, by simp, by simp, .inl rfl⟩
          obtain ⟨bb, z, l, e, h1, h2, h3⟩ := key
          exact ⟨bb, z, l, _, by rw [Sc.vals, e], h1, h2, h3, ih _ fs (i + 1) t h.2 hf.2 hk⟩
        | num c => simp [fit] at hf
        | str => simp [fit] at hf
      | _ => simp [fit] at hf
  | sub vc dfl body rest ihb ih =>
    intro tl fds i t h hf hk
    cases fds with
    | nil => simp [Sc.rvB] at h
    | cons f fs =>
      simp only [Sc.rvB, Bool.and_eq_true] at h
      cases tl <;> simp only [fit, Bool.false_eq_true, Bool.and_eq_true] at hf
      rename_i ff n b r'
      have key : ∃ l, (if f.hasV ver = true then GV.rcd (body.vals ver x f.sub 0 (t.at i)) else .rcd body.dgv) = .rcd l ∧ b.ty l := by
        split
        · rename_i hh
          have hb : body.rvB ver x f.sub = true := by
            have := h.1.2
            rw [hh] at this
            simp only [Bool.not_true, Bool.false_or, Bool.and_eq_true] at this
            exact this.2
          exact ⟨_, rfl, ihb b f.sub 0 (t.at i) hb hf.1.1 (hk.at i)⟩
        · exact ⟨_, rfl, fit_dgv body b hf.1.1⟩
      obtain ⟨l, e, h1⟩ := key
      exact ⟨l, _, by rw [Sc.vals, e], h1, ih _ fs (i + 1) t h.2 hf.2 hk, rfl⟩
end
def rvV (T : Top) (m : MD) (ver : Int) : Bool := T.rv.isNone && (T.x ver == m.isFlex ver) && neB ver (m.isFlex ver) m.fs && T.sc.rvB ver (m.isFlex ver) m.fs
def rvOk (T : Top) (m : MD) (most : Nat) : Bool := FD.plainL m.fs && (List.range (most + 1)).all fun v => rvV T m (v : Nat)
theorem top_rv {T : Top} {m : MD} {most : Nat} (h : rvOk T m most = true) {ver : Int} (h0 : 0 ≤ ver) (h1 : ver ≤ most) {t : TR} (hk : t.kok) :
    0 < (writeP m ver t).length ∧ T.sc.rvB ver (m.isFlex ver) m.fs = true ∧ T.dec decStd ver (at_ (writeP m ver t)) = some ((ver, T.sc.vals ver (m.isFlex ver) m.fs 0 t), at_ []) := by
  simp only [rvOk, Bool.and_eq_true] at h
  obtain ⟨hp, h⟩ := h
  rw [List.all_eq_true] at h
  have hv := h ver.toNat (by rw [List.mem_range]; omega)
  rw [Int.toNat_of_nonneg h0] at hv
  simp only [rvV, Bool.and_eq_true, beq_iff_eq] at hv
  obtain ⟨⟨⟨hrv, hx⟩, hne⟩, hsc⟩ := hv
  have hrv : T.rv.isSome = false := by cases hr : T.rv <;> simp_all
  have e : writeP m ver t = bodyP ver (m.isFlex ver) m.fs 0 t ++ tailP (m.isFlex ver) t.u := by
    unfold writeP partP
    rw [unknownP_plain hp]; rfl
  refine ⟨by rw [e]; exact body_pos hne, hsc, ?_⟩
  have := T.sc.rv m.fs 0 t hsc hk []
  rw [← e, List.append_nil] at this
  unfold Top.dec
  rw [hrv]
  simp only [Bool.false_eq_true, if_false, hx, this]
end Go.Msk

namespace Go.Msk
open Go.RowKit
set_option maxRecDepth 100000
mutual
/-- Does a tree say what is so by default? -/
def FD.usB : FD → TR → Bool
  | .mk kind _ _ null _ dfl _ sub, x =>
    (!decide (kind = 8) || (x.null == decide (null ≥ 0) && x.s.isEmpty)) && (!decide (kind = 7) || x.s == List.replicate 16 0) && (!(decide (kind = 9) || decide (kind = 11)) || (x.s.isEmpty && x.l.isEmpty)) &&
    (!decide (kind = 10) || ((!decide (null ≥ 0) || x.null) && (!decide (null < 0) || (x.u.isEmpty && usBL sub 0 x)))) && (decide (kind = 7) || decide (kind = 8) || decide (kind = 9) || decide (kind = 10) || decide (kind = 11) || decide (x.n = numberP kind dfl))
def usBL : List FD → Nat → TR → Bool
  | [], _, _ => true
  | f :: fs, i, x => f.usB (x.at i) && usBL fs (i + 1) x
end
mutual
theorem FD.us_of : ∀ (f : FD) (x : TR), f.usB x = true → f.usualT x
  | .mk kind frm to null tag dfl of sub, x, h => by
    simp only [FD.usB, Bool.and_eq_true, Bool.or_eq_true, Bool.not_eq_true', decide_eq_false_iff_not, decide_eq_true_eq, beq_iff_eq, List.isEmpty_iff] at h
    obtain ⟨⟨⟨⟨h8, h7⟩, h9⟩, h10⟩, hn⟩ := h
    refine ⟨fun k => h8.resolve_left (absurd k), fun k => h7.resolve_left (absurd k), fun k => ?_, fun k => ?_, fun a b c d e => ?_⟩
    · rcases h9 with h9 | h9
      · simp only [Bool.or_eq_false_iff, decide_eq_false_iff_not] at h9
        rcases k with k | k
        · exact absurd k h9.1
        · exact absurd k h9.2
      · exact h9
    · obtain ⟨q1, q2⟩ := h10.resolve_left (absurd k)
      refine ⟨fun k => q1.resolve_left (absurd k), fun k => ?_⟩
      obtain ⟨q3, q4⟩ := q2.resolve_left (absurd k)
      exact ⟨q3, usL_of sub 0 x q4⟩
    · rcases hn with ((((hn | hn) | hn) | hn) | hn) | hn
      · exact absurd hn a
      · exact absurd hn b
      · exact absurd hn c
      · exact absurd hn d
      · exact absurd hn e
      · exact hn
theorem usL_of : ∀ (l : List FD) (i : Nat) (x : TR), usBL l i x = true → usualL l i x
  | [], _, _, _ => trivial
  | f :: fs, i, x, h => by
    simp only [usBL, Bool.and_eq_true] at h
    exact ⟨FD.us_of f _ h.1, usL_of fs (i + 1) x h.2⟩
end
def Sc.toB (ver : Int) : Sc → List FD → Bool
  | .nil, _ => true
  | .tags _, _ => true
  | .prm _ _ _ _ d rest, fds => match fds with
    | f :: fs => (if f.hasV ver then decide (f.kind = 8) || !f.nulB ver else f.usB d.gv.told) && rest.toB ver fs
    | [] => false
  | .enm _ _ _ _ d rest, fds => match fds with
    | f :: fs => (if f.hasV ver then decide (f.kind = 8) || !f.nulB ver else f.usB d.gv.told) && rest.toB ver fs
    | [] => false
  | .uid _ _ rest, fds => match fds with
    | f :: fs => (if f.hasV ver then !f.nulB ver else f.usB (GV.arr (List.replicate 16 0)).told) && rest.toB ver fs
    | [] => false
  | .lsp _ _ _ _ _ _ _ rest, fds => match fds with
    | f :: fs => (f.hasV ver || f.usB (GV.lst true 0 []).told) && rest.toB ver fs
    | [] => false
  | .lss _ _ _ _ _ body rest, fds => match fds with
    | f :: fs => (if f.hasV ver then body.toB ver f.sub else f.usB (GV.lst true 0 []).told) && rest.toB ver fs
    | [] => false
  | .sub _ _ body rest, fds => match fds with
    | f :: fs => (if f.hasV ver then body.toB ver f.sub else f.usB (GV.rcd body.dgv).told) && rest.toB ver fs
    | [] => false
theorem valG_told {p : PK} {kind : Int} {nul null may : Bool} {t : TR} {part : TR → TR → Prop} (hk : kindOk kind nul p = true) (hn : null = true → nul = true) (hm : kind = 8 ∨ may = false) (ht : IntKind.i64.wrap t.n = t.n) : valT kind part null may t (valG p null t).told := by
  cases p with
  | bool =>
    simp only [kindOk, decide_eq_true_eq] at hk
    subst hk
    have hm : may = false := hm.resolve_left (by decide)
    subst hm
    refine ⟨by simp, fun _ => ⟨by simp, by simp, by simp, fun _ _ _ _ _ => ?_⟩⟩
    have h2 : t.n % 2 = 0 ∨ t.n % 2 = 1 := by omega
    show (if decide (t.n % 2 ≠ 0) = true then (1 : Int) else 0) = t.n % 2
    rcases h2 with h2 | h2 <;> simp [h2]
  | i8 =>
    simp only [kindOk, decide_eq_true_eq] at hk
    subst hk
    have hm : may = false := hm.resolve_left (by decide)
    subst hm
    exact ⟨by simp, fun _ => ⟨by simp, by simp, by simp, fun _ _ _ _ _ => by simp [valG, GV.told, TR.n, numberP, wrap64_i8]⟩⟩
  | i16 =>
    simp only [kindOk, decide_eq_true_eq] at hk
    subst hk
    have hm : may = false := hm.resolve_left (by decide)
    subst hm
    exact ⟨by simp, fun _ => ⟨by simp, by simp, by simp, fun _ _ _ _ _ => by simp [valG, GV.told, TR.n, numberP, wrap64_i16]⟩⟩
  | i32 =>
    simp only [kindOk, decide_eq_true_eq] at hk
    subst hk
    have hm : may = false := hm.resolve_left (by decide)
    subst hm
    exact ⟨by simp, fun _ => ⟨by simp, by simp, by simp, fun _ _ _ _ _ => by simp [valG, GV.told, TR.n, numberP, wrap64_i32]⟩⟩
  | i64 =>
    simp only [kindOk, decide_eq_true_eq] at hk
    subst hk
    have hm : may = false := hm.resolve_left (by decide)
    subst hm
    refine ⟨by simp, fun _ => ⟨by simp, by simp, by simp, fun _ _ _ _ _ => ?_⟩⟩
    show IntKind.i64.wrap (IntKind.i64.wrap t.n) = t.n
    rw [ht, ht]
  | u16 =>
    simp only [kindOk, decide_eq_true_eq] at hk
    subst hk
    have hm : may = false := hm.resolve_left (by decide)
    subst hm
    refine ⟨by simp, fun _ => ⟨by simp, by simp, by simp, fun _ _ _ _ _ => ?_⟩⟩
    show IntKind.i64.wrap (t.n % 65536) = t.n % 65536
    simp only [IntKind.wrap, IntKind.bits, IntKind.signed]; simp; omega
  | uuid =>
    simp only [kindOk, decide_eq_true_eq] at hk
    subst hk
    have hm : may = false := hm.resolve_left (by decide)
    subst hm
    exact ⟨by simp, fun _ => ⟨by simp, fun _ => rfl, by simp, by simp⟩⟩
  | str =>
    simp only [kindOk, Bool.and_eq_true, decide_eq_true_eq, Bool.not_eq_true'] at hk
    obtain ⟨rfl, hnul⟩ := hk
    have hnull : null = false := by cases null <;> simp_all
    subst hnull
    refine ⟨fun _ => rfl, fun _ => ⟨fun _ => ?_, by simp, by simp, by simp⟩⟩
    simp [valG, GV.told, Msk.str, TR.s]
  | nstr =>
    simp only [kindOk, decide_eq_true_eq] at hk
    subst hk
    cases null with
    | true => exact ⟨fun _ => rfl, fun h => by simp at h⟩
    | false => exact ⟨fun _ => rfl, fun _ => ⟨fun _ => rfl, by simp, by simp, by simp⟩⟩
  | byt =>
    simp only [kindOk, Bool.and_eq_true, decide_eq_true_eq, Bool.not_eq_true'] at hk
    obtain ⟨rfl, hnul⟩ := hk
    have hnull : null = false := by cases null <;> simp_all
    subst hnull
    exact ⟨fun _ => rfl, fun _ => ⟨fun _ => rfl, by simp, by simp, by simp⟩⟩
  | u32 => simp [kindOk] at hk
  | nbyt => simp [kindOk] at hk
theorem valG_nt (p : PK) (null : Bool) (t : TR) : ∀ m, valG p null t ≠ .tag m := by intro m; cases p <;> simp [valG]
theorem df_nt (d : Df) : ∀ m, d.gv ≠ .tag m := by intro m; cases d <;> simp [Df.gv]
theorem tagsF_cons {g : GV} {l : List GV} (h : ∀ m, g ≠ .tag m) : GV.tagsF (g :: l) = GV.tagsF l := by
  cases g with
  | tag m => exact absurd rfl (h m)
  | _ => rfl
theorem toldL_cons {ver : Int} {x : Bool} {f : FD} {fs : List FD} {i : Nat} {t : TR} {g : GV} {l : List GV} (hg : ∀ m, g ≠ .tag m) (h1 : f.hasV ver = true → f.toldT ver x (t.at i) g.told) (h2 : f.hasV ver = false → f.usualT g.told) (h3 : toldL ver x fs (i + 1) t (GV.toldF l)) :
    toldL ver x (f :: fs) i t (GV.toldF (g :: l)) := by
  rw [GV.toldF_cons hg]
  exact ⟨_, _, rfl, h1, h2, h3⟩
section
variable {ver : Int} {x : Bool}
theorem told_prm {f : FD} {p : PK} {t : TR} (hk : kindOk f.kind (f.nulB ver) p = true) (hb : (decide (f.kind = 8) || !f.nulB ver) = true) (ht : IntKind.i64.wrap t.n = t.n) : f.toldT ver x t (valG p (f.nullV ver t) t).told := by
  obtain ⟨kind, frm, to, null, tag, dfl, of, sub⟩ := f
  simp only [FD.toldT]
  refine ⟨valG_told hk (fun h => ?_) ?_ ht, fun h11 => ?_⟩
  · simp only [FD.nullV, Bool.and_eq_true] at h
    simp only [FD.nulB, Bool.and_eq_true]
    exact h.2
  · simp only [Bool.or_eq_true, decide_eq_true_eq, Bool.not_eq_true'] at hb
    rcases hb with hb | hb
    · exact .inl hb
    · exact .inr hb
  · simp only [FD.kind] at hk
    subst h11
    cases p <;> simp [kindOk] at hk
theorem told_lst {f : FD} {sz : Nat} {val : TR → GV} {t : TR} (h11 : f.kind = 11) (hn : f.nulB ver = false) (hof : f.of ≠ 11) (h : ∀ y ∈ t.l.take 32767, valT f.of (partT ver x f.sub) false false y (val y).told) : f.toldT ver x t (lstG sz val (t.l.take 32767)).told := by
  obtain ⟨kind, frm, to, null, tag, dfl, of, sub⟩ := f
  simp only [FD.kind, FD.of, FD.sub] at h11 hof h
  subst h11
  simp only [FD.toldT]
  have hnv : FD.nullV (.mk 11 frm to null tag dfl of sub) ver t = false := by
    simp only [FD.nulB, FD.null] at hn
    simp only [FD.nullV, FD.null, hn, Bool.and_false]
  have hm : mayV null ver = false := hn
  rw [hnv, hm]
  refine ⟨⟨by simp, fun _ => ⟨by simp, by simp, by simp, by simp⟩⟩, fun _ _ => ⟨hof, ?_, fun i y z hy hz => ?_⟩⟩
  · show (GV.toldL ((t.l.take 32767).map val)).length = _
    rw [GV.toldL_map]; simp
  · have hz : (GV.toldL ((t.l.take 32767).map val))[i]? = some z := hz
    rw [GV.toldL_map, List.map_map, List.getElem?_map, hy] at hz
    simp only [Option.map_some, Option.some.injEq, Function.comp] at hz
    subst hz
    exact h y (List.mem_of_getElem? hy)
theorem vals_told : ∀ (sc : Sc) (fds : List FD) (i : Nat) (t : TR), sc.rvB ver x fds = true → sc.toB ver fds = true → t.kok → t.nok → toldL ver x fds i t (GV.toldF (sc.vals ver x fds i t)) ∧ GV.tagsF (sc.vals ver x fds i t) = (if x then wholeU (unk t.u) else []) := by
  intro sc
  induction sc with
  | nil =>
    intro fds i t h hb hk hn
    cases fds <;> simp [Sc.rvB] at h
    subst h
    exact ⟨rfl, rfl⟩
  | tags f =>
    intro fds i t h hb hk hn
    cases fds <;> simp [Sc.rvB] at h
    refine ⟨rfl, ?_⟩
    have hku : ∀ p ∈ t.u, p.1 < 4294967296 := by cases t; exact hk.1
    obtain ⟨h1, -⟩ := unk_ok hku
    cases x with
    | false => rfl
    | true =>
      simp only [Sc.vals, if_true, GV.tagsF]
      refine sortT_ris ?_
      unfold wholeU; rw [List.pairwise_map]; exact h1.1
  | prm vc init rr p d rest ih =>
    intro fds i t h hb hk hn
    cases fds with
    | nil => simp [Sc.rvB] at h
    | cons f fs =>
      simp only [Sc.rvB, Bool.and_eq_true] at h
      simp only [Sc.toB, Bool.and_eq_true] at hb
      obtain ⟨k1, k2⟩ := ih fs (i + 1) t h.2 hb.2 hk hn
      have hnt : ∀ m, (if f.hasV ver = true then valG p (f.nullV ver (t.at i)) (t.at i) else d.gv) ≠ .tag m := fun m => by split <;> first | exact valG_nt _ _ _ m | exact df_nt d m
      refine ⟨toldL_cons hnt (fun hh => ?_) (fun hh => ?_) k1, by rw [Sc.vals, tagsF_cons hnt]; exact k2⟩
      · rw [if_pos hh]
        have q1 := h.1.2
        have q2 := hb.1
        rw [hh] at q1 q2
        exact told_prm (by simpa using q1) (by simpa using q2) (by have := hn.at i; cases hy : t.at i; rw [hy] at this; exact this.1)
      · have q2 := hb.1
        rw [hh] at q2
        rw [if_neg (by simp [hh])]
        exact FD.us_of f _ (by simpa using q2)
  | enm vc init rr p d rest ih =>
    intro fds i t h hb hk hn
    cases fds with
    | nil => simp [Sc.rvB] at h
    | cons f fs =>
      simp only [Sc.rvB, Bool.and_eq_true] at h
      simp only [Sc.toB, Bool.and_eq_true] at hb
      obtain ⟨k1, k2⟩ := ih fs (i + 1) t h.2 hb.2 hk hn
      have hnt : ∀ m, (if f.hasV ver = true then valG p (f.nullV ver (t.at i)) (t.at i) else d.gv) ≠ .tag m := fun m => by split <;> first | exact valG_nt _ _ _ m | exact df_nt d m
      refine ⟨toldL_cons hnt (fun hh => ?_) (fun hh => ?_) k1, by rw [Sc.vals, tagsF_cons hnt]; exact k2⟩
      · rw [if_pos hh]
        have q1 := h.1.2
        have q2 := hb.1
        rw [hh] at q1 q2
        exact told_prm (by simpa using q1) (by simpa using q2) (by have := hn.at i; cases hy : t.at i; rw [hy] at this; exact this.1)
      · have q2 := hb.1
        rw [hh] at q2
        rw [if_neg (by simp [hh])]
        exact FD.us_of f _ (by simpa using q2)
  | uid vc ff rest ih =>
    intro fds i t h hb hk hn
    cases fds with
    | nil => simp [Sc.rvB] at h
    | cons f fs =>
      simp only [Sc.rvB, Bool.and_eq_true] at h
      simp only [Sc.toB, Bool.and_eq_true] at hb
      obtain ⟨k1, k2⟩ := ih fs (i + 1) t h.2 hb.2 hk hn
      have hnt : ∀ m, (if f.hasV ver = true then GV.arr (uuidP (t.at i).s) else .arr (List.replicate 16 0)) ≠ .tag m := fun m => by split <;> simp
      refine ⟨toldL_cons hnt (fun hh => ?_) (fun hh => ?_) k1, by rw [Sc.vals, tagsF_cons hnt]; exact k2⟩
      · rw [if_pos hh]
        have q1 := h.1.2
        have q2 := hb.1
        rw [hh] at q1 q2
        have e7 : f.kind = 7 := by simpa using q1
        exact told_prm (p := .uuid) (by simp [kindOk, e7]) (by simp at q2; simp [q2]) (by have := hn.at i; cases hy : t.at i; rw [hy] at this; exact this.1)
      · have q2 := hb.1
        rw [hh] at q2
        rw [if_neg (by simp [hh])]
        exact FD.us_of f _ (by simpa using q2)
  | lsp vc ln bytes d init rr p rest ih =>
    intro fds i t h hb hk hn
    cases fds with
    | nil => simp [Sc.rvB] at h
    | cons f fs =>
      simp only [Sc.rvB, Bool.and_eq_true] at h
      simp only [Sc.toB, Bool.and_eq_true] at hb
      obtain ⟨k1, k2⟩ := ih fs (i + 1) t h.2 hb.2 hk hn
      have hnt : ∀ m, (if f.hasV ver = true then lstG d.size (valG p false) ((t.at i).l.take 32767) else .lst true 0 []) ≠ .tag m := fun m => by split <;> simp [lstG]
      refine ⟨toldL_cons hnt (fun hh => ?_) (fun hh => ?_) k1, by rw [Sc.vals, tagsF_cons hnt]; exact k2⟩
      · rw [if_pos hh]
        have q1 := h.1.2
        rw [hh] at q1
        simp only [Bool.not_true, Bool.false_or, Bool.and_eq_true, decide_eq_true_eq, Bool.not_eq_true'] at q1
        obtain ⟨⟨e1, e2⟩, e3⟩ := q1
        refine told_lst e1 e3 (fun e => ?_) fun y hy => valG_told e2 (by simp) (.inr rfl) ?_
        · rw [e] at e2; cases p <;> simp [kindOk] at e2
        · have hat := hn.at i
          have : y.nok := by
            cases ht : t.at i with
            | mk n s b l u => rw [ht] at hat hy; exact TR.nokL_mem hat.2 y (List.mem_of_mem_take hy)
          cases y; exact this.1
      · have q2 := hb.1
        rw [hh] at q2
        rw [if_neg (by simp [hh])]
        exact FD.us_of f _ (by simpa using q2)
  | lss vc ln bytes z dfl body rest ihb ih =>
    intro fds i t h hb hk hn
    cases fds with
    | nil => simp [Sc.rvB] at h
    | cons f fs =>
      simp only [Sc.rvB, Bool.and_eq_true] at h
      simp only [Sc.toB, Bool.and_eq_true] at hb
      obtain ⟨k1, k2⟩ := ih fs (i + 1) t h.2 hb.2 hk hn
      have hnt : ∀ m, (if f.hasV ver = true then lstG body.size (fun y => .rcd (body.vals ver x f.sub 0 y)) ((t.at i).l.take 32767) else .lst true 0 []) ≠ .tag m := fun m => by split <;> simp [lstG]
      refine ⟨toldL_cons hnt (fun hh => ?_) (fun hh => ?_) k1, by rw [Sc.vals, tagsF_cons hnt]; exact k2⟩
      · rw [if_pos hh]
        have q1 := h.1.2
        have q2 := hb.1
        rw [hh] at q1 q2
        simp only [Bool.not_true, Bool.false_or, Bool.and_eq_true, decide_eq_true_eq, Bool.not_eq_true'] at q1
        simp only [if_true] at q2
        obtain ⟨⟨⟨⟨⟨e1, e2⟩, e3⟩, e4⟩, e5⟩, e6⟩ := q1
        refine told_lst e1 e3 (by rw [e2]; decide) fun y hy => ?_
        have hat := hn.at i
        have hyn : y.nok := by
          cases ht : t.at i with
          | mk n s b l u => rw [ht] at hat hy; exact TR.nokL_mem hat.2 y (List.mem_of_mem_take hy)
        obtain ⟨r1, r2⟩ := ihb f.sub 0 y e6 q2 (TR.kok_mem (hk.at i) (List.mem_of_mem_take hy)) hyn
        rw [e2]
        refine ⟨fun _ => rfl, fun _ => ⟨by simp, by simp, fun _ => ⟨r1, ?_⟩, by simp⟩⟩
        show GV.tagsF _ = _
        rw [r2, unknownP_plain e5]
      · have q2 := hb.1
        rw [hh] at q2
        rw [if_neg (by simp [hh])]
        exact FD.us_of f _ (by simpa using q2)
  | sub vc dfl body rest ihb ih =>
    intro fds i t h hb hk hn
    cases fds with
    | nil => simp [Sc.rvB] at h
    | cons f fs =>
      simp only [Sc.rvB, Bool.and_eq_true] at h
      simp only [Sc.toB, Bool.and_eq_true] at hb
      obtain ⟨k1, k2⟩ := ih fs (i + 1) t h.2 hb.2 hk hn
      have hnt : ∀ m, (if f.hasV ver = true then GV.rcd (body.vals ver x f.sub 0 (t.at i)) else .rcd body.dgv) ≠ .tag m := fun m => by split <;> simp
      refine ⟨toldL_cons hnt (fun hh => ?_) (fun hh => ?_) k1, by rw [Sc.vals, tagsF_cons hnt]; exact k2⟩
      · rw [if_pos hh]
        have q1 := h.1.2
        have q2 := hb.1
        rw [hh] at q1 q2
        simp only [Bool.not_true, Bool.false_or, Bool.and_eq_true, decide_eq_true_eq] at q1
        simp only [if_true] at q2
        obtain ⟨⟨⟨e1, e2⟩, e3⟩, e4⟩ := q1
        obtain ⟨r1, r2⟩ := ihb f.sub 0 (t.at i) e4 q2 (hk.at i) (hn.at i)
        obtain ⟨kind, frm, to, null, tag, dfl', of, sub⟩ := f
        simp only [FD.kind, FD.null, FD.sub] at e1 e2 e3 r1 r2
        subst e1
        simp only [FD.toldT]
        have hnv : FD.nullV (.mk 10 frm to null tag dfl' of sub) ver (t.at i) = false := by
          simp only [FD.nullV, FD.null]
          simp; omega
        have hmv : mayV null ver = false := by simp only [mayV]; simp; omega
        rw [hnv, hmv]
        refine ⟨⟨fun _ => rfl, fun _ => ⟨by simp, by simp, fun _ => ⟨r1, ?_⟩, by simp⟩⟩, by simp⟩
        show GV.tagsF (body.vals ver x sub 0 (t.at i)) = _
        rw [r2, unknownP_plain e3]
      · have q2 := hb.1
        rw [hh] at q2
        rw [if_neg (by simp [hh])]
        exact FD.us_of f _ (by simpa using q2)
end
end Go.Msk

namespace Go.Msk
open Go.RowKit
set_option maxRecDepth 100000
structure TellFs where
  mx : FuncId
  newp : FuncId
  maxv : FuncId
  setv : FuncId
  rf : FuncId
  rd : FuncId
  tell : FuncId
  door : FuncId
  sm : FuncId
structure TellOk (P : Program) (F : Nat → Nat) (has : Nat → Bool) (M : TellFs) (T : Top) (tl : Tl) (fx : List FX) (flex : Int) (z : List Value) (most : Nat) : Prop where
  mx : liftF P M.mx = some (impMaxCode M.newp M.maxv)
  maxv : liftF P M.maxv = some (maxCode most)
  newp : liftF P M.newp = some (newCode z T.dfl)
  setv : liftF P M.setv = some setCode
  rf : liftF P M.rf = some (rfCode M.rd false)
  rd : liftF P M.rd = some T.gen
  tell : liftF P M.tell = some (tl.code 1)
  door : liftF P M.door = some (tellCode M.newp M.setv M.rf M.tell)
  sm : liftF P M.sm = some (FX.genMsg fx flex)
  fxs : FX.OkL P fx
  cnt : Nat.blt fx.length 1000 = true
  dfl : ∃ l, liftF P T.dfl = some (dfGen l) ∧ dfOk l (T.sc.dcs.flatten.length + 1) ∧ z.length = T.sc.dcs.flatten.length + 1 ∧ dfRes l z = .int .i16 0 :: T.sc.dcs.flatten ∧ ∀ ver, dfRes l (.int .i16 ver :: T.sc.dcs.flatten) = .int .i16 ver :: T.sc.dcs.flatten
  dfs : DfsOk P T.sc.dfs
  okT : T.okB F has = true
  okL : tl.okB F has = true
  subs : SubsOk P tl.subs
  cbs : CbsOk P tl.cbs
  fits : fit T.sc tl = true
  small : T.sc.smallB = true
  len : T.sc.len ≤ 1000
  tlen : tl.len ≤ 1000
  rv : rvOk T ⟨FX.fds fx, flex⟩ most = true
  told : ((List.range (most + 1)).all fun v => T.sc.toB (v : Nat) (FX.fds fx)) = true
  most : most < 32768
section
variable {P : Program} {F : Nat → Nat} {has : Nat → Bool} {M : TellFs} {T : Top} {tl : Tl} {fx : List FX} {flex : Int} {z : List Value} {most : Nat}
theorem TellOk.plain (h : TellOk P F has M T tl fx flex z most) : FD.plainL (FX.fds fx) = true := by
  have := h.rv; simp only [rvOk, Bool.and_eq_true] at this; exact this.1
def tellR (T : Top) (fx : List FX) (flex : Int) (ver : Int) (t : TR) : TR := (GV.rcd (T.sc.vals ver (MD.isFlex ⟨FX.fds fx, flex⟩ ver) (FX.fds fx) 0 t)).told
theorem TellOk.doorOf (L : Lib P F has) (LI : LibI P F has) (h : TellOk P F has M T tl fx flex z most) {Te : TypeId} {ve : Value} : DoorOf P M.door ⟨FX.fds fx, flex⟩ most (F gErr) Te ve (tellR T fx flex) := by
  intro w ver t sv hk hlen h0 h1 hs hg
  unfold lim at hlen
  obtain ⟨l, e1, e2, e3, e4, e5⟩ := h.dfl
  have hz : DfC P T.dfl z (.int .i16 0 :: T.sc.dcs.flatten) := df_call L.mixed e1 (by rw [e3]; exact e2) e4
  have htl : TellAt P M.tell 1 tl.ty := Tl.call L.mixed h.tell (Tl.ok_of L.mixed LI tl h.okL h.subs h.cbs) h.tlen
  obtain ⟨hpos, hrv, hdec⟩ := top_rv h.rv h0 h1 hk
  exact tellW_call L.mixed h.door h.newp hz h.setv h.rf h.rd (Top.ok_of L h.okT h.dfs e1 e2 e5 false) htl hdec rfl (vals_ty _ _ _ _ _ hrv h.fits hk) hs hpos (by unfold lim; omega) (i16_of h0 h1 h.most) hg
theorem tell_msg (L : Lib P F has) (LI : LibI P F has) (TL : TLib P F) (h : TellOk P F has M T tl fx flex z most) {f zz z2 z3 : FuncId} (hf : liftF P f = some (tellLaw zz M.mx M.sm (F lVersion) (F sWrite) M.door (F sFlexible) (F lGot) (F sTold))) (hz1 : liftF P zz = some (zz1Code z2)) (hz2 : liftF P z2 = some (zz2Code z3)) (hz3 : liftF P z3 = some zz3Code)
    (hv : liftF P (F lVersion) = some (ir_lVersion F)) (hg : liftF P (F lGot) = some (ir_lGot F)) {Te : TypeId} {ve : Value} {w : World} {b : Int} (hb : 0 ≤ b ∧ b < 256) {t : TR} {ts : List Value}
    (ht : RepT anyB w t ts) (hk : t.kok) (hn : t.nok) (hlen : ∀ v, (writeP ⟨FX.fds fx, flex⟩ v t).length + 1000 ≤ lim) (hge : GErr (F gErr) w Te ve) : Calls P f [.int .u8 b, .agg ts.toArray].toArray w fun e w' => e = .returned (.bool true) ∧ Mod [] w w' := by
  obtain ⟨l, e1, e2, e3, e4, e5⟩ := h.dfl
  have hz : DfC P T.dfl z (.int .i16 0 :: T.sc.dcs.flatten) := df_call L.mixed e1 (by rw [e3]; exact e2) e4
  have hmost : (0 : Int) ≤ most ∧ (most : Int) < 32768 := ⟨by omega, by have := h.most; omega⟩
  have hcnt : (FX.fds fx).length < 1000 := by
    rw [FX.fds_length]
    have := h.cnt
    exact Nat.lt_of_succ_le (Nat.le_of_ble_eq_true this)
  refine tell_law L.mixed hf hmost (fun w t ts ht => zz1_call L.mixed hz1 hz2 hz3 ht) (fun w => impMax_call L.mixed h.mx h.newp hz h.maxv hmost) (fun w => msg_call L.mixed h.sm h.fxs) (fun w n hn => version_call L.mixed hv hn hmost)
    (fun v w ms t ts a b c d => writeC_plain TL.sl (m := ⟨FX.fds fx, flex⟩) (ver := v) h.plain hcnt w ms t ts a b c d) (h.doorOf L LI) hb (fun v h0 h1 => ?_) (fun v w ms hms => flexible_call TL hms) (fun v w sv css xs us h0 h1 a b c d => ?_) ht hk hlen hge
  · obtain ⟨-, hrv, -⟩ := top_rv (t := t) h.rv h0 h1 hk
    exact got_call L.mixed hg _ (rcd_small (by rw [vals_len _ _ _ _ hrv]; exact h.len) (vals_sm _ _ _ _ hrv h.small hk)).1
  · obtain ⟨-, hrv, -⟩ := top_rv (t := t) h.rv h0 h1 hk
    have ht2 := h.told
    rw [List.all_eq_true] at ht2
    have hto := ht2 v.toNat (by rw [List.mem_range]; omega)
    rw [Int.toNat_of_nonneg h0] at hto
    obtain ⟨q1, q2⟩ := vals_told _ _ 0 t hrv hto hk hn
    refine partT_plain TL v _ h.plain hcnt w sv css t xs _ us a b c d ⟨q1, ?_⟩
    show GV.tagsF _ = _
    rw [q2, unknownP_plain h.plain]
end
end Go.Msk

namespace Go.Msk
open Go.RowKit Go.Shelf Go.Proofs
set_option maxRecDepth 100000
def ltN (x y : Nat) : Bool := decide (x < y)
theorem swo_ltN : Go.Sort.SWO ltN where
  irrefl := fun x => by simp [ltN]
  trans := fun x y z => by simp only [ltN, decide_eq_true_eq]; omega
  ntrans := fun x y z => by simp only [ltN, decide_eq_false_iff_not]; omega
theorem sortWorld_ok {w : World} {B m : Nat} {cs : List Value} {dk : Array Nat} {os : Array Obj} (h : Blk w B cs) (hl : cs.length = dk.size) :
    Mod [B] w (Go.Sort.grow (Go.Sort.putRow u32v (Go.Sort.ahead w m) B 0 dk) os) ∧ Blk (Go.Sort.grow (Go.Sort.putRow u32v (Go.Sort.ahead w m) B 0 dk) os) B (dk.toList.map u32v) := by
  obtain ⟨T, fr, hb, hfr⟩ := h
  have hlt : B < w.heap.size := (Array.getElem?_eq_some_iff.1 hb).1
  have hsz : (w.heap.modify B (Go.Sort.onCells (Go.Sort.putCells u32v 0 dk))).size = w.heap.size := by simp
  have hget : ∀ k, k < w.heap.size → (Go.Sort.grow (Go.Sort.putRow u32v (Go.Sort.ahead w m) B 0 dk) os).heap[k]? = (w.heap.modify B (Go.Sort.onCells (Go.Sort.putCells u32v 0 dk)))[k]? := fun k hk => by
    show ((w.heap.modify B (Go.Sort.onCells (Go.Sort.putCells u32v 0 dk))) ++ os)[k]? = _
    rw [Array.getElem?_append_left (by omega)]
  refine ⟨⟨rfl, rfl, rfl, ?_, fun k hk hn => ?_⟩, T, fr, ?_, ?_⟩
  · show w.heap.size ≤ ((w.heap.modify B (Go.Sort.onCells (Go.Sort.putCells u32v 0 dk))) ++ os).size
    simp
  · rw [hget k hk, Array.getElem?_modify, if_neg (by simp only [List.mem_singleton] at hn; omega)]
  · rw [hget B hlt, Array.getElem?_modify, if_pos rfl, hb]
    simp only [Option.map_some, Go.Sort.onCells, Option.some.injEq, Obj.cells.injEq, and_true]
    apply Array.ext_getElem?
    intro k
    simp only [Go.Sort.putCells, Array.getElem?_mapIdx, List.getElem?_toArray, List.getElem?_map, Array.getElem?_toList, Nat.zero_add, Nat.zero_le, true_and, Nat.sub_zero]
    by_cases hk : k < dk.size
    · have e1 : cs[k]? = some cs[k] := List.getElem?_eq_getElem (by omega)
      have e2 : dk[k]? = some dk[k] := Array.getElem?_eq_getElem hk
      rw [e1, e2]
      simp only [Option.map_some, if_pos hk]
      rw [getElem!_pos dk k hk]
    · rw [List.getElem?_eq_none (by omega), Array.getElem?_eq_none (by omega)]
      rfl
  · simp only [List.length_map, Array.length_toList]
    rw [← hl]; exact hfr
section
variable {P : Program} {F : Nat → Nat}
theorem each1_call (hm : P.follows .mixedOrders = true) (h : liftF P (F tEach1) = some (ir_tEach1 F)) {w : World} {B Bs n : Nat} {G : Nat → Nat} (hs : w.cell? ⟨Bs, 0, none⟩ = some (.slice (some ⟨B, 0, none⟩) n n))
    (hc : ∀ t, t < n → w.cell? ⟨B, t, none⟩ = some (u32v (G t))) {i j : Nat} (hi : i < n) (hj : j < n) :
    Calls P (F tEach1) [.int .i64 i, .int .i64 j, .pointer (some ⟨Bs, 0, none⟩)].toArray w fun e w' => e = .returned (.bool (ltN (G i) (G j))) ∧ w' = w.drew := by
  unfold ir_tEach1 at h
  refine call_of h hm (by simp) ?_
  have a0 : args0 [.int .i64 i, .int .i64 j, .pointer (some ⟨Bs, 0, none⟩)] 0 = .int .i64 i := rfl
  have a1 : args0 [.int .i64 i, .int .i64 j, .pointer (some ⟨Bs, 0, none⟩)] 1 = .int .i64 j := rfl
  have a2 : args0 [.int .i64 i, .int .i64 j, .pointer (some ⟨Bs, 0, none⟩)] 2 = .pointer (some ⟨Bs, 0, none⟩) := rfl
  generalize args0 [.int .i64 i, .int .i64 j, .pointer (some ⟨Bs, 0, none⟩)] = σ at a0 a1 a2 ⊢
  rw [wpC_seq, wpC_blk]
  refine wpR_step (v := .bool false) rfl ?_
  refine wpR_done ?_
  rw [wpC_seq]
  show wpD P _ [] _ w.drew _
  have hs' : w.drew.cell? ⟨Bs, 0, none⟩ = some (.slice (some ⟨B, 0, none⟩) n n) := hs
  have hi' : w.drew.cell? ⟨B, i, none⟩ = some (u32v (G i)) := hc i hi
  have hj' : w.drew.cell? ⟨B, j, none⟩ = some (u32v (G j)) := hc j hj
  refine wpD_pure rfl ?_
  simp only [List.map_cons, List.map_nil, List.cons_append, List.nil_append]
  refine wpR_step (v := .slice (some ⟨B, 0, none⟩) n n) (by simp only [RK.val?, ev, updo, upd]; simp [a2, hs']) ?_
  refine wpR_step (v := .int .i64 i) (by simp only [RK.val?, ev, updo, upd]; simp [a0]) ?_
  refine wpR_step (v := .pointer (some ⟨B, i, none⟩)) (by
    simp only [RK.val?, ev, updo, upd, show (6 : Nat) ≠ 7 by decide, if_false, if_true]
    rw [if_pos (by omega)]; simp [Addr.add_mk]) ?_
  refine wpR_step (v := u32v (G i)) (by simp only [RK.val?, ev, updo, upd, if_true, hi']) ?_
  refine wpR_step (v := .slice (some ⟨B, 0, none⟩) n n) (by simp only [RK.val?, ev, updo, upd]; simp [a2, hs']) ?_
  refine wpR_step (v := .int .i64 j) (by simp only [RK.val?, ev, updo, upd]; simp [a1]) ?_
  refine wpR_step (v := .pointer (some ⟨B, j, none⟩)) (by
    simp only [RK.val?, ev, updo, upd, show (10 : Nat) ≠ 11 by decide, if_false, if_true]
    rw [if_pos (by omega)]; simp [Addr.add_mk]) ?_
  refine wpR_step (v := u32v (G j)) (by simp only [RK.val?, ev, updo, upd, if_true, hj']) ?_
  refine wpR_step (v := .bool (ltN (G i) (G j))) (by
    simp only [RK.val?, ev, updo, upd, show (9 : Nat) ≠ 13 by decide, show (9 : Nat) ≠ 12 by decide, show (9 : Nat) ≠ 11 by decide, show (9 : Nat) ≠ 10 by decide, if_false, if_true, u32v, isShift, decide_true, Bool.or_true, intBin, ltN]
    congr 2; exact decide_eq_decide.2 (by omega)) ?_
  refine wpR_step (v := .bool (ltN (G i) (G j))) (by simp only [RK.val?, ev, updo, upd, if_true]) ?_
  refine wpR_done ?_
  simp only [wpC, postC, rvals, List.mapM_cons, List.mapM_nil, RV.val, updo, upd, if_true, Option.bind_eq_bind, Option.bind_some, Option.pure_def, tup_one]
  exact ⟨trivial, trivial⟩
theorem sortC_of {ρ : Ren} (L : LaysGg.n6 P ρ) (hm : P.follows .mixedOrders = true) (hl : liftF P (F tEach1) = some (ir_tEach1 F)) (hf : ρ.f 6 = F sortSlice) {e : TypeId} {i ie : TypeInfo} (hi : P.info? (F tyU32s) = some i) (hd : i.desc = .slice e)
    (hpk : P.packed (F tyU32s) = false) (hie : P.info? e = some ie) (ke : Nat) (hke : ∀ w, (Extern.Rtype.kind e).run P w = .ok ke w) (hs1 : ie.size = 1) (hagg : ∀ w, (isAgg e).run P w = .ok false w) (hp : ie.hasPointers = false) (hb : ie.bytes = 4)
    (eg : ∀ args w, (callFunc (F tEach1) args).run P w = .ok (.enter (F tEach1) args) w) (f1 f2 f6 : Nat) (h1 : P.funcs.findIdx? (·.name == "internal/reflectlite" ++ ".Swapper$" ++ toString 1) = some f1) (h2 : P.funcs.findIdx? (·.name == "internal/reflectlite" ++ ".Swapper$" ++ toString 2) = some f2)
    (h6 : P.funcs.findIdx? (·.name == "internal/reflectlite" ++ ".Swapper$" ++ toString 6) = some f6) (gS : Bool) (hx : ∀ args W, (callFunc f6 args).run P W = ((Extern.ReflectliteSwapper.swap gS args).run P W).andThen fun v w' => .ok (.value v) w') :
    SortC P (F sortSlice) (F tEach1) (F tyU32s) := by
  intro w B Bs ks hB hBs hne hlen hk32
  rw [← hf]
  by_cases hn : 2 ≤ ks.length
  · have hK : Go.Lib.swapperK ks.toArray.size ie ke = 6 := by
      have c : (ks.toArray.size == 0) = false := by simp; intro h; rw [h] at hn; simp at hn
      have d : (ks.toArray.size == 1) = false := by simp; omega
      simp only [Go.Lib.swapperK, hp, hb, c, d, Bool.false_and, Bool.false_eq_true, if_false]
    have hH : Go.Sort.Holds u32v w B 0 ks.toArray := by
      intro j hj
      have hj' : j < ks.length := by simpa using hj
      refine ⟨?_, ?_⟩
      · rw [Nat.zero_add, hB.cell j, List.getElem?_map, List.getElem?_eq_getElem hj', getElem!_pos ks.toArray j hj]
        simp
      · obtain ⟨T, fr, hb, hfr⟩ := hB
        obtain ⟨lo, hi⟩ := fr
        simp only [World.frozen?, hb, Nat.zero_add]
        simp only [List.length_map] at hfr
        simp only [Bool.and_eq_false_iff, decide_eq_false_iff_not]
        omega
    have hless : LessReads P (F tEach1) #[.pointer (some ⟨Bs, 0, none⟩)] u32v ltN B 0 ks.toArray.size w := by
      intro m os dk hs a b ha hb
      have hs' : dk.size = ks.length := by simpa using hs
      obtain ⟨q1, q2⟩ := sortWorld_ok (w := w) (B := B) (m := m) (dk := dk) (os := os) hB (by simpa using hs'.symm)
      have q3 := hBs.mod q1 (by simpa using hne)
      refine (each1_call hm hl (w := sortWorld u32v w B 0 m dk os) (B := B) (Bs := Bs) (n := ks.length) (G := fun t => dk[t]!) (q3.cell 0) (fun t ht => ?_) (i := a) (j := b) (by simpa using ha) (by simpa using hb)).mono fun en w' hh => ⟨hh.1, 1, hh.2⟩
      have := q2.cell t
      rw [List.getElem?_map] at this
      have ht' : t < dk.size := by omega
      rw [show (sortWorld u32v w B 0 m dk os).cell? ⟨B, t, none⟩ = _ from this, getElem!_pos dk t ht']
      simp [Array.getElem?_eq_getElem ht']
    have hS := Any.sort_Slice_sorted L (F tyU32s) e i ie hi hd hpk hie ke hke hs1 hagg u32v (fun _ => rfl) ltN swo_ltN (F tEach1) #[.pointer (some ⟨Bs, 0, none⟩)] eg B 0 ks.length ks.toArray (by simpa using hn) (by simp; omega) f6 (by rw [hK]; exact h6) gS hx w hless hH hB.lt
    have hsz : ks.toArray.size = ks.length := by simp
    rw [hsz] at hS
    refine hS.mono ?_
    rintro en w' ⟨rfl, d', n, os, ⟨p1, -, p3⟩, hso, rfl⟩
    have hd' : d'.size = ks.length := by simpa using p1
    obtain ⟨q1, q2⟩ := sortWorld_ok (w := w) (B := B) (m := n) (dk := d') (os := os) hB (by simpa using hd'.symm)
    refine ⟨rfl, d'.toList, ?_, ?_, q2, q1⟩
    · have x1 : d'.extract 0 ks.length = d' := by rw [← hd']; exact Array.extract_size
      have x2 : ks.toArray.extract 0 ks.length = ks.toArray := by rw [← hsz]; exact Array.extract_size
      rw [x1, x2] at p3
      exact p3
    · rw [List.pairwise_iff_getElem]
      intro a b ha hb hab
      have ha' : a < d'.size := by simpa using ha
      have hb' : b < d'.size := by simpa using hb
      have := hso a b (Nat.zero_le _) hab (by omega)
      rw [getElem!_pos d' a ha', getElem!_pos d' b hb'] at this
      simp only [ltN, decide_eq_false_iff_not] at this
      simp only [Array.getElem_toList]
      omega
  · have hks : ks.length = 0 ∨ ks.length = 1 := by omega
    have hfn : ∃ f, P.funcs.findIdx? (·.name == "internal/reflectlite" ++ ".Swapper$" ++ toString (Go.Lib.swapperK ks.length ie ke)) = some f := by
      rcases hks with h | h
      · rw [h]; exact ⟨f1, h1⟩
      · rw [h]; exact ⟨f2, h2⟩
    obtain ⟨f0, hf0⟩ := hfn
    refine (Any.sort_Slice_tiny L (F tyU32s) e i ie hi hd hpk hie ke hke (some ⟨B, 0, none⟩) ks.length ks.length (by omega) f0 hf0 (.func (F tEach1)) #[] #[.pointer (some ⟨Bs, 0, none⟩)] w).mono ?_
    rintro en w' ⟨rfl, os, rfl⟩
    have hm' : Mod [] w (Go.Sort.grow w os) := ⟨rfl, rfl, rfl, by show w.heap.size ≤ (w.heap ++ os).size; simp, fun k hk _ => by show (w.heap ++ os)[k]? = _; rw [Array.getElem?_append_left hk]⟩
    refine ⟨rfl, ks, .refl _, ?_, hB.mod hm' (by simp), hm'.nil⟩
    match ks, hks with
    | [], _ => exact .nil
    | [x], _ => simp
end
end Go.Msk
