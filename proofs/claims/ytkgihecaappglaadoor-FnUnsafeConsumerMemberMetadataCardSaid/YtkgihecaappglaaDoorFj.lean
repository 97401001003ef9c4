/- A small language of resolved operations, and what the generic and the generated functions do in it (part 10). -/
import Derived.Test.YtkgihecaappglaaDoorFi

namespace Go.Msk
open Go.RowKit
set_option maxRecDepth 100000
def nullF (i t off : Nat) : IC :=
  .drw (headD t off ++ [nd ⟨some (t + 6), .isnil .sl false (.tmp (t + 5)), none⟩, nd ⟨some (t + 7), .iad (.tmp (t + 1)) (.const (.int .i64 i)) 5, none⟩, nd ⟨some (t + 8), .fad (.tmp (t + 7)) 2, none⟩])
    [⟨none, .st (.tmp (t + 8)) 1 (.tmp (t + 6)), none⟩]
def loopT (k : EK) (i s off iv nb esz : Nat) : IC :=
  .seq (.blk [⟨some s, .mv (.tmp 0), none⟩, ⟨some (s + 1), .nilc (.tmp s), none⟩, ⟨some (s + 2), .fad (.tmp (s + 1)) off, none⟩, ⟨some (s + 3), .ld (.tmp (s + 2)), none⟩, ⟨some (s + 4), .len (.tmp (s + 3)), none⟩, ⟨some (s + 5), .mv (.const (.int .i64 0)), none⟩])
    (.block nb (.loop (.seq (.blk [⟨some (s + 6), .bin .lss (.tmp (s + 5)) (.tmp (s + 4)), none⟩]) (.seq (.cond (.tmp (s + 6)) .skip (.exit nb))
      (.seq (.block (nb + 1) (.seq (.blk [⟨some (s + 7), .mv (.tmp (s + 5)), none⟩, ⟨some iv, .mv (.tmp (s + 7)), none⟩]) (.seq (.rnd (s + 8) (s + 9)) (.cond (.tmp (s + 9)) (appA k (s + 10) i off iv esz) (appB k (s + 27 + k.n) i off iv esz)))))
        (.blk [⟨some (s + 44 + 2 * k.n), .bin .add (.tmp (s + 5)) (.const (.int .i64 1)), none⟩, ⟨some (s + 5), .mv (.tmp (s + 44 + 2 * k.n)), none⟩]))))))
section
variable {P : Program}
theorem nullF_wp {i t off Tb Lb n B base : Nat} {pre post : List Value} {sb : Option Addr} {len cap : Nat} {σ : Sl} {w : World} {Q : Exit → Sl → World → Prop} (ht : 4 ≤ t)
    (h0 : σ 0 = .pointer (some ⟨B, base, none⟩)) (h3 : σ 3 = .pointer (some ⟨Tb, 0, none⟩)) (hw : TW w Tb Lb n (pre ++ (tzero ++ post))) (hpre : pre.length = i * 5) (hi : i < n)
    (hc : w.cell? ⟨B, base + off, none⟩ = some (.slice sb len cap))
    (hQ : ∀ σ' w', Ag t σ σ' → Mod [Lb] w w' → w'.heap.size = w.heap.size → TW w' Tb Lb n (pre ++ ([.int .i64 0, .slice none 0 0, .bool sb.isNone, .slice none 0 0, .slice none 0 0] ++ post)) → Q .normal σ' w') : wpC P (nullF i t off) Q σ w := by
  have c3 : w.drew.cell? ⟨Tb, 3, none⟩ = some (.slice (some ⟨Lb, 0, none⟩) n n) := hw.tb.cell 3
  simp only [nullF, wpC]
  refine wpD_pure rfl (head_wpR ht h0 h3 c3 (show w.drew.cell? _ = _ from hc) fun σ1 a1 s1 s5 => ?_)
  simp only [nd, List.map_cons, List.map_nil, List.cons_append, List.nil_append]
  refine wpR_step (v := .bool sb.isNone) (by simp only [RK.val?, ev, s5, Bool.false_eq_true, if_false]) ?_
  refine wpR_step (v := .pointer (some ⟨Lb, i * 5, none⟩)) (by
    simp only [RK.val?, ev, updo, upd, show t + 1 ≠ t + 6 by omega, if_false, s1]; rw [if_pos (by omega)]; simp [Addr.add_mk]) ?_
  refine wpR_step (v := .pointer (some ⟨Lb, i * 5 + 2, none⟩)) (by simp only [RK.val?, ev, updo, upd_same, Addr.add_mk]) ?_
  simp only [wpR, RI.wp, gOk, if_true, RK.run, ev, updo, upd_same]
  have e6 : ∀ x y z, upd (upd (upd σ1 (t + 6) x) (t + 7) y) (t + 8) z (t + 6) = x := fun x y z => by
    simp only [upd, show t + 6 ≠ t + 7 by omega, show t + 6 ≠ t + 8 by omega, if_false, if_true]
  rw [e6]
  have hlb : Blk w.drew Lb (pre ++ (tzero ++ post)) := hw.lb
  have hput : Mod [Lb] w.drew (putCells w.drew ⟨Lb, i * 5 + 2, none⟩ 0 [.bool sb.isNone]) := Mod.put (by simp)
  refine ⟨rfl, stOk_many hlb (by simp [tzero, Value.cells]; omega) (by simp [Value.cells, Value.oneCell']), hQ _ _ (fun j hj => ?_) ((Mod.drew _ _).trans hput) (by rw [size_putCells]; rfl) ⟨?_, ?_, hw.ne⟩⟩
  · simp only [upd, show j ≠ t + 6 by omega, show j ≠ t + 7 by omega, show j ≠ t + 8 by omega, if_false]
    exact a1 j hj
  · exact (show Blk w.drew Tb _ from hw.tb).mod hput (by simpa using hw.ne)
  · have hp := hlb.put (o := i * 5 + 2) (vs := [.bool sb.isNone]) (by simp [tzero]; omega)
    have e1 : ∀ x, pre ++ ([.int .i64 0, .slice none 0 0, x, .slice none 0 0, .slice none 0 0] ++ post) = (pre ++ [.int .i64 0, .slice none 0 0]) ++ ([x] ++ ([.slice none 0 0, .slice none 0 0] ++ post)) := fun x => by simp
    rw [show tzero = [.int .i64 0, .slice none 0 0, .bool false, .slice none 0 0, .slice none 0 0] from rfl, e1, splice_mid (old := [.bool false]) (vs := [.bool sb.isNone]) (by simp only [List.length_append, List.length_cons, List.length_nil]; omega) rfl] at hp
    rw [e1]; exact hp
theorem _root_.Go.Msk.RepL.nth {O : List Nat} {w : World} {gs : List GV} {css : List (List Value)} (h : RepL O w gs css) {j : Nat} {g : GV} (hg : gs[j]? = some g) : ∃ cs, css[j]? = some cs ∧ Rep O w g cs := by
  induction gs generalizing css j with
  | nil => simp at hg
  | cons a l ih =>
    cases h with
    | cons h1 h2 =>
      cases j with
      | zero => simp only [List.getElem?_cons_zero, Option.some.injEq] at hg; subst hg; exact ⟨_, rfl, h1⟩
      | succ j => simp only [List.getElem?_cons_succ] at hg ⊢; exact ih h2 hg
theorem flat_cells {w : World} {a : Addr} {css : List (List Value)} {sz j : Nat} {cs : List Value} (h : Cells w a css.flatten) (hsz : ∀ c ∈ css, c.length = sz) (hj : css[j]? = some cs) : Cells w ⟨a.block, a.off + j * sz, none⟩ cs := by
  induction css generalizing a j with
  | nil => simp at hj
  | cons c css ih =>
    cases j with
    | zero =>
      simp only [List.getElem?_cons_zero, Option.some.injEq] at hj; subst hj
      have := h.take c.length
      simp only [List.flatten_cons, List.take_left] at this
      have hs := h.1
      cases a; simp only at hs; subst hs
      simpa using this
    | succ j =>
      simp only [List.getElem?_cons_succ] at hj
      have h1 := h.sub c.length
      simp only [List.flatten_cons, List.drop_left] at h1
      have h2 := ih h1 (fun d hd => hsz d (List.mem_cons_of_mem _ hd)) hj
      rw [hsz c List.mem_cons_self] at h2
      simp only at h2
      rw [show a.off + (j + 1) * sz = a.off + sz + j * sz by rw [Nat.succ_mul]; omega]
      exact h2
theorem lpHead_wp {s off B base : Nat} {len cap : Nat} {sb : Option Addr} {σ : Sl} {w : World} {Q : Exit → Sl → World → Prop} (h0 : σ 0 = .pointer (some ⟨B, base, none⟩)) (hc : w.cell? ⟨B, base + off, none⟩ = some (.slice sb len cap))
    (hQ : ∀ σ', Ag s σ σ' → σ' (s + 4) = .int .i64 len → σ' (s + 5) = .int .i64 0 → Q .normal σ' w) :
    wpC P (.blk [⟨some s, .mv (.tmp 0), none⟩, ⟨some (s + 1), .nilc (.tmp s), none⟩, ⟨some (s + 2), .fad (.tmp (s + 1)) off, none⟩, ⟨some (s + 3), .ld (.tmp (s + 2)), none⟩, ⟨some (s + 4), .len (.tmp (s + 3)), none⟩, ⟨some (s + 5), .mv (.const (.int .i64 0)), none⟩]) Q σ w := by
  simp only [wpC]
  refine wpR_step (v := .pointer (some ⟨B, base, none⟩)) (by simp only [RK.val?, ev, h0]) ?_
  refine wpR_step (v := .pointer (some ⟨B, base, none⟩)) (by simp only [RK.val?, ev, updo, upd_same]) ?_
  refine wpR_step (v := .pointer (some ⟨B, base + off, none⟩)) (by simp only [RK.val?, ev, updo, upd_same, Addr.add_mk]) ?_
  refine wpR_step (v := .slice sb len cap) (by simp only [RK.val?, ev, updo, upd_same, hc]) ?_
  refine wpR_step (v := .int .i64 len) (by simp only [RK.val?, ev, updo, upd_same]) ?_
  refine wpR_step (v := .int .i64 0) (by simp only [RK.val?, ev]) ?_
  simp only [wpR]
  refine hQ _ (fun q hq => ?_) ?_ ?_
  · simp only [updo, upd, show q ≠ s by omega, show q ≠ s + 1 by omega, show q ≠ s + 2 by omega, show q ≠ s + 3 by omega, show q ≠ s + 4 by omega, show q ≠ s + 5 by omega, if_false]
  · simp only [updo, upd, show s + 4 ≠ s + 5 by omega, if_false, if_true]
  · simp only [updo, upd_same]
theorem loopT_wp {k : EK} {T : List GV → Prop} (hk : k.Ok P T) {i s off iv nb esz Tb Lb n B base : Nat} {O : List Nat} {pre post : List Value} {gs : List GV} {gcs : List (List Value)} {sb : Option Addr} {cap : Nat} {nl : Bool}
    {σ : Sl} {w : World} {Q : Exit → Sl → World → Prop} (hs : 4 ≤ s) (hiv : iv < s) (hiv4 : 4 ≤ iv) (h0 : σ 0 = .pointer (some ⟨B, base, none⟩)) (h3 : σ 3 = .pointer (some ⟨Tb, 0, none⟩)) (hi : i < n)
    (hw : TW w Tb Lb n (pre ++ ([.int .i64 0, .slice none 0 0, .bool nl, .slice none 0 0, .slice none 0 0] ++ post))) (hpre : pre.length = i * 5)
    (hc : w.cell? ⟨B, base + off, none⟩ = some (.slice sb gs.length cap)) (hB : B ≠ Lb) (hLO : Lb ∈ O) (hr : RepL O w gs gcs) (hsb : ∀ a, sb = some a → a.block ∉ O ∧ a.block < w.heap.size ∧ Cells w a gcs.flatten) (hsn : sb = none → gs = [])
    (hsz : ∀ cs ∈ gcs, cs.length = esz) (hg : ∀ g ∈ gs, k.ty T g) (hlen : gs.length ≤ 2147483647)
    (hQ : ∀ σ' w' cs, (∀ q, q < s → q ≠ iv → σ' q = σ q) → Mod [Lb] w w' → RepT (fun b => w.heap.size ≤ b) w' (.mk 0 [] nl (GV.toldL gs) []) cs → TW w' Tb Lb n (pre ++ (cs ++ post)) → Q .normal σ' w') : wpC P (loopT k i s off iv nb esz) Q σ w := by
  have hn := k.n_pos
  have hBlt : B < w.heap.size := World.block_lt_of_cell? w _ hc
  have hTlt := hw.tb.lt
  have hLlt := hw.lb.lt
  unfold loopT
  rw [wpC_seq]
  refine lpHead_wp h0 hc fun σ0 a0 s4 s5 => ?_
  simp only [thenC]
  rw [wpC_block, wpC_loop]
  refine ⟨fun σ1 w1 => ∃ j lv tcs, j ≤ gs.length ∧ (∀ q, q < s → q ≠ iv → σ1 q = σ q) ∧ σ1 (s + 4) = .int .i64 gs.length ∧ σ1 (s + 5) = .int .i64 j ∧ LS w w1 Tb Lb n pre post nl lv ((gs.take j).map GV.told) tcs ∧ tcs.length = j,
    fun σ1 _ => gs.length - (match σ1 (s + 5) with | .int _ j => j.toNat | _ => 0), ?_, ?_⟩
  · exact ⟨0, .slice none 0 0, [], Nat.zero_le _, fun q hq _ => a0 q hq, s4, s5, ⟨hw, ⟨by simp, .inl ⟨rfl, rfl⟩⟩, by simpa using .nil, Mod.refl _ _, hTlt, hLlt⟩, rfl⟩
  rintro σ1 w1 ⟨j, lv, tcs, hj, hag, h4, h5, hls, htl⟩
  rw [wpC_seq, wpC_blk]
  refine wpR_step (v := .bool (decide ((j : Int) < gs.length))) (by simp only [RK.val?, ev, h4, h5, isShift, decide_true, Bool.or_true, if_true, intBin]) ?_
  simp only [wpR, thenC]
  rw [wpC_seq]
  by_cases hlt : j < gs.length
  · have hd : decide ((j : Int) < gs.length) = true := by simp; omega
    rw [wpC_cond_t (by simp only [ev, updo, upd_same, hd])]
    rw [wpC_skip]
    simp only [thenC]
    rw [wpC_seq, wpC_block, wpC_seq, wpC_blk]
    refine wpR_step (v := .int .i64 j) (by simp only [RK.val?, ev, updo, upd, show s + 5 ≠ s + 6 by omega, if_false, h5]) ?_
    refine wpR_step (v := .int .i64 j) (by simp only [RK.val?, ev, updo, upd_same]) ?_
    simp only [wpR, thenC]
    rw [wpC_seq, wpC_rnd]
    intro c Ty
    simp only [thenC]
    -- the state ahead of one more
    have hm1 : Mod [] w1 (w1.drew.alloc (.cells [.bool c].toArray Ty)) := (Mod.drew _ _).trans (Mod.alloc _ _ _)
    have hls2 := hls.same hm1
    generalize w1.drew.alloc (.cells [.bool c].toArray Ty) = w2 at hm1 hls2 ⊢
    obtain ⟨gl, hgl⟩ : ∃ g, gs[j]? = some g := ⟨gs[j], List.getElem?_eq_getElem hlt⟩
    obtain ⟨sa, rfl⟩ : ∃ a, sb = some a := by
      cases sb with
      | none => have := hsn rfl; subst this; simp at hlt
      | some a => exact ⟨a, rfl⟩
    obtain ⟨ha1, hAlt, ha2⟩ := hsb sa rfl
    have hm2 := hls2.mod
    have hown : ∀ b, own lv = some b → w.heap.size ≤ b := fun b hb => (hls.raw.own hb).1
    -- the element
    obtain ⟨cs0, hcs0, hrep0, hc0⟩ : ∃ cs0, cs0.length = esz ∧ Rep O w gl cs0 ∧ Cells w ⟨sa.block, sa.off + j * esz, none⟩ cs0 := by
      obtain ⟨cs0, h1, h2⟩ := hr.nth hgl
      refine ⟨cs0, hsz _ (List.mem_of_getElem? h1), h2, ?_⟩
      exact flat_cells ha2 hsz h1
    have hsasp : sa = ⟨sa.block, sa.off, none⟩ := by
      have := ha2.1
      cases sa; simp only at this; subst this; rfl
    have hc2 : w2.cell? ⟨B, base + off, none⟩ = some (.slice (some ⟨sa.block, sa.off, none⟩) gs.length cap) := by
      rw [← hsasp]; exact cell_mod hc hm2 (by simpa using hB)
    have hc02 : Cells w2 ⟨sa.block, sa.off + j * esz, none⟩ cs0 := hc0.mod hm2 (.inr (by simp only [List.mem_singleton]; exact fun e => ha1 (e ▸ hLO)))
    have hrep2 : Rep ((own lv).toList ++ O) w2 gl cs0 := hrep0.fresh hm2 (fun x hx => .inl (by simp only [List.mem_singleton] at hx; subst hx; exact hLO)) (fun x hx => by
      rcases List.mem_append.1 hx with hx | hx
      · exact .inr (hown x (by simpa using hx))
      · exact .inl hx)
    have hgt := hg gl (List.mem_of_getElem? hgl)
    -- the slots
    have hσ : ∀ x, ∀ q, q < s + 10 → q ≠ s + 9 → q ≠ s + 8 → q ≠ iv → q ≠ s + 7 → q ≠ s + 6 → (upd (upd (updo (updo (updo σ1 (some (s + 6)) (.bool (decide ((j : Int) < gs.length)))) (some (s + 7)) (.int .i64 j)) (some iv) (.int .i64 j)) (s + 8) x) (s + 9) (.bool c)) q = σ1 q := by
      intro x q h1 h2 h3 h4 h5 h6
      simp only [updo, upd, h2, h3, h4, h5, h6, if_false]
    have hσiv : ∀ x, (upd (upd (updo (updo (updo σ1 (some (s + 6)) (.bool (decide ((j : Int) < gs.length)))) (some (s + 7)) (.int .i64 j)) (some iv) (.int .i64 j)) (s + 8) x) (s + 9) (.bool c)) iv = .int .i64 j := by
      intro x
      simp only [updo, upd, show iv ≠ s + 8 by omega, show iv ≠ s + 9 by omega, if_false, if_true]
    have hσc : ∀ x, (upd (upd (updo (updo (updo σ1 (some (s + 6)) (.bool (decide ((j : Int) < gs.length)))) (some (s + 7)) (.int .i64 j)) (some iv) (.int .i64 j)) (s + 8) x) (s + 9) (.bool c)) (s + 9) = .bool c := fun x => by simp only [upd_same]
    generalize Value.pointer (some ⟨w1.heap.size, 0, none⟩) = px
    specialize hσ px
    specialize hσiv px
    specialize hσc px
    generalize (upd (upd (updo (updo (updo σ1 (some (s + 6)) (.bool (decide ((j : Int) < gs.length)))) (some (s + 7)) (.int .i64 j)) (some iv) (.int .i64 j)) (s + 8) px) (s + 9) (.bool c)) = σ2 at hσ hσiv hσc ⊢
    have hσ0 : σ2 0 = .pointer (some ⟨B, base, none⟩) := by rw [hσ 0 (by omega) (by omega) (by omega) (by omega) (by omega) (by omega), hag 0 (by omega) (by omega)]; exact h0
    have hσ3 : σ2 3 = .pointer (some ⟨Tb, 0, none⟩) := by rw [hσ 3 (by omega) (by omega) (by omega) (by omega) (by omega) (by omega), hag 3 (by omega) (by omega)]; exact h3
    have fin : ∀ σ' w' lv' cs, Ag (s + 10) σ2 σ' → LS w w' Tb Lb n pre post nl lv' ((gs.take j).map GV.told ++ [gl.told]) (tcs ++ [cs]) →
        wpC P (.blk [⟨some (s + 44 + 2 * k.n), .bin .add (.tmp (s + 5)) (.const (.int .i64 1)), none⟩, ⟨some (s + 5), .mv (.tmp (s + 44 + 2 * k.n)), none⟩])
          (thenC (fun σ' w' => (∃ j lv tcs, j ≤ gs.length ∧ (∀ q, q < s → q ≠ iv → σ' q = σ q) ∧ σ' (s + 4) = .int .i64 gs.length ∧ σ' (s + 5) = .int .i64 j ∧ LS w w' Tb Lb n pre post nl lv ((gs.take j).map GV.told) tcs ∧ tcs.length = j) ∧
            gs.length - (match σ' (s + 5) with | .int _ j => j.toNat | _ => 0) < gs.length - (match σ1 (s + 5) with | .int _ j => j.toNat | _ => 0)) (inBlockC nb Q)) σ' w' := by
      intro σ' w' lv' cs ha hl
      have h5' : σ' (s + 5) = .int .i64 j := by rw [ha _ (by omega), hσ _ (by omega) (by omega) (by omega) (by omega) (by omega) (by omega)]; exact h5
      have hw : IntKind.i64.wrap ((j : Int) + 1) = ((j + 1 : Nat) : Int) := by
        simp only [IntKind.wrap, IntKind.bits, IntKind.signed]; simp; omega
      rw [wpC_blk]
      refine wpR_step (v := .int .i64 ((j + 1 : Nat) : Int)) (by simp only [RK.val?, ev, h5', isShift, decide_true, Bool.or_true, if_true, intBin, hw]) ?_
      refine wpR_step (v := .int .i64 ((j + 1 : Nat) : Int)) (by simp only [RK.val?, ev, updo, upd_same]) ?_
      simp only [wpR, thenC]
      refine ⟨⟨j + 1, lv', tcs ++ [cs], hlt, fun q hq hne => ?_, ?_, by simp only [updo, upd_same], ?_, by simp [htl]⟩, ?_⟩
      · simp only [updo, upd, show q ≠ s + 5 by omega, show q ≠ s + 44 + 2 * k.n by omega, if_false]
        rw [ha _ (by omega), hσ q (by omega) (by omega) (by omega) hne (by omega) (by omega)]
        exact hag q hq hne
      · simp only [updo, upd, show s + 4 ≠ s + 5 by omega, show s + 4 ≠ s + 44 + 2 * k.n by omega, if_false]
        rw [ha _ (by omega), hσ _ (by omega) (by omega) (by omega) (by omega) (by omega) (by omega)]; exact h4
      · rw [List.take_add_one, hgl]
        simpa using hl
      · simp only [updo, upd_same, h5, Int.toNat_natCast]
        show gs.length - (j + 1) < gs.length - j
        omega
    cases c with
    | true =>
      rw [wpC_cond_t (by simp only [ev, hσc])]
      refine appA_wp hk (by omega) (by omega) hσ0 hσ3 hσiv hi hlt hls2 hpre hc2 hgt hrep2 hc02 (by omega) fun σ' w' lv' cs ha hl => ?_
      exact fin σ' w' lv' cs ha hl
    | false =>
      rw [wpC_cond_f (by simp only [ev, hσc])]
      refine appB_wp hk (by omega) (by omega) hσ0 hσ3 hσiv hi hlt hls2 hpre hc2 hBlt hAlt hgt hrep2 hc02 (by omega) (fun b hb => by simp [hb]) fun σ' w' lv' cs ha hl => ?_
      exact fin σ' w' lv' cs (ha.mono (by omega)) hl
  · have hd : decide ((j : Int) < gs.length) = false := by simp; omega
    rw [wpC_cond_f (by simp only [ev, updo, upd_same, hd])]
    simp only [wpC, thenC, inBlockC, if_true]
    have hje : j = gs.length := by omega
    subst hje
    rw [List.take_length] at hls
    obtain ⟨b1, c1, hlv⟩ := hls.raw.len
    refine hQ _ w1 [.int .i64 0, .slice none 0 0, .bool nl, lv, .slice none 0 0] (fun q hq hne => ?_) hls.mod ?_ hls.tw
    · simp only [updo, upd, show q ≠ s + 6 by omega, if_false]; exact hag q hq hne
    · refine .mk (css := tcs) (uss := []) SlC.nil ?_ (by rw [GV.toldL_map]; exact hls.rep.mod (Mod.refl [] _) (by simp) fun b _ hb => hb.1) SlC.nil .nil
      rw [GV.toldL_map, List.length_map, ← htl]
      rcases hls.raw.sl with ⟨rfl, rfl⟩ | ⟨BA, cap', rest, rfl, q2, q3, q4, q5⟩
      · exact SlC.nil
      · refine ⟨some ⟨BA, 0, none⟩, cap', rfl, q2, fun h => by simp at h, fun a ha _ => ?_⟩
        simp only [Option.some.injEq] at ha; subst ha
        refine ⟨q3, q4.lt, ?_⟩
        have := q4.cells.take tcs.flatten.length
        rwa [List.take_left] at this
end
end Go.Msk

namespace Go.Msk
open Go.RowKit
set_option maxRecDepth 100000
def u32v (k : Nat) : Value := .int .u32 k
theorem putObj_size (w : World) (r : Nat) (o : Obj) : (putObj w r o).heap.size = w.heap.size := by simp [putObj]
theorem putObj_other {w : World} {r k : Nat} {o : Obj} (h : k ≠ r) : (putObj w r o).heap[k]? = w.heap[k]? := by
  simp only [putObj]; exact Array.getElem?_setIfInBounds_ne (fun e => h e.symm)
theorem nodup_of_map {α β : Type} {f : α → β} {l : List α} (h : (l.map f).Nodup) : l.Nodup :=
  List.Pairwise.of_map f (fun _ _ hab e => hab (congrArg f e)) h
structure SeenL (es : Array MapEntry) (seen : Array Nat) (E : List MapEntry) : Prop where
  sub : ∀ e ∈ E, e ∈ es.toList
  nd : (E.map (·.born)).Nodup
  all : seen.toList = E.map (·.born)
theorem SeenL.push {es : Array MapEntry} {seen : Array Nat} {E : List MapEntry} {e : MapEntry} (h : SeenL es seen E) (he : e ∈ (leftOf es seen).toList) : SeenL es (seen.push e.born) (E ++ [e]) := by
  obtain ⟨h1, h2⟩ := mem_left he
  refine ⟨fun x hx => ?_, ?_, by simp [h.all]⟩
  · rcases List.mem_append.1 hx with hx | hx
    · exact h.sub x hx
    · simp only [List.mem_singleton] at hx; subst hx; exact h1
  · rw [List.map_append, List.nodup_append]
    refine ⟨h.nd, by simp, fun a ha b hb => ?_⟩
    simp only [List.map_cons, List.map_nil, List.mem_singleton] at hb
    subst hb
    intro e'
    subst e'
    rw [← h.all] at ha
    have : seen.contains e.born = true := by simpa using ha
    rw [this] at h2; simp at h2
theorem SeenL.perm {es : Array MapEntry} {seen : Array Nat} {E : List MapEntry} (h : SeenL es seen E) (hb : (es.toList.map (·.born)).Nodup) (h0 : (leftOf es seen).size = 0) : E.Perm es.toList := by
  have hE : E.Nodup := nodup_of_map h.nd
  have hes : es.toList.Nodup := nodup_of_map hb
  refine (List.perm_ext_iff_of_nodup hE hes).2 fun x => ⟨fun hx => h.sub x hx, fun hx => ?_⟩
  have hc := all_seen es seen h0 x hx
  have : x.born ∈ seen.toList := by simpa using hc
  rw [h.all] at this
  obtain ⟨y, hy, hyx⟩ := List.mem_map.1 this
  have := born_inj hb (h.sub y hy) hx hyx
  exact this ▸ hy
theorem SeenL.lt {es : Array MapEntry} {seen : Array Nat} {E : List MapEntry} {e : MapEntry} (h : SeenL es seen E) (_hb : (es.toList.map (·.born)).Nodup) (he : e ∈ (leftOf es seen).toList) : E.length < es.size := by
  have h2 := h.push he
  have hE : (E ++ [e]).Nodup := nodup_of_map h2.nd
  have := hE.length_le_of_subset (l₂ := es.toList) h2.sub
  simp only [List.length_append, List.length_cons, List.length_nil, Array.length_toList] at this
  omega
section
variable {P : Program} {F : Nat → Nat}
structure KeyS (w0 : World) (w : World) (σ : Sl) (it Bs B r n : Nat) (es : Array MapEntry) (clock : Nat) (E : List MapEntry) : Prop where
  s24 : σ 24 = .pointer (some ⟨it, 0, none⟩)
  s4 : σ 4 = .pointer (some ⟨Bs, 0, none⟩)
  map : w.heap[r]? = some (.map es clock)
  iter : ∃ seen, w.heap[it]? = some (.mapIter (some r) clock seen clock) ∧ SeenL es seen E
  cell : Blk w Bs [.slice (some ⟨B, 0, none⟩) E.length n]
  row : ∃ rest, Blk w B (E.map (·.key) ++ rest) ∧ E.length + rest.length = n
  fr : Mod [] w0 w
  ne1 : it ≠ Bs
  ne2 : it ≠ B
  ne3 : Bs ≠ B
  nr : r ≠ it ∧ r ≠ Bs ∧ r ≠ B
  hn : n = es.size
  old1 : w0.heap.size ≤ it
  old2 : w0.heap.size ≤ Bs
  old3 : w0.heap.size ≤ B
theorem each_loop1 {w0 w : World} {σ : Sl} {it Bs B r n : Nat} {es : Array MapEntry} {clock : Nat} {Q : Exit → Sl → World → Prop} (h : KeyS w0 w σ it Bs B r n es clock []) (hk : keysAre .u32 es) (hb : (es.toList.map (·.born)).Nodup) (hold : ∀ e ∈ es.toList, e.born < clock)
    (hQ : ∀ σ' w' E, (∀ j, j < 25 → j ≠ 5 → σ' j = σ j) → KeyS w0 w' σ' it Bs B r n es clock E → E.Perm es.toList → Q .normal σ' w') :
    wpC P (.block 0 (.loop (.seq (.blk [⟨some 25, .mnext (.tmp 24), none⟩, ⟨some 26, .ext (.tmp 25) 0, none⟩])
        (.seq (.cond (.tmp 26) .skip (.exit 0))
        (.block 1 (.seq (.blk [⟨some 27, .mentry (.tmp 24), none⟩, ⟨some 28, .ext (.tmp 27) 0, none⟩, ⟨some 5, .mv (.tmp 28), none⟩])
          (.blk [⟨some 29, .ld (.tmp 4), none⟩, ⟨some 30, .mv (.tmp 5), none⟩, ⟨some 31, .bslice 1 [.int .u32 0] [(0, 1, .tmp 30)], none⟩, ⟨some 32, .append (.tmp 29) (.tmp 31) 1 4, none⟩, ⟨none, .st (.tmp 4) 1 (.tmp 32), none⟩]))))))) Q σ w := by
  rw [wpC_block, wpC_loop]
  refine ⟨fun σ' w' => ∃ E, (∀ j, j < 25 → j ≠ 5 → σ' j = σ j) ∧ KeyS w0 w' σ' it Bs B r n es clock E, fun _ w' => (leftOf es (w'.iterSeen it)).size, ⟨[], fun _ _ _ => rfl, h⟩, ?_⟩
  rintro σ1 w1 ⟨E, ag, hS⟩
  obtain ⟨seen, hit, hE⟩ := hS.iter
  have hseen : w1.iterSeen it = seen := by unfold World.iterSeen; rw [hit]
  rw [wpC_seq, wpC_blk]
  refine wpR_run ?_
  simp only [RK.run, ev, hS.s24, hit, hS.map]
  refine ⟨hold, Nat.le_refl _, fun h0 => ?_, fun e he w2 hw2 => ?_⟩
  · -- no entry is left
    refine wpR_step (v := .bool false) (by simp only [RK.val?, ev, updo, upd, if_true]; rfl) ?_
    refine wpR_done ?_
    rw [wpC_seq, wpC_cond_f rfl]
    refine wpC_exit_out3 ?_
    refine hQ _ w1 E (fun j hj h5 => ?_) ?_ (hE.perm hb h0)
    · simp only [updo, upd, show j ≠ 26 by omega, show j ≠ 25 by omega, if_false]; exact ag j hj h5
    · exact { hS with s24 := by simp [updo, upd, hS.s24], s4 := by simp [updo, upd, hS.s4] }
  · -- an entry
    have hsz2 : w2.heap = w1.heap := by rcases hw2 with rfl | rfl <;> rfl
    have hm2 : Mod [] w1 w2 := by
      rcases hw2 with rfl | rfl
      · exact Mod.refl _ _
      · exact Mod.drew _ _
    have hitl : it < w2.heap.size := by rw [hsz2]; exact (Array.getElem?_eq_some_iff.1 hit).1
    refine wpR_step (v := .bool true) (by simp only [RK.val?, ev, updo, upd, if_true]; rfl) ?_
    refine wpR_done ?_
    rw [wpC_seq, wpC_cond_t rfl, wpC_skip]
    simp only [thenC]
    rw [wpC_block, wpC_seq, wpC_blk]
    have hpm : Mod [it] w2 (putObj w2 it (.mapIter (some r) clock (seen.push e.born) clock)) := Mod.putObj (by simp)
    have hget : (putObj w2 it (.mapIter (some r) clock (seen.push e.born) clock)).heap[it]? = some (.mapIter (some r) clock (seen.push e.born) clock) := putObj_get hitl
    have hmp : (putObj w2 it (.mapIter (some r) clock (seen.push e.born) clock)).heap[r]? = some (.map es clock) := by
      rw [putObj_other hS.nr.1, hsz2]; exact hS.map
    obtain ⟨rest, hrow, hlen⟩ := hS.row
    have hcell := (hS.cell.mod hm2 (by simp)).mod hpm (by simpa using hS.ne1.symm)
    have hrow := (hrow.mod hm2 (by simp)).mod hpm (by simpa using hS.ne2.symm)
    have hpsz : (putObj w2 it (.mapIter (some r) clock (seen.push e.born) clock)).heap.size = w2.heap.size := putObj_size _ _ _
    have hm3 : Mod [it] w1 (putObj w2 it (.mapIter (some r) clock (seen.push e.born) clock)) := hm2.nil.trans hpm
    generalize hw3 : putObj w2 it (.mapIter (some r) clock (seen.push e.born) clock) = w3 at hpm hget hmp hcell hrow hpsz hm3 ⊢
    obtain ⟨k, hkk⟩ := hk e (mem_left he).1
    have hlt := hE.lt hb he
    have hnn := hS.hn
    refine wpR_run ?_
    simp only [RK.run, ev, updo, upd, show (24 : Nat) ≠ 26 by decide, show (24 : Nat) ≠ 25 by decide, if_false, hS.s24, hget, hmp]
    refine ⟨trivial, e, (mem_left he).1, hb, by simp, ?_⟩
    refine wpR_step (v := e.key) (by simp only [RK.val?, ev, upd, if_true]; rfl) ?_
    refine wpR_step (v := e.key) (by simp only [RK.val?, ev, updo, upd, if_true]) ?_
    refine wpR_done ?_
    rw [wpC_blk]
    refine wpR_step (v := .slice (some ⟨B, 0, none⟩) E.length n) (by simp only [RK.val?, ev, updo, upd]; simp [hS.s4, hcell.cell]) ?_
    refine wpR_step (v := e.key) (by simp only [RK.val?, ev, updo, upd]; simp) ?_
    refine wpR_run ?_
    have hkc : e.key.cells = #[e.key] := by rw [hkk]; rfl
    have hko : e.key.oneCell' = true := by rw [hkk]; rfl
    simp only [RK.run, List.map_cons, List.map_nil, ev, updo, upd, if_true, zrep, List.replicate_succ, List.replicate_zero, List.flatten_cons, List.flatten_nil, List.append_nil, fillL, hkc]
    have hspl : splice [Value.int .u32 0] 0 [e.key] = [e.key] := splice_all rfl
    simp only [List.size_toArray, List.length_cons, List.length_nil, Nat.zero_add, Nat.le_refl, and_self, if_true, hspl]
    intro Tn
    have bA := Blk.new w3 [e.key] Tn
    have mA : Mod [] w3 (w3.alloc (.cells [e.key].toArray Tn)) := Mod.alloc _ _ _
    have zA : (w3.alloc (.cells [e.key].toArray Tn)).heap.size = w3.heap.size + 1 := by simp
    have hcell4 := hcell.mod mA (by simp)
    have hrow4 := hrow.mod mA (by simp)
    have hget4 : (w3.alloc (.cells [e.key].toArray Tn)).heap[it]? = some (.mapIter (some r) clock (seen.push e.born) clock) := by rw [mA.block it (by omega) (by simp)]; exact hget
    have hrl : r < w3.heap.size := (Array.getElem?_eq_some_iff.1 hmp).1
    have hmp4 : (w3.alloc (.cells [e.key].toArray Tn)).heap[r]? = some (.map es clock) := by rw [mA.block r hrl (by simp)]; exact hmp
    generalize w3.alloc (.cells [e.key].toArray Tn) = w4 at bA mA zA hcell4 hrow4 hget4 hmp4 ⊢
    refine wpR_run ?_
    have hsrc : srcCells w4 1 (.slice (some ⟨w3.heap.size, 0, none⟩) 1 1) = some (1, [e.key]) := by
      simp only [srcCells, Nat.mul_one]
      rw [cellsAt_of' bA.cells (n := 1) rfl]; rfl
    simp only [RK.run, ev, updo, upd, show (29 : Nat) ≠ 31 by decide, show (29 : Nat) ≠ 30 by decide, if_false, if_true, hsrc, appendRun]
    rw [if_pos (by omega)]
    simp only [Addr.add_mk, Nat.zero_add, Nat.mul_one]
    obtain ⟨x, rest', rfl⟩ : ∃ x r', rest = x :: r' := by cases rest with | nil => simp at hlen; omega | cons x r' => exact ⟨x, r', rfl⟩
    simp only [List.length_cons] at hlen
    refine ⟨stOk_one hrow4 (by simp) hko, ?_⟩
    have hput : Mod [B] w4 (putCells w4 ⟨B, E.length, none⟩ 0 [e.key]) := Mod.put (by simp)
    have hp := hrow4.put (o := E.length) (vs := [e.key]) (by simp)
    have hsp2 : splice (E.map (·.key) ++ x :: rest') E.length [e.key] = (E ++ [e]).map (·.key) ++ rest' := by
      have h1 : (E.map (·.key) ++ x :: rest').take E.length = E.map (·.key) := List.take_left' (by simp)
      have h2 : (E.map (·.key) ++ x :: rest').drop (E.length + [e.key].length) = rest' := by
        rw [show E.map (·.key) ++ x :: rest' = (E.map (·.key) ++ [x]) ++ rest' by simp]
        exact List.drop_left' (by simp)
      unfold splice
      rw [h1, h2]; simp
    rw [hsp2] at hp
    have hcell5 := hcell4.mod hput (by simpa using hS.ne3)
    have hget5 : (putCells w4 ⟨B, E.length, none⟩ 0 [e.key]).heap[it]? = some (.mapIter (some r) clock (seen.push e.born) clock) := by
      rw [hput.block it (by omega) (by simpa using hS.ne2)]; exact hget4
    have hmp5 : (putCells w4 ⟨B, E.length, none⟩ 0 [e.key]).heap[r]? = some (.map es clock) := by
      rw [hput.block r (by omega) (by simpa using hS.nr.2.2)]; exact hmp4
    have zB : (putCells w4 ⟨B, E.length, none⟩ 0 [e.key]).heap.size = w4.heap.size := size_putCells ..
    generalize putCells w4 ⟨B, E.length, none⟩ 0 [e.key] = w5 at hput hp hcell5 hget5 hmp5 zB ⊢
    refine wpR_run ?_
    have ec : (Value.slice (some ⟨B, 0, none⟩) (E.length + 1) n).cells = #[.slice (some ⟨B, 0, none⟩) (E.length + 1) n] := rfl
    have hput6 : Mod [Bs] w5 (putCells w5 ⟨Bs, 0, none⟩ 0 [.slice (some ⟨B, 0, none⟩) (E.length + 1) n]) := Mod.put (by simp)
    have hp6 := hcell5.put (o := 0) (vs := [.slice (some ⟨B, 0, none⟩) (E.length + 1) n]) (by simp)
    rw [splice_all (by rfl)] at hp6
    simp only [RK.run, ev, updo, upd, if_true, show (4 : Nat) ≠ 32 by decide, show (4 : Nat) ≠ 31 by decide, show (4 : Nat) ≠ 30 by decide, show (4 : Nat) ≠ 29 by decide, show (4 : Nat) ≠ 5 by decide, show (4 : Nat) ≠ 28 by decide, show (4 : Nat) ≠ 27 by decide, show (4 : Nat) ≠ 26 by decide, show (4 : Nat) ≠ 25 by decide, if_false, hS.s4, ec]
    refine ⟨rfl, stOk_one hcell5 (by simp) rfl, ?_⟩
    have hget6 : (putCells w5 ⟨Bs, 0, none⟩ 0 [.slice (some ⟨B, 0, none⟩) (E.length + 1) n]).heap[it]? = some (.mapIter (some r) clock (seen.push e.born) clock) := by
      rw [hput6.block it (by omega) (by simpa using hS.ne1)]; exact hget5
    have hmp6 : (putCells w5 ⟨Bs, 0, none⟩ 0 [.slice (some ⟨B, 0, none⟩) (E.length + 1) n]).heap[r]? = some (.map es clock) := by
      rw [hput6.block r (by omega) (by simpa using hS.nr.2.1)]; exact hmp5
    simp only [wpR, inBlockC, thenC]
    refine ⟨⟨E ++ [e], fun j hj h5 => ?_, ?_⟩, ?_⟩
    · simp only [upd, show j ≠ 32 by omega, show j ≠ 31 by omega, show j ≠ 30 by omega, show j ≠ 29 by omega, h5, show j ≠ 28 by omega, show j ≠ 27 by omega, show j ≠ 26 by omega, show j ≠ 25 by omega, if_false]; exact ag j hj h5
    · refine { hS with s24 := by simp [upd, hS.s24], s4 := by simp [upd, hS.s4], map := hmp6, iter := ⟨_, hget6, hE.push he⟩, cell := by simpa using hp6, row := ⟨rest', hp.mod hput6 (by simpa using hS.ne3.symm), by simp; omega⟩, fr := ?_ }
      have o1 := hS.old1; have o2 := hS.old2; have o3 := hS.old3
      refine Mod.drop (b := it) (S := []) ?_ o1
      refine Mod.drop (b := Bs) (S := [it]) ?_ o2
      refine Mod.drop (b := B) (S := [Bs, it]) ?_ o3
      exact (((hS.fr.mono (by simp)).trans (hm3.mono (by simp))).trans (mA.mono (by simp))).trans ((hput.mono (by simp)).trans (hput6.mono (by simp)))
    · have h6 : (putCells w5 ⟨Bs, 0, none⟩ 0 [.slice (some ⟨B, 0, none⟩) (E.length + 1) n]).iterSeen it = seen.push e.born := by unfold World.iterSeen; rw [hget6]
      rw [hseen, h6]
      exact left_shrinks es seen e he
end
end Go.Msk

namespace Go.Msk
open Go.RowKit
set_option maxRecDepth 100000
def getT (m : List (Nat × List UInt8)) (k : Nat) : List UInt8 := match m.find? (fun p => k == p.1) with | some p => p.2 | none => []
theorem insT_perm (k : Nat) (l : List UInt8) : ∀ m : List (Nat × List UInt8), (insT k l m).Perm ((k, l) :: m)
  | [] => .refl _
  | (k', l') :: m => by
    simp only [insT]
    split
    · exact .refl _
    · exact ((insT_perm k l m).cons _).trans (.swap _ _ _)
theorem sortT_perm : ∀ m : List (Nat × List UInt8), (sortT m).Perm m
  | [] => .refl _
  | (k, l) :: m => (insT_perm k l (sortT m)).trans ((sortT_perm m).cons _)
theorem insT_sorted (k : Nat) (l : List UInt8) : ∀ m : List (Nat × List UInt8), m.Pairwise (fun a b => a.1 ≤ b.1) → (insT k l m).Pairwise (fun a b => a.1 ≤ b.1)
  | [], _ => by simp [insT]
  | (k', l') :: m, h => by
    simp only [insT]
    rw [List.pairwise_cons] at h
    split
    · rename_i hk
      refine List.pairwise_cons.2 ⟨fun b hb => ?_, List.pairwise_cons.2 h⟩
      rcases List.mem_cons.1 hb with rfl | hb
      · exact Nat.le_of_lt hk
      · have := h.1 b hb; simp only at this ⊢; omega
    · rename_i hk
      refine List.pairwise_cons.2 ⟨fun b hb => ?_, insT_sorted k l m h.2⟩
      have := (insT_perm k l m).mem_iff.1 hb
      rcases List.mem_cons.1 this with rfl | hb
      · simp only; omega
      · exact h.1 b hb
theorem sortT_sorted : ∀ m : List (Nat × List UInt8), (sortT m).Pairwise (fun a b => a.1 ≤ b.1)
  | [] => .nil
  | (k, l) :: m => insT_sorted k l _ (sortT_sorted m)
theorem getT_mem : ∀ {m : List (Nat × List UInt8)} (p : Nat × List UInt8), (m.map (·.1)).Nodup → p ∈ m → getT m p.1 = p.2
  | [], p, _, h => by simp at h
  | q :: m, p, hn, h => by
    unfold getT
    rw [List.find?_cons]
    rw [List.map_cons, List.nodup_cons] at hn
    rcases List.mem_cons.1 h with rfl | h
    · simp
    · have hne : ¬ p.1 = q.1 := fun e => hn.1 (by rw [← e]; exact List.mem_map.2 ⟨p, h, rfl⟩)
      have : (p.1 == q.1) = false := by simpa using hne
      rw [this]
      exact getT_mem p hn.2 h
theorem sortT_eq {m : List (Nat × List UInt8)} {ks : List Nat} (hn : (m.map (·.1)).Nodup) (hp : ks.Perm (m.map (·.1))) (hs : ks.Pairwise (· ≤ ·)) : ks.map (fun k => (k, getT m k)) = sortT m := by
  have h1 : (m.map (·.1)).map (fun k => (k, getT m k)) = m := by
    rw [List.map_map]
    conv => rhs; rw [← List.map_id m]
    apply List.map_congr_left
    intro p hp
    simp only [Function.comp, id, getT_mem p hn hp]
  have h2 : (ks.map (fun k => (k, getT m k))).Perm m := by
    have := hp.map (fun k => (k, getT m k))
    rwa [h1] at this
  refine List.Perm.eq_of_pairwise (le := fun a b => a.1 ≤ b.1) (fun a b ha hb hab hba => ?_) ?_ (sortT_sorted m) (h2.trans (sortT_perm m).symm)
  · have ha' := h2.mem_iff.1 ha
    have hb' := (sortT_perm m).mem_iff.1 hb
    have e : a.1 = b.1 := Nat.le_antisymm hab hba
    have x1 := getT_mem a hn ha'
    have x2 := getT_mem b hn hb'
    rw [e] at x1
    exact Prod.ext e (x1.symm.trans x2)
  · exact List.Pairwise.map _ (fun a b h => h) hs
theorem EntL.get {ok : Nat → Prop} {w : World} {es : List MapEntry} {m : List (Nat × List UInt8)} (h : EntL ok w es m) {k : Nat} (hk : k ∈ m.map (·.1)) : ∃ e, es.find? (keyIs k) = some e ∧ SlC ok w e.val (getT m k).length (u8s (getT m k)) := by
  induction h with
  | nil => simp at hk
  | @cons e k' l es m h1 h2 h3 h4 ih =>
    have hki : keyIs k e = decide (k = k') := by
      unfold keyIs; rw [h1]
      by_cases hkk : k = k'
      · simp [hkk]
      · have : ¬ (k : Int) = k' := by omega
        simp [hkk, this]
    rw [List.find?_cons, hki]
    by_cases hkk : k = k'
    · refine ⟨e, by simp [hkk], ?_⟩
      have : getT ((k', l) :: m) k = l := by unfold getT; simp [hkk]
      rw [this]; exact h3
    · simp only [List.map_cons, List.mem_cons, hkk, false_or] at hk
      obtain ⟨x, hx1, hx2⟩ := ih hk
      refine ⟨x, by simp [hkk, hx1], ?_⟩
      have : getT ((k', l) :: m) k = getT m k := by unfold getT; rw [List.find?_cons, show (k == k') = false by simpa using hkk]
      rw [this]; exact hx2
theorem EntL.len {ok : Nat → Prop} {w : World} {es : List MapEntry} {m : List (Nat × List UInt8)} (h : EntL ok w es m) : es.length = m.length := by
  induction h with
  | nil => rfl
  | cons _ _ _ _ ih => simp [ih]
theorem EntL.klist {ok : Nat → Prop} {w : World} {es : List MapEntry} {m : List (Nat × List UInt8)} (h : EntL ok w es m) : es.map (·.key) = (m.map (·.1)).map u32v := by
  induction h with
  | nil => rfl
  | cons h1 _ _ _ ih => simp [ih, h1, u32v]
theorem EntL.lt32 {ok : Nat → Prop} {w : World} {es : List MapEntry} {m : List (Nat × List UInt8)} (h : EntL ok w es m) : ∀ k ∈ m.map (·.1), k < 4294967296 := by
  induction h with
  | nil => simp
  | cons _ h2 _ _ ih =>
    intro k hk
    rw [List.map_cons] at hk
    rcases List.mem_cons.1 hk with rfl | hk
    · exact h2
    · exact ih k hk
theorem map_perm_inj : ∀ {a b : List Nat}, (a.map u32v).Perm (b.map u32v) → a.Perm b := by
  intro a b h
  have hd : ∀ l : List Nat, (l.map u32v).map (fun v => match v with | .int _ n => n.toNat | _ => 0) = l := by
    intro l
    rw [List.map_map]
    conv => rhs; rw [← List.map_id l]
    apply List.map_congr_left
    intro k _; simp [u32v]
  have := h.map (fun v => match v with | .int _ n => n.toNat | _ => 0)
  rwa [hd, hd] at this
def SortC (P : Program) (f g : FuncId) (T : TypeId) : Prop :=
  ∀ (w : World) (B Bs : Nat) (ks : List Nat), Blk w B (ks.map u32v) → Blk w Bs [.slice (some ⟨B, 0, none⟩) ks.length ks.length] → Bs ≠ B → ks.length ≤ 2147483647 → (∀ k ∈ ks, k < 4294967296) →
    Calls P f #[.iface T (.slice (some ⟨B, 0, none⟩) ks.length ks.length), .func (.func g) #[] #[.pointer (some ⟨Bs, 0, none⟩)]] w fun e w' =>
      e = .returned (.tuple #[]) ∧ ∃ ks' : List Nat, ks'.Perm ks ∧ ks'.Pairwise (· ≤ ·) ∧ Blk w' B (ks'.map u32v) ∧ Mod [B] w w'
end Go.Msk

namespace Go.Msk
open Go.RowKit
set_option maxRecDepth 100000
section
variable {P : Program} {F : Nat → Nat}
def EachCB (P : Program) (w0 : World) (S : List Nat) (okv : Nat → Prop) (g : FuncId) (captured : List Value) (I : World → List (Nat × List UInt8) → World → Prop) (all : List (Nat × List UInt8)) : Prop :=
  ∀ (wN : World) (done : List (Nat × List UInt8)) (k : Nat) (l : List UInt8) (w1 : World) (v : Value), (∃ r, all = done ++ (k, l) :: r) → Mod [] w0 wN → I wN done w1 → done.length < 2147483647 → Mod S wN w1 → k < 4294967296 → l.length ≤ 2147483647 → SlC okv w1 v l.length (u8s l) →
    Calls P g ([u32v k, v] ++ captured).toArray w1 fun e w2 => e = .returned (.tuple #[]) ∧ I wN (done ++ [(k, l)]) w2 ∧ Mod S wN w2
theorem getT_len {m : List (Nat × List UInt8)} (h : ∀ p ∈ m, p.2.length ≤ 2147483647) (k : Nat) : (getT m k).length ≤ 2147483647 := by
  unfold getT
  cases hf : m.find? (fun p => k == p.1) with
  | none => simp
  | some p => exact h p (List.mem_of_find?_eq_some hf)
theorem each_loop2 {w0 wN w : World} {S : List Nat} {okv : Nat → Prop} {g : FuncId} {captured : List Value} {I : World → List (Nat × List UInt8) → World → Prop} {m : List (Nat × List UInt8)} {ks : List Nat} (hcb : EachCB P w0 S okv g captured I (ks.map fun k => (k, getT m k))) (hbody : hasBody P g = true)
    {σ : Sl} {B o R r : Nat} {Q : Exit → Sl → World → Prop} (h0 : σ 0 = .pointer (some ⟨B, o, none⟩)) (h1 : σ 1 = .func (.func g) #[] captured.toArray) (h37 : σ 37 = .slice (some ⟨R, 0, none⟩) ks.length ks.length)
    (h38 : σ 38 = .int .i64 ks.length) (h39 : σ 39 = .int .i64 0) (hmN : Mod [] w0 wN) (hw : w = wN) (hrow : Blk wN R (ks.map u32v)) (hcell : wN.cell? ⟨B, o, none⟩ = some (.map (some r))) (hM : MapRep okv wN r m) (hB : B ∉ S) (hr : r ∉ S) (hR : R ∉ S) (hS : ∀ b ∈ S, ¬ okv b)
    (hmv : ∀ p ∈ m, p.2.length ≤ 2147483647) (hks : ∀ k ∈ ks, k ∈ m.map (·.1)) (hlen : ks.length ≤ 2147483647) (hI : I wN [] wN)
    (hQ : ∀ σ' w', I wN (ks.map fun k => (k, getT m k)) w' → Mod S wN w' → Q .normal σ' w') :
    wpC P (.block 2 (.loop (.seq (.blk [⟨some 40, .bin .lss (.tmp 39) (.tmp 38), none⟩])
        (.seq (.cond (.tmp 40) .skip (.exit 2))
        (.seq (.block 3 (.seq (.blk [⟨some 41, .iad (.tmp 37) (.tmp 39) 1, none⟩, ⟨some 42, .ld (.tmp 41), none⟩, ⟨some 7, .mv (.tmp 42), none⟩])
          (.blk [⟨some 43, .mv (.tmp 1), none⟩, ⟨some 44, .mv (.tmp 7), none⟩, ⟨some 45, .mv (.tmp 0), none⟩, ⟨some 46, .nilc (.tmp 45), none⟩, ⟨some 47, .fad (.tmp 46) 0, none⟩, ⟨some 48, .ld (.tmp 47), none⟩, ⟨some 49, .mv (.tmp 7), none⟩,
            ⟨some 50, .mlook (.tmp 48) (.tmp 49) (.slice none 0 0), none⟩, ⟨some 51, .callv (.tmp 43) [.tmp 44, .tmp 50], none⟩])))
        (.blk [⟨some 52, .bin .add (.tmp 39) (.const (.int .i64 1)), none⟩, ⟨some 39, .mv (.tmp 52), none⟩])))))) Q σ w := by
  subst hw
  rw [wpC_block, wpC_loop]
  refine ⟨fun σ' w' => ∃ i, i ≤ ks.length ∧ σ' 0 = .pointer (some ⟨B, o, none⟩) ∧ σ' 1 = .func (.func g) #[] captured.toArray ∧ σ' 37 = .slice (some ⟨R, 0, none⟩) ks.length ks.length ∧ σ' 38 = .int .i64 ks.length ∧ σ' 39 = .int .i64 (i : Nat) ∧
      I w ((ks.take i).map fun k => (k, getT m k)) w' ∧ Mod S w w', fun σ' _ => match σ' 39 with | .int _ i => ks.length - i.toNat | _ => 0, ⟨0, Nat.zero_le _, h0, h1, h37, h38, h39, by simpa using hI, Mod.refl _ _⟩, ?_⟩
  rintro σ1 w1 ⟨i, hi, s0, s1, s37, s38, s39, hI1, hm1⟩
  rw [wpC_seq, wpC_blk]
  refine wpR_step (v := .bool (decide (i < ks.length))) (by
    simp only [RK.val?, ev, s39, s38, isShift, decide_true, Bool.or_true, if_true, intBin]
    congr 2; exact decide_eq_decide.2 (by omega)) ?_
  refine wpR_done ?_
  by_cases hlt : i < ks.length
  · rw [wpC_seq, wpC_cond_t (by simp only [ev, updo, upd, if_true, hlt, decide_true]), wpC_skip]
    simp only [thenC]
    rw [wpC_seq, wpC_block, wpC_seq, wpC_blk]
    have hki : ks[i]? = some ks[i] := List.getElem?_eq_getElem hlt
    have hkm := hks ks[i] (List.getElem_mem hlt)
    have htk : ks.take (i + 1) = ks.take i ++ [ks[i]] := (List.take_append_getElem hlt).symm
    generalize ks[i] = k at hki hkm htk
    have c41 : w1.cell? ⟨R, i, none⟩ = some (u32v k) := by
      have := (hrow.mod hm1 hR).cell i
      rw [this, List.getElem?_map, hki]; rfl
    refine wpR_step (v := .pointer (some ⟨R, i, none⟩)) (by
      simp only [RK.val?, ev, updo, upd, show (37 : Nat) ≠ 40 by decide, show (39 : Nat) ≠ 40 by decide, if_false, s37, s39]
      rw [if_pos (by omega)]
      simp [Addr.add_mk]) ?_
    refine wpR_step (v := u32v k) (by simp only [RK.val?, ev, updo, upd, if_true, c41]) ?_
    refine wpR_step (v := u32v k) (by simp only [RK.val?, ev, updo, upd, if_true]) ?_
    refine wpR_done ?_
    rw [wpC_blk]
    have hcell1 : w1.cell? ⟨B, o, none⟩ = some (.map (some r)) := cell_mod hcell hm1 hB
    have hM1 := hM.mod (ok' := okv) hm1 hr hS fun _ _ h => h
    obtain ⟨es, clock, he1, he2, he3, he4⟩ := hM1.ex
    obtain ⟨e, hf, hv⟩ := he2.get hkm
    have hk32 := he2.lt32 k hkm
    have hmg : mapGet es k (.slice none 0 0) = e.val := by unfold mapGet; rw [hf]
    refine wpR_step (v := .func (.func g) #[] captured.toArray) (by simp only [RK.val?, ev, updo, upd]; simp [s1]) ?_
    refine wpR_step (v := u32v k) (by simp only [RK.val?, ev, updo, upd]; simp) ?_
    refine wpR_step (v := .pointer (some ⟨B, o, none⟩)) (by simp only [RK.val?, ev, updo, upd]; simp [s0]) ?_
    refine wpR_step (v := .pointer (some ⟨B, o, none⟩)) (by simp only [RK.val?, ev, updo, upd, if_true]) ?_
    refine wpR_step (v := .pointer (some ⟨B, o, none⟩)) (by simp only [RK.val?, ev, updo, upd, if_true, Addr.add_mk, Nat.add_zero]) ?_
    refine wpR_step (v := .map (some r)) (by simp only [RK.val?, ev, updo, upd, if_true, hcell1]) ?_
    refine wpR_step (v := u32v k) (by simp only [RK.val?, ev, updo, upd]; simp) ?_
    refine wpR_run ?_
    simp only [RK.run, ev, updo, upd, show (48 : Nat) ≠ 49 by decide, if_false, if_true, u32v, he1]
    refine ⟨he2.keys, ?_⟩
    rw [hmg]
    refine wpR_run ?_
    have hc := hcb w ((ks.take i).map fun k => (k, getT m k)) k (getT m k) w1 e.val ⟨(ks.drop (i + 1)).map fun k => (k, getT m k), by
      have : ks = ks.take i ++ k :: ks.drop (i + 1) := by
        have h1 := (List.take_append_drop (i + 1) ks).symm
        rw [htk, List.append_assoc] at h1
        exact h1
      conv => lhs; rw [this]
      simp⟩ hmN hI1 (by simp only [List.length_map, List.length_take]; omega) hm1 hk32 (getT_len hmv k) hv
    simp only [RK.run, ev, updo, upd, show (43 : Nat) ≠ 50 by decide, show (43 : Nat) ≠ 49 by decide, show (43 : Nat) ≠ 48 by decide, show (43 : Nat) ≠ 47 by decide, show (43 : Nat) ≠ 46 by decide, show (43 : Nat) ≠ 45 by decide, show (43 : Nat) ≠ 44 by decide,
      show (44 : Nat) ≠ 50 by decide, show (44 : Nat) ≠ 49 by decide, show (44 : Nat) ≠ 48 by decide, show (44 : Nat) ≠ 47 by decide, show (44 : Nat) ≠ 46 by decide, show (44 : Nat) ≠ 45 by decide, if_false, if_true, List.map_cons, List.map_nil, List.nil_append]
    refine ⟨hbody, hc.mono ?_⟩
    rintro en w2 ⟨rfl, hI2, hm2⟩
    refine ⟨_, rfl, ?_⟩
    simp only [wpR, inBlockC, thenC]
    rw [wpC_blk]
    refine wpR_step (v := .int .i64 ((i + 1 : Nat) : Int)) (by
      simp only [RK.val?, ev, upd, show (39 : Nat) ≠ 51 by decide, show (39 : Nat) ≠ 50 by decide, show (39 : Nat) ≠ 49 by decide, show (39 : Nat) ≠ 48 by decide, show (39 : Nat) ≠ 47 by decide, show (39 : Nat) ≠ 46 by decide, show (39 : Nat) ≠ 45 by decide, show (39 : Nat) ≠ 44 by decide, show (39 : Nat) ≠ 43 by decide, show (39 : Nat) ≠ 7 by decide, show (39 : Nat) ≠ 42 by decide, show (39 : Nat) ≠ 41 by decide, show (39 : Nat) ≠ 40 by decide, if_false, s39, isShift, decide_true, Bool.or_true, if_true, intBin]
      have e1 : (i : Int) + 1 = ((i + 1 : Nat) : Int) := by omega
      rw [e1, i64_small (by omega) (by omega)]) ?_
    refine wpR_step (v := .int .i64 ((i + 1 : Nat) : Int)) (by simp only [RK.val?, ev, updo, upd, if_true]) ?_
    simp only [wpR]
    refine ⟨⟨i + 1, by omega, by simp [updo, upd, s0], by simp [updo, upd, s1], by simp [updo, upd, s37], by simp [updo, upd, s38], by simp only [updo, upd, if_true], ?_, hm2⟩, ?_⟩
    · rw [htk, List.map_append]; exact hI2
    · simp only [updo, upd, if_true, s39]; omega
  · rw [wpC_seq, wpC_cond_f (by simp only [ev, updo, upd, if_true, hlt, decide_false])]
    refine wpC_exit_out ?_
    refine hQ _ w1 ?_ hm1
    have : i = ks.length := by omega
    subst this
    simpa using hI1
theorem tEach_call {w : World} (hm : P.follows .mixedOrders = true) (h : liftF P (F tEach) = some (ir_tEach F)) (hsort : SortC P (F sortSlice) (F tEach1) (F tyU32s))
    {S : List Nat} {okv : Nat → Prop} {g : FuncId} {captured : List Value} {I : World → List (Nat × List UInt8) → World → Prop} {m : List (Nat × List UInt8)} (hcb : EachCB P w S okv g captured I (sortT m)) (hbody : hasBody P g = true)
    {B o : Nat} {v : Value} (hc : w.cell? ⟨B, o, none⟩ = some v) (hM : TagM okv w v m) (hlen : m.length ≤ 2147483647) (hmv : ∀ p ∈ m, p.2.length ≤ 2147483647) (hB : B ∉ S) (hr : ∀ r, v = .map (some r) → r ∉ S) (hSl : ∀ b ∈ S, b < w.heap.size) (hS : ∀ b ∈ S, ¬ okv b)
    (hI : ∀ wN, Mod [] w wN → I wN [] wN) :
    Calls P (F tEach) [.pointer (some ⟨B, o, none⟩), .func (.func g) #[] captured.toArray].toArray w fun e w' => e = .returned (.tuple #[]) ∧ ∃ wN, Mod [] w wN ∧ I wN (sortT m) w' ∧ Mod S wN w' := by
  unfold ir_tEach at h
  refine call_of h hm (by simp) ?_
  have a0 : args0 [.pointer (some ⟨B, o, none⟩), .func (.func g) #[] captured.toArray] 0 = .pointer (some ⟨B, o, none⟩) := rfl
  have a1 : args0 [.pointer (some ⟨B, o, none⟩), .func (.func g) #[] captured.toArray] 1 = .func (.func g) #[] captured.toArray := rfl
  generalize args0 [.pointer (some ⟨B, o, none⟩), .func (.func g) #[] captured.toArray] = σ0 at a0 a1 ⊢
  rw [wpC_seq, wpC_seq, wpC_blk]
  refine wpR_step (v := .pointer (some ⟨B, o, none⟩)) (congrArg some a0) ?_
  refine wpR_step (v := .pointer (some ⟨B, o, none⟩)) (by simp only [RK.val?, ev, updo, upd, if_true]) ?_
  refine wpR_step (v := .pointer (some ⟨B, o, none⟩)) (by simp only [RK.val?, ev, updo, upd, if_true, Addr.add_mk, Nat.add_zero]) ?_
  refine wpR_step (v := v) (by simp only [RK.val?, ev, updo, upd, if_true, hc]) ?_
  have hml : ∀ (σ : Sl) (x : Nat) (K : Value → World → Prop), σ x = v → K (.int .i64 m.length) w → (RK.mlen (.tmp x)).run P σ w K := by
    intro σ x K hx hK
    rcases hM with ⟨rfl, rfl⟩ | ⟨r, rfl, hM⟩
    · simp only [RK.run, ev, hx]; exact hK
    · obtain ⟨es, clock, he1, he2, -, -⟩ := hM.ex
      have hl := he2.len
      simp only [RK.run, ev, hx, he1]
      have : es.size = m.length := by simpa using hl
      rw [this]; exact hK
  refine wpR_run ?_
  refine hml _ 11 _ (by simp only [updo, upd, if_true]) ?_
  refine wpR_step (v := .bool (decide (m.length = 0))) (by
    simp only [RK.val?, ev, updo, upd, if_true, isShift, decide_true, Bool.or_true, intBin]
    congr 2
    by_cases hz : m.length = 0 <;> simp [hz]) ?_
  refine wpR_done ?_
  by_cases hz : m.length = 0
  · rw [wpC_cond_t (by simp only [ev, updo, upd, if_true, hz, decide_true])]
    have : m = [] := List.length_eq_zero_iff.1 hz
    subst this
    simp only [wpC, thenC, postC, rvals, List.mapM_nil, Option.pure_def, tup]
    exact ⟨trivial, w, Mod.refl _ _, hI w (Mod.refl _ _), Mod.refl _ _⟩
  rw [wpC_cond_f (by simp only [ev, updo, upd, if_true, hz, decide_false]), wpC_skip]
  simp only [thenC]
  obtain ⟨r, rfl, hMr⟩ : ∃ r, v = .map (some r) ∧ MapRep okv w r m := by
    rcases hM with ⟨-, rfl⟩ | h
    · simp at hz
    · exact h
  clear hM
  have hM := hMr
  clear hMr
  obtain ⟨es, clock, he1, he2, he3, he4⟩ := hM.ex
  have hesl : es.size = m.length := by have := he2.len; simpa using this
  have hBl : B < w.heap.size := World.block_lt_of_cell? w ⟨B, o, none⟩ hc
  have hrl := hM.lt
  rw [wpC_seq, wpC_blk]
  refine wpR_step (v := .pointer (some ⟨B, o, none⟩)) (by simp only [RK.val?, ev, updo, upd]; simp [a0]) ?_
  refine wpR_step (v := .pointer (some ⟨B, o, none⟩)) (by simp only [RK.val?, ev, updo, upd, if_true]) ?_
  refine wpR_step (v := .pointer (some ⟨B, o, none⟩)) (by simp only [RK.val?, ev, updo, upd, if_true, Addr.add_mk, Nat.add_zero]) ?_
  refine wpR_step (v := .map (some r)) (by simp only [RK.val?, ev, updo, upd, if_true, hc]) ?_
  refine wpR_run ?_
  refine hml _ 17 _ (by simp only [updo, upd, if_true]) ?_
  refine wpR_run ?_
  simp only [RK.run, ev, updo, upd, if_true]
  refine ⟨by omega, by omega, by omega, by omega, ?_⟩
  intro Tn
  simp only [Int.toNat_natCast, Int.toNat_zero]
  have bR := Blk.new w (zrep m.length [.int .u32 0]) Tn
  have m1 : Mod [] w (w.alloc (.cells (zrep m.length [.int .u32 0]).toArray Tn)) := Mod.alloc _ _ _
  have z1 : (w.alloc (.cells (zrep m.length [.int .u32 0]).toArray Tn)).heap.size = w.heap.size + 1 := by simp
  generalize w.alloc (.cells (zrep m.length [.int .u32 0]).toArray Tn) = w1 at bR m1 z1 ⊢
  refine wpR_run ?_
  intro Tn2
  have bS := Blk.new w1 [.slice none 0 0] Tn2
  obtain ⟨k1, k2, k3⟩ := new_put w1 [.slice none 0 0] [.slice (some ⟨w.heap.size, 0, none⟩) 0 m.length] Tn2 rfl (by simp [Value.oneCell'])
  have z2 : (w1.alloc (.cells [Value.slice none 0 0].toArray Tn2)).heap.size = w1.heap.size + 1 := by simp
  generalize w1.alloc (.cells [Value.slice none 0 0].toArray Tn2) = w2 at bS k1 k2 k3 z2 ⊢
  refine wpR_run ?_
  have ec : (Value.slice (some ⟨w.heap.size, 0, none⟩) 0 m.length).cells.toList = [.slice (some ⟨w.heap.size, 0, none⟩) 0 m.length] := rfl
  simp only [RK.run, ev, updo, upd, if_true, show (19 : Nat) ≠ 4 by decide, if_false, ec]
  refine ⟨rfl, k1, ?_⟩
  have z3 : (putCells w2 ⟨w1.heap.size, 0, none⟩ 0 [.slice (some ⟨w.heap.size, 0, none⟩) 0 m.length]).heap.size = w2.heap.size := size_putCells ..
  generalize putCells w2 ⟨w1.heap.size, 0, none⟩ 0 [.slice (some ⟨w.heap.size, 0, none⟩) 0 m.length] = w3 at k2 k3 z3 ⊢
  have m03 : Mod [] w w3 := m1.trans k3
  have bR3 := bR.mod k3 (by simp)
  refine wpR_done ?_
  rw [wpC_seq, wpC_seq, wpC_blk]
  have hc3 : w3.cell? ⟨B, o, none⟩ = some (.map (some r)) := cell_mod hc m03 (by simp)
  have he13 : w3.heap[r]? = some (.map es clock) := by rw [m03.block r hrl (by simp)]; exact he1
  refine wpR_step (v := .pointer (some ⟨B, o, none⟩)) (by simp only [RK.val?, ev, upd]; simp [a0]) ?_
  refine wpR_step (v := .pointer (some ⟨B, o, none⟩)) (by simp only [RK.val?, ev, updo, upd, if_true]) ?_
  refine wpR_step (v := .pointer (some ⟨B, o, none⟩)) (by simp only [RK.val?, ev, updo, upd, if_true, Addr.add_mk, Nat.add_zero]) ?_
  refine wpR_step (v := .map (some r)) (by simp only [RK.val?, ev, updo, upd, if_true, hc3]) ?_
  refine wpR_run ?_
  simp only [RK.run, ev, updo, upd, if_true, he13]
  refine wpR_done ?_
  have m4 : Mod [] w3 (w3.alloc (.mapIter (some r) clock #[] clock)) := Mod.alloc _ _ _
  have hit : (w3.alloc (.mapIter (some r) clock #[] clock)).heap[w3.heap.size]? = some (.mapIter (some r) clock #[] clock) := heap_alloc_new _ _
  have he14 : (w3.alloc (.mapIter (some r) clock #[] clock)).heap[r]? = some (.map es clock) := by rw [m4.block r (by have := m03.size; omega) (by simp)]; exact he13
  have bR4 := bR3.mod m4 (by simp)
  have bS4 := k2.mod m4 (by simp)
  generalize w3.alloc (.mapIter (some r) clock #[] clock) = w4 at m4 hit he14 bR4 bS4 ⊢
  have hzl : (zrep m.length [Value.int .u32 0]).length = m.length := by simp [zrep]
  refine each_loop1 (w0 := w) (it := w3.heap.size) (Bs := w1.heap.size) (B := w.heap.size) (r := r) (n := m.length) (es := es) (clock := clock)
    ⟨by simp [upd], by simp [upd], he14, ⟨#[], hit, ⟨by simp, by simp, by simp⟩⟩, by simpa using bS4, ⟨_, by simpa using bR4, by simpa using hzl⟩, m03.trans m4, by omega, by omega, by omega, ⟨by have := m03.size; omega, by omega, by omega⟩, hesl.symm, m03.size, by omega, Nat.le_refl _⟩
    he2.keys he3 he4 fun σ5 w5 E a5 hK hperm => ?_
  have q0 : σ5 0 = .pointer (some ⟨B, o, none⟩) := by rw [a5 0 (by omega) (by omega)]; simp [upd, a0]
  have q1 : σ5 1 = .func (.func g) #[] captured.toArray := by rw [a5 1 (by omega) (by omega)]; simp [upd, a1]
  simp only [thenC]
  have hEl : E.length = m.length := by rw [hperm.length_eq]; simpa using hesl
  obtain ⟨rest, hrow, hrl2⟩ := hK.row
  have hr0 : rest = [] := List.length_eq_zero_iff.1 (by omega)
  subst hr0
  -- the keys as numbers
  have hEk : (E.map (·.key)).Perm ((m.map (·.1)).map u32v) := by rw [← he2.klist]; exact hperm.map _
  obtain ⟨ks, hks⟩ : ∃ ks : List Nat, E.map (·.key) = ks.map u32v := by
    refine ⟨(E.map (·.key)).map (fun v => match v with | .int _ n => n.toNat | _ => 0), ?_⟩
    rw [List.map_map]
    conv => lhs; rw [← List.map_id (E.map (·.key))]
    apply List.map_congr_left
    intro x hx
    have := hEk.mem_iff.1 hx
    obtain ⟨k, -, rfl⟩ := List.mem_map.1 this
    simp [u32v]
  rw [hks] at hEk
  have hkp : ks.Perm (m.map (·.1)) := map_perm_inj hEk
  have hkl : ks.length = m.length := by have := hkp.length_eq; simpa using this
  have hrow' : Blk w5 w.heap.size (ks.map u32v) := by rw [← hks]; simpa using hrow
  have hcell5 : Blk w5 w1.heap.size [.slice (some ⟨w.heap.size, 0, none⟩) ks.length ks.length] := by rw [hkl]; have := hK.cell; rwa [hEl] at this
  rw [wpC_seq, wpC_blk]
  refine wpR_step (v := .slice (some ⟨w.heap.size, 0, none⟩) ks.length ks.length) (by simp only [RK.val?, ev, hK.s4]; exact hcell5.cell 0) ?_
  refine wpR_step (v := .iface (F tyU32s) (.slice (some ⟨w.heap.size, 0, none⟩) ks.length ks.length)) (by simp only [RK.val?, ev, updo, upd, if_true]) ?_
  refine wpR_step (v := .func (.func (F tEach1)) #[] #[.pointer (some ⟨w1.heap.size, 0, none⟩)]) (by simp only [RK.val?, List.map_cons, List.map_nil, ev, updo, upd]; simp [hK.s4]) ?_
  refine wpR_call (vs := [.iface (F tyU32s) (.slice (some ⟨w.heap.size, 0, none⟩) ks.length ks.length), .func (.func (F tEach1)) #[] #[.pointer (some ⟨w1.heap.size, 0, none⟩)]]) (by simp only [List.map_cons, List.map_nil, ev, updo, upd]; simp)
    (hsort w5 w.heap.size w1.heap.size ks hrow' hcell5 (by omega) (by omega) (fun k hk => he2.lt32 k (hkp.mem_iff.1 hk))) ?_
  rintro e w6 ⟨rfl, ks', hp', hs', hrow6, m6⟩
  refine ⟨_, rfl, ?_⟩
  have hl' : ks'.length = ks.length := hp'.length_eq
  have m06 : Mod [] w w6 := Mod.drop (b := w.heap.size) (S := []) (hK.fr.nil.trans m6) (Nat.le_refl _)
  have hcell6 := hcell5.mod m6 (by simp; omega)
  refine wpR_done ?_
  rw [wpC_seq, wpC_blk]
  refine wpR_step (v := .slice (some ⟨w.heap.size, 0, none⟩) ks.length ks.length) (by
    simp only [RK.val?, ev, updo, upd, show (4 : Nat) ≠ 36 by decide, show (4 : Nat) ≠ 35 by decide, show (4 : Nat) ≠ 34 by decide, show (4 : Nat) ≠ 33 by decide, if_false, hK.s4]
    exact hcell6.cell 0) ?_
  refine wpR_step (v := .int .i64 ks.length) (by simp only [RK.val?, ev, updo, upd, if_true]) ?_
  refine wpR_step (v := .int .i64 0) rfl ?_
  refine wpR_done ?_
  have nS : ∀ {x}, w.heap.size ≤ x → x ∉ S := fun hx hs => by have := hSl _ hs; omega
  have hM2 : MapRep (fun b => okv b ∧ b < w.heap.size) w r m := hM.mod (Mod.refl [] _) (by simp) (by simp) fun b hb hx => ⟨hx, hb⟩
  refine each_loop2 (w0 := w) (wN := w6) (okv := okv) (I := I) (by rw [sortT_eq hM.keys (hp'.trans hkp) hs']; exact hcb) hbody (r := r) (m := m) (ks := ks') (R := w.heap.size) (by simp only [updo, upd]; simp [q0]) (by simp only [updo, upd]; simp [q1]) (by simp only [updo, upd]; simp [hl']) (by simp only [updo, upd]; simp [hl']) (by simp only [updo, upd]; simp) m06 rfl hrow6
    (cell_mod hc m06 (by simp)) (hM.mod m06 (by simp) (by simp) fun _ _ h => h) hB (hr r rfl) (nS (Nat.le_refl _)) hS hmv (fun k hk => hkp.mem_iff.1 (hp'.mem_iff.1 hk)) (by omega) (hI w6 m06) fun σ7 w7 hI7 hm7 => ?_
  simp only [postC, rvals, List.mapM_nil, Option.pure_def, tup]
  refine ⟨trivial, w6, m06, ?_, hm7⟩
  rw [← sortT_eq hM.keys (hp'.trans hkp) hs']; exact hI7
end
end Go.Msk

namespace Go.Msk
open Go.RowKit
set_option maxRecDepth 100000
section
variable {P : Program} {F : Nat → Nat}
theorem wpR_offG {k : RK} {d : Option Nat} {a : Nat} {b : Bool} {r : List RI} {σ : Sl} {w : World} {Q : Sl → World → Prop} (hg : σ a = .bool (!b)) (h : wpR P r (updo σ d undef) w Q) : wpR P (⟨d, k, some (a, b)⟩ :: r) σ w Q := by
  have : gOk (some (a, b)) σ = false := by simp only [gOk, hg]; cases b <;> rfl
  simp only [wpR, RI.wp, this, Bool.false_eq_true, if_false]
  exact h
theorem SlC.pairAt {ok : Nat → Prop} {w : World} {v : Value} {n j : Nat} {css : List (List Value)} {a b : Value} (h : SlC ok w v n css.flatten) (hn : n = css.length) (hsz : ∀ c ∈ css, c.length = 2) (hj : css[j]? = some [a, b]) :
    ∃ p c, v = .slice (some p) n c ∧ j < n ∧ w.cell? ((p.add (j * 2)).add 0) = some a := by
  obtain ⟨base, cap, rfl, h2, h3, h4⟩ := h
  have hjl : j < css.length := by
    rcases Nat.lt_or_ge j css.length with h | h
    · exact h
    · rw [List.getElem?_eq_none h] at hj; simp at hj
  obtain ⟨p, rfl⟩ : ∃ p, base = some p := by
    cases base with
    | some p => exact ⟨p, rfl⟩
    | none => have := h3 rfl; omega
  obtain ⟨k1, k2, k3⟩ := h4 p rfl (by omega)
  refine ⟨p, cap, rfl, by omega, ?_⟩
  have hfl : css.flatten[j * 2]? = some a := by
    have key : ∀ (l : List (List Value)) (j : Nat), (∀ c ∈ l, c.length = 2) → l[j]? = some [a, b] → l.flatten[j * 2]? = some a := by
      intro l
      induction l with
      | nil => intro j _ h; simp at h
      | cons x l ih =>
        intro j hs hj
        cases j with
        | zero => simp at hj; subst hj; rfl
        | succ j =>
          have hx := hs x List.mem_cons_self
          rw [List.flatten_cons, List.getElem?_append_right (by omega), hx, show (j + 1) * 2 - 2 = j * 2 by omega]
          exact ih j (fun c hc => hs c (List.mem_cons_of_mem _ hc)) (by simpa using hj)
    exact key css j hsz hj
  have := k3.2 (j * 2) a hfl
  rw [Addr.add_of k3.1, Addr.add_mk]
  simpa using this
structure Pairs (w : World) (ok : Nat → Prop) (v : Value) (ks : List Nat) (css : List (List Value)) : Prop where
  sl : SlC ok w v css.length css.flatten
  len : ks.length = css.length
  two : ∀ c ∈ css, c.length = 2
  key : ∀ (j k : Nat), ks[j]? = some k → ∃ x, css[j]? = some [u32v k, x]
theorem Pairs.mod {ok : Nat → Prop} {w w' : World} {v : Value} {ks : List Nat} {css : List (List Value)} (h : Pairs w ok v ks css) (hm : Mod [] w w') : Pairs w' ok v ks css :=
  ⟨h.sl.mod hm (by simp) fun _ _ h => h, h.len, h.two, h.key⟩
theorem pairwise_get {l : List Nat} (h : l.Pairwise (· ≤ ·)) {i j a b : Nat} (hi : l[i]? = some a) (hj : l[j]? = some b) (hij : i < j) : a ≤ b := by
  rw [List.pairwise_iff_getElem] at h
  obtain ⟨hi', rfl⟩ := List.getElem?_eq_some_iff.1 hi
  obtain ⟨hj', rfl⟩ := List.getElem?_eq_some_iff.1 hj
  exact h i j hi' hj' hij
theorem sorted_test {w : World} {ok : Nat → Prop} {v : Value} {ks : List Nat} {css : List (List Value)} {i : Nat} {σ : Sl} {Q : Sl → World → Prop} (hp : Pairs w ok v ks css) (hs : ks.Pairwise (· ≤ ·)) (hi : i < ks.length) (hlen : ks.length ≤ 2147483647) (h0 : σ 0 = v) (h3 : σ 3 = .int .i64 i)
    (hQ : ∀ σ', (∀ j, j < 10 → σ' j = σ j) → σ' 25 = .bool false → Q σ' w) :
    wpR P [⟨some 10, .mv (.tmp 3), none⟩, ⟨some 11, .bin .gtr (.tmp 10) (.const (.int .i64 0)), none⟩, ⟨some 12, .mv (.tmp 11), none⟩, ⟨some 13, .mv (.tmp 0), some (12, true)⟩, ⟨some 14, .mv (.tmp 3), some (12, true)⟩, ⟨some 15, .iad (.tmp 13) (.tmp 14) 2, some (12, true)⟩,
      ⟨some 16, .fad (.tmp 15) 0, some (12, true)⟩, ⟨some 17, .ld (.tmp 16), some (12, true)⟩, ⟨some 18, .mv (.tmp 0), some (12, true)⟩, ⟨some 19, .mv (.tmp 3), some (12, true)⟩, ⟨some 20, .bin .sub (.tmp 19) (.const (.int .i64 1)), some (12, true)⟩,
      ⟨some 21, .iad (.tmp 18) (.tmp 20) 2, some (12, true)⟩, ⟨some 22, .fad (.tmp 21) 0, some (12, true)⟩, ⟨some 23, .ld (.tmp 22), some (12, true)⟩, ⟨some 24, .bin .lss (.tmp 17) (.tmp 23), some (12, true)⟩, ⟨some 25, .pick (.tmp 12) (.tmp 24) (.const (.bool false)), none⟩] σ w Q := by
  refine wpR_step (v := .int .i64 i) (congrArg some h3) ?_
  refine wpR_step (v := .bool (decide (0 < i))) (by
    simp only [RK.val?, ev, updo, upd, if_true, isShift, decide_true, Bool.or_true, intBin]
    congr 2; exact decide_eq_decide.2 (by omega)) ?_
  refine wpR_step (v := .bool (decide (0 < i))) (by simp only [RK.val?, ev, updo, upd, if_true]) ?_
  by_cases hi0 : 0 < i
  · obtain ⟨i', rfl⟩ : ∃ i', i = i' + 1 := ⟨i - 1, by omega⟩
    obtain ⟨a, ha⟩ : ∃ a, ks[i' + 1]? = some a := ⟨_, List.getElem?_eq_getElem hi⟩
    obtain ⟨b, hb⟩ : ∃ b, ks[i']? = some b := ⟨_, List.getElem?_eq_getElem (by omega)⟩
    have hle := pairwise_get hs hb ha (by omega)
    obtain ⟨xa, hxa⟩ := hp.key _ _ ha
    obtain ⟨xb, hxb⟩ := hp.key _ _ hb
    obtain ⟨p, c, rfl, hj1, c1⟩ := hp.sl.pairAt rfl hp.two hxa
    obtain ⟨p', c', hv', hj2, c2⟩ := hp.sl.pairAt rfl hp.two hxb
    simp only [Value.slice.injEq, Option.some.injEq] at hv'
    obtain ⟨rfl, -, rfl⟩ := hv'
    have g : ∀ (σ : Sl), σ 12 = .bool (decide (0 < i' + 1)) → σ 12 = .bool true := fun σ h => by rw [h]; simp
    have hl := hp.len
    refine wpR_stepG (v := .slice (some p) css.length c) (by simp [updo, upd]) (by simp only [RK.val?, ev, updo, upd]; simp [h0]) ?_
    refine wpR_stepG (v := .int .i64 ((i' + 1 : Nat) : Int)) (by simp [updo, upd]) (by simp only [RK.val?, ev, updo, upd]; simp [h3]) ?_
    refine wpR_stepG (v := .pointer (some (p.add ((i' + 1) * 2)))) (by simp [updo, upd]) (by
      simp only [RK.val?, ev, updo, upd, show (13 : Nat) ≠ 14 by decide, if_false, if_true]
      rw [if_pos (by omega)]; simp) ?_
    refine wpR_stepG (v := .pointer (some ((p.add ((i' + 1) * 2)).add 0))) (by simp [updo, upd]) (by simp only [RK.val?, ev, updo, upd, if_true]) ?_
    refine wpR_stepG (v := u32v a) (by simp [updo, upd]) (by simp only [RK.val?, ev, updo, upd, if_true, c1]) ?_
    refine wpR_stepG (v := .slice (some p) css.length c) (by simp [updo, upd]) (by simp only [RK.val?, ev, updo, upd]; simp [h0]) ?_
    refine wpR_stepG (v := .int .i64 ((i' + 1 : Nat) : Int)) (by simp [updo, upd]) (by simp only [RK.val?, ev, updo, upd]; simp [h3]) ?_
    refine wpR_stepG (v := .int .i64 (i' : Nat)) (by simp [updo, upd]) (by
      simp only [RK.val?, ev, updo, upd, if_true, isShift, decide_true, Bool.or_true, intBin]
      have e1 : ((i' + 1 : Nat) : Int) - 1 = (i' : Nat) := by omega
      rw [e1, i64_small (by omega) (by omega)]) ?_
    refine wpR_stepG (v := .pointer (some (p.add (i' * 2)))) (by simp [updo, upd]) (by
      simp only [RK.val?, ev, updo, upd, show (18 : Nat) ≠ 20 by decide, show (18 : Nat) ≠ 19 by decide, if_false, if_true]
      rw [if_pos (by omega)]; simp) ?_
    refine wpR_stepG (v := .pointer (some ((p.add (i' * 2)).add 0))) (by simp [updo, upd]) (by simp only [RK.val?, ev, updo, upd, if_true]) ?_
    refine wpR_stepG (v := u32v b) (by simp [updo, upd]) (by simp only [RK.val?, ev, updo, upd, if_true, c2]) ?_
    refine wpR_stepG (v := .bool false) (by simp [updo, upd]) (by
      simp only [RK.val?, ev, updo, upd, show (17 : Nat) ≠ 23 by decide, show (17 : Nat) ≠ 22 by decide, show (17 : Nat) ≠ 21 by decide, show (17 : Nat) ≠ 20 by decide, show (17 : Nat) ≠ 19 by decide, show (17 : Nat) ≠ 18 by decide, if_false, if_true, u32v, isShift, decide_true, Bool.or_true, intBin]
      congr 2; simp; omega) ?_
    refine wpR_step (v := .bool false) (by simp only [RK.val?, ev, updo, upd]; simp) ?_
    simp only [wpR]
    refine hQ _ (fun j hj => ?_) (by simp only [updo, upd, if_true])
    simp only [updo, upd, show j ≠ 25 by omega, show j ≠ 24 by omega, show j ≠ 23 by omega, show j ≠ 22 by omega, show j ≠ 21 by omega, show j ≠ 20 by omega, show j ≠ 19 by omega, show j ≠ 18 by omega, show j ≠ 17 by omega, show j ≠ 16 by omega, show j ≠ 15 by omega, show j ≠ 14 by omega, show j ≠ 13 by omega, show j ≠ 12 by omega, show j ≠ 11 by omega, show j ≠ 10 by omega, if_false]
  · have hd : decide (0 < i) = false := by simp; omega
    simp only [hd]
    refine wpR_offG (by simp [updo, upd]) ?_
    refine wpR_offG (by simp [updo, upd]) ?_
    refine wpR_offG (by simp [updo, upd]) ?_
    refine wpR_offG (by simp [updo, upd]) ?_
    refine wpR_offG (by simp [updo, upd]) ?_
    refine wpR_offG (by simp [updo, upd]) ?_
    refine wpR_offG (by simp [updo, upd]) ?_
    refine wpR_offG (by simp [updo, upd]) ?_
    refine wpR_offG (by simp [updo, upd]) ?_
    refine wpR_offG (by simp [updo, upd]) ?_
    refine wpR_offG (by simp [updo, upd]) ?_
    refine wpR_offG (by simp [updo, upd]) ?_
    refine wpR_step (v := .bool false) (by simp only [RK.val?, ev, updo, upd]; simp) ?_
    simp only [wpR]
    refine hQ _ (fun j hj => ?_) (by simp only [updo, upd, if_true])
    simp only [updo, upd, show j ≠ 25 by omega, show j ≠ 24 by omega, show j ≠ 23 by omega, show j ≠ 22 by omega, show j ≠ 21 by omega, show j ≠ 20 by omega, show j ≠ 19 by omega, show j ≠ 18 by omega, show j ≠ 17 by omega, show j ≠ 16 by omega, show j ≠ 15 by omega, show j ≠ 14 by omega, show j ≠ 13 by omega, show j ≠ 12 by omega, show j ≠ 11 by omega, show j ≠ 10 by omega, if_false]
theorem iSorted_call {w : World} (hm : P.follows .mixedOrders = true) (h : liftF P (F iSorted) = some (ir_iSorted F)) {ok : Nat → Prop} {v : Value} {ks : List Nat} {css : List (List Value)} (hp : Pairs w ok v ks css) (hs : ks.Pairwise (· ≤ ·)) (hlen : ks.length ≤ 2147483647) :
    Calls P (F iSorted) [v].toArray w fun e w' => e = .returned (.tuple #[]) ∧ Mod [] w w' := by
  unfold ir_iSorted at h
  refine call_of h hm (by simp) ?_
  have a0 : args0 [v] 0 = v := rfl
  generalize args0 [v] = σ0 at a0 ⊢
  obtain ⟨base, cap, hv, -⟩ := hp.sl
  have hl := hp.len
  rw [wpC_seq, wpC_blk]
  refine wpR_step (v := v) (congrArg some a0) ?_
  refine wpR_step (v := .int .i64 ks.length) (by simp only [RK.val?, ev, updo, upd, if_true, hv, hl]) ?_
  refine wpR_step (v := .int .i64 0) rfl ?_
  refine wpR_done ?_
  rw [wpC_block, wpC_loop]
  refine ⟨fun σ' w' => ∃ i : Nat, i ≤ ks.length ∧ σ' 0 = v ∧ σ' 5 = .int .i64 ks.length ∧ σ' 6 = .int .i64 i ∧ Mod [] w w', fun σ' _ => match σ' 6 with | .int _ i => ks.length - i.toNat | _ => 0,
    ⟨0, Nat.zero_le _, by simp [updo, upd, a0], by simp [updo, upd], by simp [updo, upd], Mod.refl _ _⟩, ?_⟩
  rintro σ1 w1 ⟨i, hi, s0, s5, s6, hm1⟩
  rw [wpC_seq, wpC_blk]
  refine wpR_step (v := .bool (decide (i < ks.length))) (by
    simp only [RK.val?, ev, s6, s5, isShift, decide_true, Bool.or_true, if_true, intBin]
    congr 2; exact decide_eq_decide.2 (by omega)) ?_
  refine wpR_done ?_
  by_cases hlt : i < ks.length
  · rw [wpC_seq, wpC_cond_t (by simp only [ev, updo, upd, if_true, hlt, decide_true]), wpC_skip]
    simp only [thenC]
    rw [wpC_seq, wpC_block, wpC_seq, wpC_blk]
    refine wpR_step (v := .int .i64 i) (by simp only [RK.val?, ev, updo, upd]; simp [s6]) ?_
    refine wpR_step (v := .int .i64 i) (by simp only [RK.val?, ev, updo, upd, if_true]) ?_
    refine wpR_done ?_
    rw [wpC_seq, wpC_blk]
    refine wpR_step (v := .int .i64 i) (by simp only [RK.val?, ev, updo, upd, if_true]) ?_
    refine wpR_step (v := .int .i64 i) (by simp only [RK.val?, ev, updo, upd, if_true]) ?_
    refine wpR_done ?_
    rw [wpC_block, wpC_loop]
    refine ⟨fun σ' w' => σ' 0 = v ∧ σ' 3 = .int .i64 i ∧ σ' 5 = .int .i64 ks.length ∧ σ' 6 = .int .i64 i ∧ Mod [] w w', fun _ _ => 0, ⟨by simp [updo, upd, s0], by simp [updo, upd], by simp [updo, upd, s5], by simp [updo, upd, s6], hm1⟩, ?_⟩
    rintro σ2 w2 ⟨t0, t3, t5, t6, hm2⟩
    rw [wpC_seq, wpC_seq]
    refine wpD_pure rfl ?_
    have hm2d : Mod [] w w2.drew := hm2.trans (Mod.drew _ _)
    simp only [List.map_cons, List.map_nil, List.append_nil]
    refine sorted_test (hp.mod hm2d) hs hlt hlen t0 t3 fun σ3 a3 f3 => ?_
    simp only [thenC]
    rw [wpC_cond_f (by simp only [ev, f3])]
    simp only [wpC, thenC, inBlockC, if_true]
    have u6 : σ3 6 = .int .i64 i := by rw [a3 6 (by omega)]; exact t6
    refine wpR_step (v := .int .i64 ((i + 1 : Nat) : Int)) (by
      simp only [RK.val?, ev, u6, isShift, decide_true, Bool.or_true, if_true, intBin]
      have e1 : (i : Int) + 1 = ((i + 1 : Nat) : Int) := by omega
      rw [e1, i64_small (by omega) (by omega)]) ?_
    refine wpR_step (v := .int .i64 ((i + 1 : Nat) : Int)) (by simp only [RK.val?, ev, updo, upd, if_true]) ?_
    simp only [wpR]
    refine ⟨⟨i + 1, by omega, by simp [updo, upd, a3, t0], by simp [updo, upd, a3, t5], by simp only [updo, upd, if_true], hm2d⟩, ?_⟩
    simp only [updo, upd, if_true, s6]; omega
  · rw [wpC_seq, wpC_cond_f (by simp only [ev, updo, upd, if_true, hlt, decide_false])]
    refine wpC_exit_out ?_
    simp only [postC, rvals, List.mapM_nil, Option.pure_def, tup]
    exact ⟨trivial, hm1⟩
end
end Go.Msk

namespace Go.Msk
open Go.RowKit
def ir_iOctetsTree (_F : Nat → Nat) : IC × List RV × Nat := (.seq (.blk [⟨some 2, .alloc [.int .i64 0, .slice none 0 0, .bool false, .slice none 0 0, .slice none 0 0], none⟩])
 (.seq (.blk [⟨some 3, .mv (.tmp 0), none⟩,
 ⟨some 4, .append (.const (.slice none 0 0)) (.tmp 3) 1 1, none⟩,
 ⟨some 5, .mv (.tmp 0), none⟩,
 ⟨some 6, .isnil .sl false (.tmp 5), none⟩,
 ⟨some 7, .build [.int .i64 0, .slice none 0 0, .bool false, .slice none 0 0, .slice none 0 0] [(1, 1, .tmp 4), (2, 1, .tmp 6)], none⟩,
 ⟨none, .st (.tmp 2) 5 (.tmp 7), none⟩])
 (.ret)),
 [.cells 2 5], 8)
def ir_iTextTree (_F : Nat → Nat) : IC × List RV × Nat := (.seq (.blk [⟨some 2, .alloc [.int .i64 0, .slice none 0 0, .bool false, .slice none 0 0, .slice none 0 0], none⟩])
 (.seq (.seq (.blk [⟨some 3, .mv (.tmp 0), none⟩,
 ⟨some 4, .isnil .pt false (.tmp 3), none⟩])
 (.cond (.tmp 4)
 (.seq (.blk [⟨some 5, .build [.int .i64 0, .slice none 0 0, .bool false, .slice none 0 0, .slice none 0 0] [(2, 1, .const (.bool true))], none⟩,
 ⟨none, .st (.tmp 2) 5 (.tmp 5), none⟩])
 (.ret))
 (.skip)))
 (.seq (.blk [⟨some 6, .mv (.tmp 0), none⟩,
 ⟨some 7, .nilc (.tmp 6), none⟩,
 ⟨some 8, .ld (.tmp 7), none⟩,
 ⟨some 9, .s2b (.tmp 8), none⟩,
 ⟨some 10, .build [.int .i64 0, .slice none 0 0, .bool false, .slice none 0 0, .slice none 0 0] [(1, 1, .tmp 9)], none⟩,
 ⟨none, .st (.tmp 2) 5 (.tmp 10), none⟩])
 (.ret))),
 [.cells 2 5], 11)
def ir_lGot (F : Nat → Nat) : IC × List RV × Nat := (.seq (.blk [⟨some 1, .box (.tmp 0), none⟩,
 ⟨some 2, .alloc [.int .i64 0, .slice none 0 0, .bool false, .slice none 0 0, .slice none 0 0], none⟩])
 (.seq (.blk [⟨some 8, .fad (.tmp 1) 0, none⟩,
 ⟨some 9, .ld (.tmp 8), none⟩,
 ⟨some 10, .fad (.tmp 1) 1, none⟩,
 ⟨some 11, .ld (.tmp 10), none⟩,
 ⟨some 12, .fad (.tmp 1) 2, none⟩,
 ⟨some 13, .ld (.tmp 12), none⟩,
 ⟨some 14, .build [.int .i64 0, .slice none 0 0, .bool false, .slice none 0 0, .slice none 0 0] [(0, 1, .tmp 9), (1, 1, .tmp 11), (2, 1, .tmp 13)], none⟩,
 ⟨some 3, .alloc [.int .i64 0, .slice none 0 0, .bool false, .slice none 0 0, .slice none 0 0], none⟩,
 ⟨none, .st (.tmp 3) 5 (.tmp 14), none⟩])
 (.seq (.seq (.blk [⟨some 15, .fad (.tmp 1) 3, none⟩,
 ⟨some 16, .ld (.tmp 15), none⟩,
 ⟨some 17, .len (.tmp 16), none⟩,
 ⟨some 18, .mv (.const (.int .i64 0)), none⟩])
 (.block 0 (.loop (.seq (.blk [⟨some 19, .bin .lss (.tmp 18) (.tmp 17), none⟩])
 (.seq (.cond (.tmp 19)
 (.skip)
 (.exit 0))
 (.seq (.block 1 (.seq (.blk [⟨some 20, .iad (.tmp 16) (.tmp 18) 5, none⟩,
 ⟨some 21, .ldn (.tmp 20) 5, none⟩,
 ⟨some 5, .alloc [.int .i64 0, .slice none 0 0, .bool false, .slice none 0 0, .slice none 0 0], none⟩,
 ⟨none, .st (.tmp 5) 5 (.tmp 21), none⟩])
 (.drw [⟨⟨some 22, .fad (.tmp 3) 3, none⟩, false, []⟩,
 ⟨⟨some 23, .ld (.tmp 22), none⟩, false, []⟩,
 ⟨⟨some 24, .ldn (.tmp 5) 5, none⟩, false, []⟩,
 ⟨⟨some 25, .call (F lGot) [.tmp 24], none⟩, true, []⟩,
 ⟨⟨some 26, .bslice 1 [.int .i64 0, .slice none 0 0, .bool false, .slice none 0 0, .slice none 0 0] [(0, 5, .tmp 25)], none⟩, true, [3]⟩]
 [⟨some 27, .append (.tmp 23) (.tmp 26) 5 88, none⟩,
 ⟨some 28, .fad (.tmp 3) 3, none⟩,
 ⟨none, .st (.tmp 28) 1 (.tmp 27), none⟩])))
 (.blk [⟨some 29, .bin .add (.tmp 18) (.const (.int .i64 1)), none⟩,
 ⟨some 18, .mv (.tmp 29), none⟩])))))))
 (.seq (.seq (.blk [⟨some 30, .fad (.tmp 1) 4, none⟩,
 ⟨some 31, .ld (.tmp 30), none⟩,
 ⟨some 32, .len (.tmp 31), none⟩,
 ⟨some 33, .mv (.const (.int .i64 0)), none⟩])
 (.block 2 (.loop (.seq (.blk [⟨some 34, .bin .lss (.tmp 33) (.tmp 32), none⟩])
 (.seq (.cond (.tmp 34)
 (.skip)
 (.exit 2))
 (.seq (.block 3 (.seq (.blk [⟨some 35, .iad (.tmp 31) (.tmp 33) 2, none⟩,
 ⟨some 36, .ldn (.tmp 35) 2, none⟩,
 ⟨some 7, .alloc [.int .u32 0, .slice none 0 0], none⟩,
 ⟨none, .st (.tmp 7) 2 (.tmp 36), none⟩])
 (.blk [⟨some 37, .fad (.tmp 3) 4, none⟩,
 ⟨some 38, .ld (.tmp 37), none⟩,
 ⟨some 39, .fad (.tmp 7) 0, none⟩,
 ⟨some 40, .ld (.tmp 39), none⟩,
 ⟨some 41, .fad (.tmp 7) 1, none⟩,
 ⟨some 42, .ld (.tmp 41), none⟩,
 ⟨some 43, .build [.int .u32 0, .slice none 0 0] [(0, 1, .tmp 40), (1, 1, .tmp 42)], none⟩,
 ⟨some 44, .bslice 1 [.int .u32 0, .slice none 0 0] [(0, 2, .tmp 43)], none⟩,
 ⟨some 45, .append (.tmp 38) (.tmp 44) 2 32, none⟩,
 ⟨some 46, .fad (.tmp 3) 4, none⟩,
 ⟨none, .st (.tmp 46) 1 (.tmp 45), none⟩])))
 (.blk [⟨some 47, .bin .add (.tmp 33) (.const (.int .i64 1)), none⟩,
 ⟨some 33, .mv (.tmp 47), none⟩])))))))
 (.seq (.blk [⟨some 48, .ldn (.tmp 3) 5, none⟩,
 ⟨none, .st (.tmp 2) 5 (.tmp 48), none⟩])
 (.ret))))),
 [.cells 2 5], 49)
def ir_sSameTree (F : Nat → Nat) : IC × List RV × Nat := (.seq (.blk [⟨some 2, .box (.tmp 0), none⟩,
 ⟨some 3, .box (.tmp 1), none⟩,
 ⟨some 4, .mv (.const (.bool false)), none⟩])
 (.seq (.seq (.blk [⟨some 7, .fad (.tmp 2) 0, none⟩,
 ⟨some 8, .ld (.tmp 7), none⟩,
 ⟨some 9, .fad (.tmp 3) 0, none⟩,
 ⟨some 10, .ld (.tmp 9), none⟩,
 ⟨some 11, .bin .neq (.tmp 8) (.tmp 10), none⟩,
 ⟨some 12, .mv (.tmp 11), none⟩,
 ⟨some 13, .fad (.tmp 2) 2, some (12, false)⟩,
 ⟨some 14, .ld (.tmp 13), some (12, false)⟩,
 ⟨some 15, .fad (.tmp 3) 2, some (12, false)⟩,
 ⟨some 16, .ld (.tmp 15), some (12, false)⟩,
 ⟨some 17, .beq true (.tmp 14) (.tmp 16), some (12, false)⟩,
 ⟨some 18, .pick (.tmp 12) (.const (.bool true)) (.tmp 17), none⟩,
 ⟨some 19, .mv (.tmp 18), none⟩,
 ⟨some 20, .fad (.tmp 2) 1, some (19, false)⟩,
 ⟨some 21, .ld (.tmp 20), some (19, false)⟩,
 ⟨some 22, .fad (.tmp 3) 1, some (19, false)⟩,
 ⟨some 23, .ld (.tmp 22), some (19, false)⟩,
 ⟨some 24, .call (F sSame) [.tmp 21, .tmp 23], some (19, false)⟩,
 ⟨some 25, .lnot (.tmp 24), some (19, false)⟩,
 ⟨some 26, .pick (.tmp 19) (.const (.bool true)) (.tmp 25), none⟩,
 ⟨some 27, .mv (.tmp 26), none⟩,
 ⟨some 28, .fad (.tmp 2) 3, some (27, false)⟩,
 ⟨some 29, .ld (.tmp 28), some (27, false)⟩,
 ⟨some 30, .len (.tmp 29), some (27, false)⟩,
 ⟨some 31, .fad (.tmp 3) 3, some (27, false)⟩,
 ⟨some 32, .ld (.tmp 31), some (27, false)⟩,
 ⟨some 33, .len (.tmp 32), some (27, false)⟩,
 ⟨some 34, .bin .neq (.tmp 30) (.tmp 33), some (27, false)⟩,
 ⟨some 35, .pick (.tmp 27) (.const (.bool true)) (.tmp 34), none⟩,
 ⟨some 36, .mv (.tmp 35), none⟩,
 ⟨some 37, .fad (.tmp 2) 4, some (36, false)⟩,
 ⟨some 38, .ld (.tmp 37), some (36, false)⟩,
 ⟨some 39, .len (.tmp 38), some (36, false)⟩,
 ⟨some 40, .fad (.tmp 3) 4, some (36, false)⟩,
 ⟨some 41, .ld (.tmp 40), some (36, false)⟩,
 ⟨some 42, .len (.tmp 41), some (36, false)⟩,
 ⟨some 43, .bin .neq (.tmp 39) (.tmp 42), some (36, false)⟩,
 ⟨some 44, .pick (.tmp 36) (.const (.bool true)) (.tmp 43), none⟩])
 (.cond (.tmp 44)
 (.seq (.blk [⟨some 4, .mv (.const (.bool false)), none⟩])
 (.ret))
 (.skip)))
 (.seq (.seq (.blk [⟨some 45, .fad (.tmp 2) 3, none⟩,
 ⟨some 46, .ld (.tmp 45), none⟩,
 ⟨some 47, .len (.tmp 46), none⟩,
 ⟨some 48, .mv (.const (.int .i64 0)), none⟩])
 (.block 0 (.loop (.seq (.blk [⟨some 49, .bin .lss (.tmp 48) (.tmp 47), none⟩])
 (.seq (.cond (.tmp 49)
 (.skip)
 (.exit 0))
 (.seq (.block 1 (.seq (.blk [⟨some 50, .mv (.tmp 48), none⟩,
 ⟨some 5, .mv (.tmp 50), none⟩])
 (.seq (.drw [⟨⟨some 51, .fad (.tmp 2) 3, none⟩, false, []⟩,
 ⟨⟨some 52, .ld (.tmp 51), none⟩, false, []⟩,
 ⟨⟨some 53, .mv (.tmp 5), none⟩, false, []⟩,
 ⟨⟨some 54, .iad (.tmp 52) (.tmp 53) 5, none⟩, false, []⟩,
 ⟨⟨some 55, .ldn (.tmp 54) 5, none⟩, false, []⟩,
 ⟨⟨some 56, .fad (.tmp 3) 3, none⟩, false, []⟩,
 ⟨⟨some 57, .ld (.tmp 56), none⟩, false, []⟩,
 ⟨⟨some 58, .mv (.tmp 5), none⟩, false, []⟩,
 ⟨⟨some 59, .iad (.tmp 57) (.tmp 58) 5, none⟩, false, []⟩,
 ⟨⟨some 60, .ldn (.tmp 59) 5, none⟩, false, []⟩,
 ⟨⟨some 61, .call (F sSameTree) [.tmp 55, .tmp 60], none⟩, true, []⟩,
 ⟨⟨some 62, .lnot (.tmp 61), none⟩, false, [10]⟩]
 [])
 (.cond (.tmp 62)
 (.seq (.blk [⟨some 4, .mv (.const (.bool false)), none⟩])
 (.ret))
 (.skip)))))
 (.blk [⟨some 63, .bin .add (.tmp 48) (.const (.int .i64 1)), none⟩,
 ⟨some 48, .mv (.tmp 63), none⟩])))))))
 (.seq (.seq (.blk [⟨some 64, .fad (.tmp 2) 4, none⟩,
 ⟨some 65, .ld (.tmp 64), none⟩,
 ⟨some 66, .len (.tmp 65), none⟩,
 ⟨some 67, .mv (.const (.int .i64 0)), none⟩])
 (.block 2 (.loop (.seq (.blk [⟨some 68, .bin .lss (.tmp 67) (.tmp 66), none⟩])
 (.seq (.cond (.tmp 68)
 (.skip)
 (.exit 2))
 (.seq (.block 3 (.seq (.blk [⟨some 69, .mv (.tmp 67), none⟩,
 ⟨some 6, .mv (.tmp 69), none⟩])
 (.seq (.drw [⟨⟨some 70, .fad (.tmp 2) 4, none⟩, false, []⟩,
 ⟨⟨some 71, .ld (.tmp 70), none⟩, false, []⟩,
 ⟨⟨some 72, .mv (.tmp 6), none⟩, false, []⟩,
 ⟨⟨some 73, .iad (.tmp 71) (.tmp 72) 2, none⟩, false, []⟩,
 ⟨⟨some 74, .fad (.tmp 73) 0, none⟩, false, []⟩,
 ⟨⟨some 75, .ld (.tmp 74), none⟩, false, []⟩,
 ⟨⟨some 76, .fad (.tmp 3) 4, none⟩, false, []⟩,
 ⟨⟨some 77, .ld (.tmp 76), none⟩, false, []⟩,
 ⟨⟨some 78, .mv (.tmp 6), none⟩, false, []⟩,
 ⟨⟨some 79, .iad (.tmp 77) (.tmp 78) 2, none⟩, false, []⟩,
 ⟨⟨some 80, .fad (.tmp 79) 0, none⟩, false, []⟩,
 ⟨⟨some 81, .ld (.tmp 80), none⟩, false, []⟩,
 ⟨⟨some 82, .bin .neq (.tmp 75) (.tmp 81), none⟩, false, []⟩,
 ⟨⟨some 83, .mv (.tmp 82), none⟩, false, []⟩,
 ⟨⟨some 84, .fad (.tmp 2) 4, some (83, false)⟩, false, []⟩,
 ⟨⟨some 85, .ld (.tmp 84), some (83, false)⟩, false, []⟩,
 ⟨⟨some 86, .mv (.tmp 6), some (83, false)⟩, false, []⟩,
 ⟨⟨some 87, .iad (.tmp 85) (.tmp 86) 2, some (83, false)⟩, false, []⟩,
 ⟨⟨some 88, .fad (.tmp 87) 1, some (83, false)⟩, false, []⟩,
 ⟨⟨some 89, .ld (.tmp 88), some (83, false)⟩, false, []⟩,
 ⟨⟨some 90, .fad (.tmp 3) 4, some (83, false)⟩, false, []⟩,
 ⟨⟨some 91, .ld (.tmp 90), some (83, false)⟩, false, []⟩,
 ⟨⟨some 92, .mv (.tmp 6), some (83, false)⟩, false, []⟩,
 ⟨⟨some 93, .iad (.tmp 91) (.tmp 92) 2, some (83, false)⟩, false, []⟩,
 ⟨⟨some 94, .fad (.tmp 93) 1, some (83, false)⟩, false, []⟩,
 ⟨⟨some 95, .ld (.tmp 94), some (83, false)⟩, false, []⟩,
 ⟨⟨some 96, .call (F sSame) [.tmp 89, .tmp 95], some (83, false)⟩, true, []⟩,
 ⟨⟨some 97, .lnot (.tmp 96), some (83, false)⟩, false, [26]⟩,
 ⟨⟨some 98, .pick (.tmp 83) (.const (.bool true)) (.tmp 97), none⟩, false, [26]⟩]
 [])
 (.cond (.tmp 98)
 (.seq (.blk [⟨some 4, .mv (.const (.bool false)), none⟩])
 (.ret))
 (.skip)))))
 (.blk [⟨some 99, .bin .add (.tmp 67) (.const (.int .i64 1)), none⟩,
 ⟨some 67, .mv (.tmp 99), none⟩])))))))
 (.seq (.blk [⟨some 4, .mv (.const (.bool true)), none⟩])
 (.ret))))),
 [.tmp 4], 100)
def ir_sSame (_F : Nat → Nat) : IC × List RV × Nat := (.seq (.blk [⟨some 4, .mv (.const (.bool false)), none⟩])
 (.seq (.seq (.blk [⟨some 6, .mv (.tmp 0), none⟩,
 ⟨some 7, .len (.tmp 6), none⟩,
 ⟨some 8, .mv (.tmp 1), none⟩,
 ⟨some 9, .len (.tmp 8), none⟩,
 ⟨some 10, .bin .neq (.tmp 7) (.tmp 9), none⟩])
 (.cond (.tmp 10)
 (.seq (.blk [⟨some 4, .mv (.const (.bool false)), none⟩])
 (.ret))
 (.skip)))
 (.seq (.seq (.blk [⟨some 11, .mv (.tmp 0), none⟩,
 ⟨some 12, .len (.tmp 11), none⟩,
 ⟨some 13, .mv (.const (.int .i64 0)), none⟩])
 (.block 0 (.loop (.seq (.blk [⟨some 14, .bin .lss (.tmp 13) (.tmp 12), none⟩])
 (.seq (.cond (.tmp 14)
 (.skip)
 (.exit 0))
 (.seq (.block 1 (.seq (.blk [⟨some 15, .mv (.tmp 13), none⟩,
 ⟨some 5, .mv (.tmp 15), none⟩])
 (.seq (.drw [⟨⟨some 16, .mv (.tmp 0), none⟩, false, []⟩,
 ⟨⟨some 17, .mv (.tmp 5), none⟩, false, []⟩,
 ⟨⟨some 18, .iad (.tmp 16) (.tmp 17) 1, none⟩, false, []⟩,
 ⟨⟨some 19, .ld (.tmp 18), none⟩, false, []⟩,
 ⟨⟨some 20, .mv (.tmp 1), none⟩, false, []⟩,
 ⟨⟨some 21, .mv (.tmp 5), none⟩, false, []⟩,
 ⟨⟨some 22, .iad (.tmp 20) (.tmp 21) 1, none⟩, false, []⟩,
 ⟨⟨some 23, .ld (.tmp 22), none⟩, false, []⟩,
 ⟨⟨some 24, .bin .neq (.tmp 19) (.tmp 23), none⟩, false, []⟩]
 [])
 (.cond (.tmp 24)
 (.seq (.blk [⟨some 4, .mv (.const (.bool false)), none⟩])
 (.ret))
 (.skip)))))
 (.blk [⟨some 25, .bin .add (.tmp 13) (.const (.int .i64 1)), none⟩,
 ⟨some 13, .mv (.tmp 25), none⟩])))))))
 (.seq (.blk [⟨some 4, .mv (.const (.bool true)), none⟩])
 (.ret)))),
 [.tmp 4], 26)
end Go.Msk
