/- A small language of resolved operations, and what the generic and the generated functions do in it (part 11). -/
import Derived.Test.YtolcohnlcakchaaDoorFj

namespace Go.Msk
open Go.RowKit
set_option maxRecDepth 100000
section
variable {P : Program}
theorem appendNil_bytes {σ : Sl} {w : World} {x : Operand} {v : Value} {l : List UInt8} {ok : Nat → Prop} {K : Value → World → Prop} (hx : ev σ x = v) (hv : SlC ok w v l.length (u8s l)) (hl : l.length ≤ 2147483647)
    (hK : ∀ base cap w', IsBytes w' base l.length cap l → base.isNone = l.isEmpty → (∀ a, base = some a → w.heap.size ≤ a.block ∧ a.block < w'.heap.size) → Mod [] w w' → K (.slice base l.length cap) w') : (RK.append (.const (.slice none 0 0)) x 1 1).run P σ w K := by
  obtain ⟨base, cap, rfl, hcap, hb0, hb⟩ := hv
  have hsrc : srcCells w 1 (.slice base l.length cap) = some (l.length, u8s l) := by
    cases base with
    | none => have := hb0 rfl; have : l = [] := List.length_eq_zero_iff.1 (by omega); subst this; simp [srcCells, u8s]
    | some a =>
      by_cases hc0 : 0 < cap
      · obtain ⟨h1, h2, h3⟩ := hb a rfl hc0
        simp only [srcCells, Nat.mul_one]
        rw [cellsAt_of' h3 (u8s_length l)]; rfl
      · have : l = [] := List.length_eq_zero_iff.1 (by omega)
        subst this; simp [srcCells, cellsAt, u8s]
  have e1 : ev σ (.const (.slice none 0 0)) = .slice none 0 0 := rfl
  simp only [RK.run, e1, hx, hsrc, appendRun]
  by_cases h0 : l.length = 0
  · have : l = [] := List.length_eq_zero_iff.1 h0
    subst this
    simp only [List.length_nil, Nat.add_zero, Nat.le_refl, if_true]
    exact hK _ _ _ (IsBytes.nil w) rfl (fun a h => by simp at h) (Mod.refl _ _)
  · rw [if_neg (by omega)]
    refine ⟨by omega, by omega, ?_⟩
    intro T cap' rest hc hr
    have hblk := Blk.new w.drew (u8s l ++ rest) T
    have := hK (some ⟨w.heap.size, 0, none⟩) cap' (w.drew.alloc (.cells (u8s l ++ rest).toArray T)) ⟨rfl, by omega, fun h => by simp at h, fun a ha => by
      simp only [Option.some.injEq] at ha; subst ha
      have := hblk.cells.take (u8s l).length
      simpa using this⟩ (by cases l <;> simp at h0 ⊢) (fun a ha => by
      simp only [Option.some.injEq] at ha; subst ha
      exact ⟨Nat.le_refl _, hblk.lt⟩) ((Mod.drew _ _).trans (Mod.alloc _ _ _))
    simpa using this
theorem IsBytes.slc {ok : Nat → Prop} {w : World} {base : Option Addr} {n cap : Nat} {l : List UInt8} (h : IsBytes w base n cap l) (ho : ∀ a, base = some a → ok a.block ∧ a.block < w.heap.size) : SlC ok w (.slice base n cap) l.length (u8s l) :=
  ⟨base, cap, by rw [h.hlen], by rw [← h.hlen]; exact h.hcap, h.hnone, fun a ha _ => ⟨(ho a ha).1, (ho a ha).2, h.hcells a ha⟩⟩
def cbL : List DI :=
  [⟨⟨some 5, .fad (.tmp 2) 4, none⟩, false, []⟩, ⟨⟨some 6, .ld (.tmp 5), none⟩, false, []⟩, ⟨⟨some 7, .mv (.tmp 0), none⟩, false, []⟩, ⟨⟨some 8, .mv (.tmp 1), none⟩, false, []⟩,
   ⟨⟨some 9, .append (.const (.slice none 0 0)) (.tmp 8) 1 1, none⟩, true, []⟩, ⟨⟨some 10, .build uzero [(0, 1, .tmp 7), (1, 1, .tmp 9)], none⟩, false, [4]⟩,
   ⟨⟨some 11, .bslice 1 uzero [(0, 2, .tmp 10)], none⟩, true, [4]⟩, ⟨⟨some 12, .append (.tmp 6) (.tmp 11) 2 32, none⟩, true, [4, 6]⟩, ⟨⟨some 13, .fad (.tmp 2) 4, none⟩, false, [4, 6, 7]⟩]
def cbCode : IC × List RV × Nat := (.drw cbL [⟨none, .st (.tmp 13) 1 (.tmp 12), none⟩], [], 14)
structure TG (w0 w : World) (Tb : Nat) (lv uv : Value) (us : List (Nat × List UInt8)) (ucs : List (List Value)) : Prop where
  tb : Blk w Tb [.int .i64 0, .slice none 0 0, .bool false, lv, uv]
  raw : LRaw2 w w0.heap.size uv ucs
  rep : RepU (fun b => w0.heap.size ≤ b ∧ own uv ≠ some b) w us ucs
  mod : Mod [Tb] w0 w
  ltb : Tb < w0.heap.size
def BU (n0 k : Nat) (l : List UInt8) (v : Value) (w : World) : Prop := ∃ sb v4, v = .slice (some ⟨sb, 0, none⟩) 1 1 ∧ n0 ≤ sb ∧ Blk w sb [.int .u32 k, v4] ∧ SlC (fun b => n0 ≤ b) w v4 l.length (u8s l)
theorem BU.mod {n0 k : Nat} {l : List UInt8} {v : Value} {w w' : World} {S : List Nat} (h : BU n0 k l v w) (hm : Mod S w w') (hS : ∀ b ∈ S, b < n0) : BU n0 k l v w' := by
  obtain ⟨sb, v4, h1, h2, h3, h4⟩ := h
  exact ⟨sb, v4, h1, h2, h3.mod hm (fun hc => by have := hS _ hc; omega), h4.mod hm (fun b hb hc => by have := hS b hb; omega) fun _ _ h => h⟩
theorem LRaw2.mod {w w' : World} {n0 : Nat} {lv : Value} {css : List (List Value)} {S : List Nat} (h : LRaw2 w n0 lv css) (hm : Mod S w w') (hS : ∀ b, own lv = some b → b ∉ S) : LRaw2 w' n0 lv css :=
  ⟨h.two, h.sl.imp id fun ⟨BA, cap, rest, g1, g2, g3, g4, g5⟩ => ⟨BA, cap, rest, g1, g2, g3, g4.mod hm (hS _ (by rw [g1]; rfl)), g5⟩⟩
theorem LRaw2.own {w : World} {n0 : Nat} {lv : Value} {css : List (List Value)} (h : LRaw2 w n0 lv css) {b : Nat} (hb : own lv = some b) : n0 ≤ b ∧ b < w.heap.size := by
  rcases h.sl with ⟨rfl, -⟩ | ⟨BA, cap, rest, rfl, -, h3, h4, -⟩
  · simp [Msk.own] at hb
  · simp only [Msk.own, Option.some.injEq] at hb; subst hb; exact ⟨h3, h4.lt⟩
theorem LRaw2.one {w : World} {n0 : Nat} {lv : Value} {css : List (List Value)} (h : LRaw2 w n0 lv css) : lv.cells = #[lv] ∧ lv.oneCell' = true := by
  rcases h.sl with ⟨rfl, -⟩ | ⟨BA, cap, rest, rfl, -⟩ <;> exact ⟨rfl, rfl⟩
theorem cb_core {f Tb k : Nat} {lv uv v : Value} {us : List (Nat × List UInt8)} {ucs : List (List Value)} {l : List UInt8} {S : List Nat} {okv : Nat → Prop} {wN w : World} {R : World → World → Prop} {App : Value → World → Prop}
    (hm : P.follows .mixedOrders = true) (h : liftF P f = some cbCode) (hg : TG wN w Tb lv uv us ucs) (hv : SlC okv w v l.length (u8s l)) (hl : l.length ≤ 2147483647) (_hk : k < 4294967296)
    (hvS : ∀ b ∈ S, ¬ okv b) (hS : ∀ b ∈ S, own uv = some b)
    (hRr : ∀ w, R w w) (hRt : ∀ u v w, R u v → R v w → R u w) (hRS : ∀ w1 w2, R w1 w2 → Mod S w1 w2) (hR0 : ∀ w1 w2, Mod [] w1 w2 → R w1 w2) (hAst : ∀ v w1 w2, App v w1 → R w1 w2 → App v w2)
    (happ : ∀ (σ : Sl) (x y : Operand) (w1 : World), R w.drew w1 → ev σ x = uv → BU w.heap.size k l (ev σ y) w1 → (RK.append x y 2 32).run P σ w1 fun v w' => R w1 w' ∧ App v w')
    (hfin : ∀ w1 v, R w.drew w1 → App v w1 → ∃ cs, LRaw2 w1 wN.heap.size v (ucs ++ [cs]) ∧ (∀ b, own v = some b → own uv = some b ∨ w.heap.size ≤ b) ∧ RepU (fun b => wN.heap.size ≤ b ∧ own v ≠ some b) w1 (us ++ [(k, l)]) (ucs ++ [cs])) :
    Calls P f [u32v k, v, .pointer (some ⟨Tb, 0, none⟩)].toArray w fun e w' => e = .returned (.tuple #[]) ∧ (∃ uv' ucs', TG wN w' Tb lv uv' (us ++ [(k, l)]) ucs') ∧ Mod [Tb] wN w' := by
  unfold cbCode at h
  refine call_of h hm (by simp) ?_
  have a0 : args0 [u32v k, v, .pointer (some ⟨Tb, 0, none⟩)] 0 = u32v k := rfl
  have a1 : args0 [u32v k, v, .pointer (some ⟨Tb, 0, none⟩)] 1 = v := rfl
  have a2 : args0 [u32v k, v, .pointer (some ⟨Tb, 0, none⟩)] 2 = .pointer (some ⟨Tb, 0, none⟩) := rfl
  generalize args0 [u32v k, v, .pointer (some ⟨Tb, 0, none⟩)] = σ at a0 a1 a2 ⊢
  have hown : ∀ b ∈ S, wN.heap.size ≤ b ∧ b < w.heap.size := fun b hb => hg.raw.own (hS b hb)
  have hltb := hg.ltb
  have nT : Tb ∉ S := fun hx => by have := hown _ hx; omega
  have htb : ∀ w1, R w.drew w1 → Blk w1 Tb [.int .i64 0, .slice none 0 0, .bool false, lv, uv] := fun w1 hm => (hg.tb.of_heap (w' := w.drew) rfl).mod (hRS _ _ hm) nT
  have hsz : ∀ w1, R w.drew w1 → w.heap.size ≤ w1.heap.size := fun w1 hm => (hRS _ _ hm).size
  show wpD P cbL _ σ w.drew _
  refine ⟨R, fun j v w1 => if j = 4 then SlC (fun b => w.heap.size ≤ b) w1 v l.length (u8s l) else if j = 6 then BU w.heap.size k l v w1 else App v w1, NT, hRr, hRt, fun j v w1 w2 h hm => ?_, fun _ => trivial, ?_⟩
  · dsimp only at h ⊢
    split at h
    · rename_i hj; rw [if_pos hj]
      exact h.mod (hRS _ _ hm) (fun b hb hx => by have := hown _ hb; omega) fun _ _ h => h
    · rename_i hj; rw [if_neg hj]
      split at h
      · rename_i hj2; rw [if_pos hj2]; exact h.mod (hRS _ _ hm) fun b hb => (hown b hb).2
      · rename_i hj2; rw [if_neg hj2]; exact hAst _ _ _ h hm
  generalize hΦ : (fun (j : Nat) (v : Value) (w1 : World) => if j = 4 then SlC (fun b => w.heap.size ≤ b) w1 v l.length (u8s l) else if j = 6 then BU w.heap.size k l v w1 else App v w1) = Φ
  have Φ4 : ∀ v w1, Φ 4 v w1 = SlC (fun b => w.heap.size ≤ b) w1 v l.length (u8s l) := by subst hΦ; intros; rfl
  have Φ6 : ∀ v w1, Φ 6 v w1 = BU w.heap.size k l v w1 := by subst hΦ; intros; rfl
  have Φ7 : ∀ v w1, Φ 7 v w1 = App v w1 := by subst hΦ; intros; rfl
  generalize hE : (fun σ' => ∀ w1, R w.drew w1 → known cbL Φ (List.range cbL.length) σ' w1 → wpR P _ σ' w1 _) = E
  have hend : ∀ σ', σ' 13 = .pointer (some ⟨Tb, 4, none⟩) → E σ' := by
    intro σ' h13; subst hE
    intro w1 hm1 hkn
    have hap := hkn 7 (by simp [cbL]) _ rfl rfl rfl 12 rfl
    rw [Φ7] at hap
    obtain ⟨cs, q1, q2, q3⟩ := hfin w1 _ hm1 hap
    obtain ⟨o1, o2⟩ := q1.one
    have hb := htb w1 hm1
    have hput : Mod [Tb] w1 (putCells w1 ⟨Tb, 4, none⟩ 0 [σ' 12]) := Mod.put (by simp)
    have hp := hb.put (o := 4) (vs := [σ' 12]) (by simp)
    have e1 : splice [Value.int .i64 0, .slice none 0 0, .bool false, lv, uv] 4 [σ' 12] = [.int .i64 0, .slice none 0 0, .bool false, lv, σ' 12] := by simp [splice]
    rw [e1] at hp
    have hge : ∀ b, own (σ' 12) = some b → wN.heap.size ≤ b := fun b hb => (q1.own hb).1
    have m1 : Mod [Tb] wN (putCells w1 ⟨Tb, 4, none⟩ 0 [σ' 12]) := by
      have hm0 : Mod [Tb] wN w.drew := hg.mod.trans (Mod.drew [Tb] w)
      have hmS := hRS _ _ hm1
      refine ⟨hput.os.trans (hmS.os.trans hm0.os), hput.tape.trans (hmS.tape.trans hm0.tape), hput.output.trans (hmS.output.trans hm0.output), Nat.le_trans hm0.size (Nat.le_trans hmS.size hput.size), fun b hb hnb => ?_⟩
      rw [hput.block b (Nat.lt_of_lt_of_le hb (Nat.le_trans hm0.size hmS.size)) hnb, hmS.block b (Nat.lt_of_lt_of_le hb hm0.size) (fun hx => by have := hown _ hx; omega)]
      exact hm0.block b hb hnb
    refine wpR_run ?_
    simp only [RK.run, ev, h13, o1]
    refine ⟨rfl, stOk_one hb (by simp) o2, ?_⟩
    simp only [wpR, postC, rvals, List.mapM_nil, Option.pure_def, tup]
    exact ⟨trivial, ⟨_, _, hp, q1.mod hput (fun b hb => by have := hge b hb; simp; omega), q3.mod hput (fun b hb hc => by simp only [List.mem_singleton] at hb; omega) (fun _ _ h => h), m1, hltb⟩, m1⟩
  unfold cbL
  refine walk_step (v := .pointer (some ⟨Tb, 4, none⟩)) (fun w1 _ => by simp only [RK.val?, ev, a2, Addr.add_mk, Nat.zero_add]) ?_
  refine walk_step (v := uv) (fun w1 hw => by simp only [RK.val?, ev, updo, upd_same]; exact (htb w1 hw).cell 4) ?_
  refine walk_step (v := u32v k) (fun w1 _ => by simp only [RK.val?, ev, updo, upd]; simp [a0]) ?_
  refine walk_step (v := v) (fun w1 _ => by simp only [RK.val?, ev, updo, upd]; simp [a1]) ?_
  refine walk_node (fun w1 hw1 _ => ?_) fun v4 hv4 => ?_
  · refine appendNil_bytes (v := v) (l := l) (ok := okv) (by simp only [ev, updo, upd_same]) ((hv.mod (ok' := okv) (Mod.drew [] w) (by simp) fun _ _ h => h).mod (hRS _ _ hw1) hvS fun _ _ h => h) hl fun base cap w2 hb _ hge hm2 => ⟨hR0 _ _ hm2, ?_⟩
    rw [Φ4]
    exact hb.slc fun a ha => ⟨Nat.le_trans (hsz w1 hw1) (hge a ha).1, (hge a ha).2⟩
  obtain ⟨wv, hv4⟩ := hv4
  rw [Φ4] at hv4
  obtain ⟨b4, c4, rfl, -⟩ := hv4
  refine walk_step (v := .agg #[u32v k, .slice b4 l.length c4]) (fun w1 _ => by
    simp only [RK.val?, List.map_cons, List.map_nil, ev, updo, upd]; simp [uzero, fillL, splice, Value.cells, u32v]) ?_
  refine walk_node (fun w1 hw1 hkn => ?_) fun v6 hv6 => ?_
  · have h4 := hkn 4 (by simp) _ rfl rfl rfl 9 rfl
    rw [Φ4] at h4
    simp only [updo, upd, show (9 : Nat) ≠ 10 by decide, if_false, if_true] at h4
    have hf : fillL (zrep 1 uzero) [(0, 2, Value.agg #[u32v k, .slice b4 l.length c4])] = some [u32v k, .slice b4 l.length c4] := by simp [zrep, uzero, fillL, splice, Value.cells, u32v]
    simp only [RK.run, List.map_cons, List.map_nil, ev, updo, upd_same, hf]
    intro T5
    have hm5 : Mod [] w1 (w1.alloc (.cells [u32v k, .slice b4 l.length c4].toArray T5)) := Mod.alloc _ _ _
    refine ⟨hR0 _ _ hm5, ?_⟩
    rw [Φ6]
    exact ⟨w1.heap.size, _, rfl, hsz w1 hw1, Blk.new _ _ _, h4.mod hm5 (by simp) fun _ _ h => h⟩
  refine walk_node (fun w1 hw1 hkn => ?_) fun v7 hv7 => ?_
  · have h6 := hkn 6 (by simp) _ rfl rfl rfl 11 rfl
    rw [Φ6] at h6
    simp only [updo, upd_same] at h6
    refine run_mono (happ _ (.tmp 6) (.tmp 11) w1 hw1 (by simp only [ev, updo, upd]; simp) (by simpa only [ev, updo, upd_same] using h6)) fun v w2 hh => ⟨hh.1, ?_⟩
    rw [Φ7]; exact hh.2
  refine walk_step (v := .pointer (some ⟨Tb, 4, none⟩)) (fun w1 _ => by simp only [RK.val?, ev, updo, upd]; simp [a2, Addr.add_mk]) ?_
  simp only [walk]
  exact hend _ (by simp only [updo, upd_same])
theorem cb_step {f Tb k : Nat} {lv uv v : Value} {us : List (Nat × List UInt8)} {ucs : List (List Value)} {l : List UInt8} {okv : Nat → Prop} {wN w : World}
    (hm : P.follows .mixedOrders = true) (h : liftF P f = some cbCode) (hg : TG wN w Tb lv uv us ucs) (hv : SlC okv w v l.length (u8s l)) (hl : l.length ≤ 2147483647) (hk : k < 4294967296) (hok : ∀ b, okv b → b < wN.heap.size) (hus : us.length < 2147483647) :
    Calls P f [u32v k, v, .pointer (some ⟨Tb, 0, none⟩)].toArray w fun e w' => e = .returned (.tuple #[]) ∧ (∃ uv' ucs', TG wN w' Tb lv uv' (us ++ [(k, l)]) ucs') ∧ Mod [Tb] wN w' := by
  have hnw : wN.heap.size ≤ w.heap.size := hg.mod.size
  have hul : us.length = ucs.length := hg.rep.length
  have hraw : LRaw2 w.drew wN.heap.size uv ucs := hg.raw.mod (Mod.drew [] w) (by simp)
  have hrep := hg.rep.mod (ok' := fun b => wN.heap.size ≤ b ∧ own uv ≠ some b) (Mod.drew [] w) (by simp) fun _ _ h => h
  have one4 : ∀ {ok : Nat → Prop} {w : World} {v4 : Value}, SlC ok w v4 l.length (u8s l) → ∀ x ∈ [Value.int .u32 k, v4], x.oneCell' = true := fun h x hx => by
    simp only [List.mem_cons, List.not_mem_nil, or_false] at hx
    rcases hx with rfl | rfl
    · rfl
    · exact h.one
  by_cases hin : ∃ BA c, uv = .slice (some ⟨BA, 0, none⟩) ucs.length c ∧ ucs.length + 1 ≤ c
  · obtain ⟨BA, c, rfl, hc1⟩ := hin
    obtain ⟨o1, o2⟩ := hg.raw.own (b := BA) rfl
    generalize hlv2 : Value.slice (some ⟨BA, 0, none⟩) (ucs.length + 1) c = lv2
    let Fin : World → Prop := fun w' => ∃ v4, LRaw2 w' wN.heap.size lv2 (ucs ++ [[.int .u32 k, v4]]) ∧ SlC (fun b => w.heap.size ≤ b) w' v4 l.length (u8s l)
    have finMod : ∀ w1 w2, Fin w1 → Mod [] w1 w2 → Fin w2 := fun w1 w2 ⟨cs, h1, h2⟩ hm => ⟨cs, h1.mod hm (by simp), h2.mod hm (by simp) fun _ _ h => h⟩
    refine cb_core hm h hg hv hl hk (S := [BA]) (R := fun w1 w2 => Mod [] w1 w2 ∨ (Mod [BA] w1 w2 ∧ Fin w2)) (App := fun v w1 => v = lv2 ∧ Fin w1) (fun b hb hx => by simp only [List.mem_singleton] at hb; subst hb; have := hok _ hx; omega)
      (fun b hb => by simp only [List.mem_singleton] at hb; subst hb; rfl) (fun _ => .inl (Mod.refl _ _)) ?_ ?_ (fun _ _ h => .inl h) ?_ ?_ ?_
    · rintro u v w' (h1 | ⟨h1, f1⟩) (h2 | ⟨h2, f2⟩)
      · exact .inl (h1.trans h2)
      · exact .inr ⟨h1.nil.trans h2, f2⟩
      · exact .inr ⟨h1.trans h2.nil, finMod _ _ f1 h2⟩
      · exact .inr ⟨h1.trans h2, f2⟩
    · rintro w1 w2 (h1 | ⟨h1, -⟩)
      · exact h1.nil
      · exact h1
    · rintro v w1 w2 ⟨rfl, f1⟩ (h1 | ⟨h1, f2⟩)
      · exact ⟨rfl, finMod _ _ f1 h1⟩
      · exact ⟨rfl, f2⟩
    · intro σ x y w1 hR hx hy
      obtain ⟨sb, v4, hy, hsb, hblk, htree⟩ := hy
      have hM : Mod [BA] w.drew w1 := hR.elim (·.nil) (·.1)
      have hsz : w.heap.size ≤ w1.heap.size := hM.size
      have hrawblk : ∃ rest, Blk w1 BA (ucs.flatten ++ rest) ∧ rest.length = (c - ucs.length) * 2 := by
        rcases hR with h1 | ⟨-, v4', f1, -⟩
        · rcases (hraw.mod h1 (by simp)).sl with ⟨h, -⟩ | ⟨BA', c', rest, h, -, -, hb, hl⟩
          · simp at h
          · simp only [Value.slice.injEq, Option.some.injEq, Addr.mk.injEq, and_true, true_and] at h
            obtain ⟨rfl, rfl⟩ := h
            exact ⟨rest, hb, hl⟩
        · rcases f1.sl with ⟨h, -⟩ | ⟨BA', c', rest, h, -, -, hb, hl⟩
          · rw [← hlv2] at h; simp at h
          · rw [← hlv2] at h
            simp only [List.length_append, List.length_cons, List.length_nil, Value.slice.injEq, Option.some.injEq, Addr.mk.injEq, and_true, true_and] at h
            obtain ⟨rfl, -, rfl⟩ := h
            refine ⟨[.int .u32 k, v4'] ++ rest, by simpa using hb, ?_⟩
            simp only [List.length_append, List.length_cons, List.length_nil] at hl ⊢
            omega
      obtain ⟨rest, hb, hl⟩ := hrawblk
      have hfl : ucs.flatten.length = ucs.length * 2 := flatten_length hg.raw.two
      have hput : Mod [BA] w1 (putCells w1 ⟨BA, ucs.length * 2, none⟩ 0 [.int .u32 k, v4]) := Mod.put (by simp)
      have hsrc : srcCells w1 2 (.slice (some ⟨sb, 0, none⟩) 1 1) = some (1, [.int .u32 k, v4]) := by
        simp only [srcCells, cellsAt_of' hblk.cells (n := 1 * 2) (by simp), Option.map_some]
      have hfin : Fin (putCells w1 ⟨BA, ucs.length * 2, none⟩ 0 [.int .u32 k, v4]) := by
        refine ⟨v4, ⟨fun d hd => ?_, .inr ⟨BA, c, rest.drop 2, by simp [← hlv2], by simpa using hc1, o1, ?_, by simp; omega⟩⟩, htree.mod hput (fun b hb hx => by simp only [List.mem_singleton] at hb; omega) fun _ _ h => h⟩
        · rcases List.mem_append.1 hd with hd | hd
          · exact hg.raw.two d hd
          · simp only [List.mem_singleton] at hd; subst hd; rfl
        · have hp := hb.put (o := ucs.length * 2) (vs := [.int .u32 k, v4]) (by simp only [List.length_append, List.length_cons, List.length_nil]; omega)
          have hfs : (ucs ++ [[Value.int .u32 k, v4]]).flatten = ucs.flatten ++ [.int .u32 k, v4] := by simp
          rw [hfs, List.append_assoc]
          rwa [splice_end hfl] at hp
      simp only [RK.run, hx, hy, hsrc, appendRun]
      rw [if_pos hc1, hlv2]
      simp only [Addr.add_mk, Nat.zero_add]
      exact ⟨stOk_many hb (by simp only [List.length_append, List.length_cons, List.length_nil]; omega) (one4 htree), .inr ⟨hput, hfin⟩, trivial, hfin⟩
    · rintro w1 v hR ⟨rfl, v4, f1, f2⟩
      have hM : Mod [BA] w.drew w1 := hR.elim (·.nil) (·.1)
      have ho : own v = some BA := by rw [← hlv2]; rfl
      refine ⟨_, f1, fun b hb => .inl (by rw [ho] at hb; exact hb), RepU.append (hrep.mod hM (by
        intro b hb hx
        simp only [List.mem_singleton] at hb; subst hb; exact hx.2 rfl) fun b _ hb => ⟨hb.1, by rw [ho]; exact hb.2⟩) (.cons (f2.mod (Mod.refl [] _) (by simp) fun b _ hb => ⟨by omega, fun e => ?_⟩) .nil)⟩
      rw [ho] at e; simp only [Option.some.injEq] at e; omega
  · refine cb_core hm h hg hv hl hk (S := []) (R := fun w1 w2 => Mod [] w1 w2) (App := fun v w1 => ∃ v4 b, own v = some b ∧ w.heap.size ≤ b ∧ LRaw2 w1 wN.heap.size v (ucs ++ [[.int .u32 k, v4]]) ∧ SlC (fun b => w.heap.size ≤ b ∧ own v ≠ some b) w1 v4 l.length (u8s l))
      (by simp) (by simp) (fun _ => Mod.refl _ _) (fun _ _ _ => Mod.trans) (fun _ _ h => h) (fun _ _ h => h) ?_ ?_ ?_
    · rintro v w1 w2 ⟨v4, b, h1, h2, h3, h4⟩ hm
      exact ⟨v4, b, h1, h2, h3.mod hm (by simp), h4.mod hm (by simp) fun _ _ h => h⟩
    · intro σ x y w1 hR hx hy
      obtain ⟨sb, v4, hy, hsb, hblk, htree⟩ := hy
      refine append_two hx (hraw.mod hR (by simp)) (Nat.le_trans hnw hR.size) hy hblk rfl (one4 htree) (by omega) fun lv' w' hraw' hown => ?_
      rcases hown with ⟨-, h2⟩ | ⟨h1, h2⟩
      · exact absurd h2 hin
      · refine ⟨h2, v4, w1.heap.size, h1, hR.size, hraw', htree.mod h2 (by simp) (by
          intro b hb hx
          refine ⟨hx, fun e => ?_⟩
          rw [h1] at e; simp only [Option.some.injEq] at e; omega)⟩
    · rintro w1 v hR ⟨v4, b, h1, h2, h3, h4⟩
      refine ⟨_, h3, fun b' hb' => .inr (by rw [h1] at hb'; simp only [Option.some.injEq] at hb'; omega), RepU.append (hrep.mod hR (by simp) (by
        intro b' hb' hx
        refine ⟨hx.1, fun e => ?_⟩
        rw [h1] at e; simp only [Option.some.injEq] at e
        have : b' < w.heap.size := hb'
        omega)) (.cons (h4.mod (Mod.refl [] _) (by simp) (by
        intro b' _ hb'
        exact ⟨by omega, hb'.2⟩)) .nil)⟩
def tagBlks (f1 each srt : FuncId) (t off : Nat) : List IC :=
  [.blk [⟨some t, .mv (.tmp 0), none⟩, ⟨some (t + 1), .nilc (.tmp t), none⟩, ⟨some (t + 2), .fad (.tmp (t + 1)) off, none⟩, ⟨some (t + 3), .mkfunc (.func f1) [] [.tmp 3], none⟩, ⟨some (t + 4), .call each [.tmp (t + 2), .tmp (t + 3)], none⟩],
   .blk [⟨some (t + 5), .fad (.tmp 3) 4, none⟩, ⟨some (t + 6), .ld (.tmp (t + 5)), none⟩, ⟨some (t + 7), .call srt [.tmp (t + 6)], none⟩]]
structure TagFs (P : Program) (f1 each srt : FuncId) : Prop where
  mixed : P.follows .mixedOrders = true
  cb : liftF P f1 = some cbCode
  body : hasBody P f1 = true
  each : ∀ {w : World} {S : List Nat} {okv : Nat → Prop} {g : FuncId} {captured : List Value} {I : World → List (Nat × List UInt8) → World → Prop} {m : List (Nat × List UInt8)}, EachCB P w S okv g captured I (sortT m) → hasBody P g = true →
    ∀ {B o : Nat} {v : Value}, w.cell? ⟨B, o, none⟩ = some v → TagM okv w v m → m.length ≤ 2147483647 → (∀ p ∈ m, p.2.length ≤ 2147483647) → B ∉ S → (∀ r, v = .map (some r) → r ∉ S) → (∀ b ∈ S, b < w.heap.size) → (∀ b ∈ S, ¬ okv b) →
    (∀ wN, Mod [] w wN → I wN [] wN) → Calls P each [.pointer (some ⟨B, o, none⟩), .func (.func g) #[] captured.toArray].toArray w fun e w' => e = .returned (.tuple #[]) ∧ ∃ wN, Mod [] w wN ∧ I wN (sortT m) w' ∧ Mod S wN w'
  srt : ∀ {w : World} {ok : Nat → Prop} {v : Value} {ks : List Nat} {css : List (List Value)}, Pairs w ok v ks css → ks.Pairwise (· ≤ ·) → ks.length ≤ 2147483647 → Calls P srt [v].toArray w fun e w' => e = .returned (.tuple #[]) ∧ Mod [] w w'
theorem LRaw2.slcN {w : World} {n0 : Nat} {lv : Value} {css : List (List Value)} (h : LRaw2 w n0 lv css) : SlC (fun b => n0 ≤ b) w lv css.length css.flatten := by
  rcases h.sl with ⟨rfl, rfl⟩ | ⟨BA, cap, rest, rfl, h2, h3, h4, -⟩
  · exact SlC.nil
  · refine ⟨_, cap, rfl, h2, fun h => by simp at h, fun a ha _ => ?_⟩
    simp only [Option.some.injEq] at ha; subst ha
    refine ⟨h3, h4.lt, ?_⟩
    have := h4.cells.take css.flatten.length
    simpa using this
theorem RepU.pairs {ok ok' : Nat → Prop} {w : World} {v : Value} {us : List (Nat × List UInt8)} {ucs : List (List Value)} (h : RepU ok w us ucs) (hs : SlC ok' w v ucs.length ucs.flatten) : Pairs w ok' v (us.map (·.1)) ucs :=
  ⟨hs, by simpa using h.length, h.two, fun j k hk => by
    rw [List.getElem?_map] at hk
    cases hj : us[j]? with
    | none => rw [hj] at hk; simp at hk
    | some p =>
      rw [hj] at hk
      simp only [Option.map_some, Option.some.injEq] at hk
      subst hk
      obtain ⟨x, hx, -⟩ := h.nth hj
      exact ⟨x, hx⟩⟩
theorem tagBlks_wp {f1 each srt : FuncId} (hT : TagFs P f1 each srt) {t off Tb B base : Nat} {lv v : Value} {m : List (Nat × List UInt8)} {okv : Nat → Prop} {σ : Sl} {w : World} {Q : Exit → Sl → World → Prop} (ht : 4 ≤ t)
    (h0 : σ 0 = .pointer (some ⟨B, base, none⟩)) (h3 : σ 3 = .pointer (some ⟨Tb, 0, none⟩)) (htb : Blk w Tb [.int .i64 0, .slice none 0 0, .bool false, lv, .slice none 0 0]) (hc : w.cell? ⟨B, base + off, none⟩ = some v) (hM : TagM okv w v m)
    (hok : ∀ b, okv b → b ≠ Tb) (hBT : B ≠ Tb) (hr : ∀ r, v = .map (some r) → r ≠ Tb) (hlen : m.length ≤ 2147483647) (hmv : ∀ p ∈ m, p.2.length ≤ 2147483647)
    (hQ : ∀ σ' w' uv ucs, Ag t σ σ' → Mod [Tb] w w' → Blk w' Tb [.int .i64 0, .slice none 0 0, .bool false, lv, uv] → SlC (fun b => w.heap.size ≤ b) w' uv (sortT m).length ucs.flatten → RepU (fun b => w.heap.size ≤ b) w' (sortT m) ucs → Q .normal σ' w') :
    wpL P (tagBlks f1 each srt t off) Q σ w := by
  unfold tagBlks
  simp only [wpL]
  rw [wpC_blk]
  refine wpR_step (v := .pointer (some ⟨B, base, none⟩)) (congrArg some h0) ?_
  refine wpR_step (v := .pointer (some ⟨B, base, none⟩)) (by simp only [RK.val?, ev, updo, upd_same]) ?_
  refine wpR_step (v := .pointer (some ⟨B, base + off, none⟩)) (by simp only [RK.val?, ev, updo, upd_same, Addr.add_mk]) ?_
  refine wpR_step (v := .func (.func f1) #[] #[.pointer (some ⟨Tb, 0, none⟩)]) (by
    simp only [RK.val?, List.map_cons, List.map_nil, ev, updo, upd, show (3 : Nat) ≠ t + 2 by omega, show (3 : Nat) ≠ t + 1 by omega, show (3 : Nat) ≠ t by omega, if_false, h3]) ?_
  have hM' : TagM (fun b => okv b ∧ b < w.heap.size) w v m := by
    rcases hM with h | ⟨r, h1, h2⟩
    · exact .inl h
    · exact .inr ⟨r, h1, h2.mod (Mod.refl [] _) (by simp) (by simp) fun b hb hx => ⟨hx, hb⟩⟩
  have hcb : EachCB P w [Tb] (fun b => okv b ∧ b < w.heap.size) f1 [.pointer (some ⟨Tb, 0, none⟩)] (fun wN done w1 => ∃ uv ucs, TG wN w1 Tb lv uv done ucs) (sortT m) := by
    rintro wN done k l w1 v' _ hmN ⟨uv, ucs, hg⟩ hd _ hk hl hv'
    exact cb_step hT.mixed hT.cb hg hv' hl hk (fun b hb => Nat.lt_of_lt_of_le hb.2 hmN.size) hd
  refine wpR_call (vs := [.pointer (some ⟨B, base + off, none⟩), .func (.func f1) #[] [Value.pointer (some ⟨Tb, 0, none⟩)].toArray]) (by
      simp only [List.map_cons, List.map_nil, ev, updo, upd, show t + 2 ≠ t + 3 by omega, if_false, if_true])
    (hT.each hcb hT.body hc hM' hlen hmv (by simpa using hBT) (fun r e => by simpa using hr r e) (fun b hb => by simp only [List.mem_singleton] at hb; subst hb; exact htb.lt) (fun b hb hx => by simp only [List.mem_singleton] at hb; exact hok _ hx.1 hb)
      (fun wN hmN => ⟨.slice none 0 0, [], htb.mod hmN (by simp), ⟨by simp, .inl ⟨rfl, rfl⟩⟩, .nil, Mod.refl _ _, Nat.lt_of_lt_of_le htb.lt hmN.size⟩)) ?_
  rintro e w1 ⟨rfl, wN, hmN, ⟨uv, ucs, hg⟩, hm1⟩
  refine ⟨_, rfl, ?_⟩
  refine wpR_done ?_
  rw [wpC_blk]
  refine wpR_step (v := .pointer (some ⟨Tb, 4, none⟩)) (by
    simp only [RK.val?, ev, updo, upd, show (3 : Nat) ≠ t + 4 by omega, show (3 : Nat) ≠ t + 3 by omega, show (3 : Nat) ≠ t + 2 by omega, show (3 : Nat) ≠ t + 1 by omega, show (3 : Nat) ≠ t by omega, if_false, h3, Addr.add_mk, Nat.zero_add]) ?_
  refine wpR_step (v := uv) (by simp only [RK.val?, ev, updo, upd_same]; exact hg.tb.cell 4) ?_
  have hul := hg.rep.length
  have hsl : SlC (fun b => w.heap.size ≤ b) w1 uv (sortT m).length ucs.flatten := by
    rw [hul]; exact hg.raw.slcN.mod (Mod.refl [] _) (by simp) fun b _ hb => Nat.le_trans hmN.size hb
  refine wpR_call (vs := [uv]) (by simp only [List.map_cons, List.map_nil, ev, updo, upd_same]) (hT.srt (hg.rep.pairs (by rw [hul] at hsl; exact hsl)) (by rw [List.pairwise_map]; exact sortT_sorted m) (by
    have := (sortT_perm m).length_eq; simp; omega)) ?_
  rintro e w2 ⟨rfl, hm2⟩
  refine ⟨_, rfl, ?_⟩
  refine wpR_done ?_
  refine hQ _ w2 uv ucs (fun j hj => ?_) ((hmN.nil.trans hm1).trans hm2.nil) (hg.tb.mod hm2 (by simp)) (hsl.mod hm2 (by simp) fun _ _ h => h) (hg.rep.mod hm2 (by simp) fun b _ hb => Nat.le_trans hmN.size hb.1)
  simp only [updo, upd, show j ≠ t + 7 by omega, show j ≠ t + 6 by omega, show j ≠ t + 5 by omega, show j ≠ t + 4 by omega, show j ≠ t + 3 by omega, show j ≠ t + 2 by omega, show j ≠ t + 1 by omega, show j ≠ t by omega, if_false]
end
end Go.Msk

namespace Go.Msk
open Go.RowKit
set_option maxRecDepth 100000
def headC (t off : Nat) : List DI :=
  [nd ⟨some t, .fad (.tmp 3) 3, none⟩, nd ⟨some (t + 1), .ld (.tmp t), none⟩, nd ⟨some (t + 2), .mv (.tmp 0), none⟩, nd ⟨some (t + 3), .nilc (.tmp (t + 2)), none⟩, nd ⟨some (t + 4), .fad (.tmp (t + 3)) off, none⟩]
def subF (f : FuncId) (i t off : Nat) : IC :=
  .drw (headC t off ++ [⟨⟨some (t + 5), .call f [.tmp (t + 4)], none⟩, true, []⟩, ⟨⟨some (t + 6), .iad (.tmp (t + 1)) (.const (.int .i64 i)) 5, none⟩, false, [5]⟩])
    [⟨none, .st (.tmp (t + 6)) 5 (.tmp (t + 5)), none⟩]
def uidF (i t off : Nat) : IC :=
  .drw (headC t off ++ [nd ⟨some (t + 5), .slicea (.tmp (t + 4)) 16, none⟩, ⟨⟨some (t + 6), .append (.const (.slice none 0 0)) (.tmp (t + 5)) 1 1, none⟩, true, []⟩, ⟨⟨some (t + 7), .build tzero [(1, 1, .tmp (t + 6))], none⟩, false, [6]⟩,
      ⟨⟨some (t + 8), .iad (.tmp (t + 1)) (.const (.int .i64 i)) 5, none⟩, false, [6]⟩])
    [⟨none, .st (.tmp (t + 8)) 5 (.tmp (t + 7)), none⟩]
section
variable {P : Program}
theorem headC_walkB {t off Tb Lb n B base : Nat} {σ : Sl} {w : World} {r l : List DI} {Φ : Nat → Value → World → Prop} {E : Sl → Prop} (ht : 4 ≤ t)
    (h0 : σ 0 = .pointer (some ⟨B, base, none⟩)) (h3 : σ 3 = .pointer (some ⟨Tb, 0, none⟩)) (c3 : w.cell? ⟨Tb, 3, none⟩ = some (.slice (some ⟨Lb, 0, none⟩) n n))
    (h : ∀ σ', Ag t σ σ' → σ' (t + 1) = .slice (some ⟨Lb, 0, none⟩) n n → σ' (t + 4) = .pointer (some ⟨B, base + off, none⟩) → walkB P l Φ w E 5 r σ') : walkB P l Φ w E 0 (headC t off ++ r) σ := by
  simp only [headC, nd, List.cons_append, List.nil_append]
  refine walkB_step (v := .pointer (some ⟨Tb, 3, none⟩)) (by simp only [RK.val?, ev, h3, Addr.add_mk, Nat.zero_add]) ?_
  refine walkB_step (v := .slice (some ⟨Lb, 0, none⟩) n n) (by simp only [RK.val?, ev, updo, upd_same, c3]) ?_
  refine walkB_step (v := .pointer (some ⟨B, base, none⟩)) (by simp only [RK.val?, ev, updo, upd, show (0 : Nat) ≠ t by omega, show (0 : Nat) ≠ t + 1 by omega, if_false, h0]) ?_
  refine walkB_step (v := .pointer (some ⟨B, base, none⟩)) (by simp only [RK.val?, ev, updo, upd_same]) ?_
  refine walkB_step (v := .pointer (some ⟨B, base + off, none⟩)) (by simp only [RK.val?, ev, updo, upd_same, Addr.add_mk]) ?_
  refine h _ (fun j hj => ?_) ?_ ?_
  · simp only [updo, upd, show j ≠ t by omega, show j ≠ t + 1 by omega, show j ≠ t + 2 by omega, show j ≠ t + 3 by omega, show j ≠ t + 4 by omega, if_false]
  · simp only [updo, upd, show t + 1 ≠ t + 4 by omega, show t + 1 ≠ t + 3 by omega, show t + 1 ≠ t + 2 by omega, if_false, if_true]
  · simp only [updo, upd_same]
theorem putTree {i t Tb Lb n : Nat} {pre post : List Value} {tr : TR} {σ : Sl} {w w1 : World} {cs : List Value} {Q : Exit → Sl → World → Prop} {x y : Nat} {σ1 : Sl} (hw : TW w Tb Lb n (pre ++ (tzero ++ post))) (hpre : pre.length = i * 5)
    (hm : Mod [] w w1) (hrep : RepT (fun b => w.heap.size ≤ b) w1 tr cs) (ha : Ag t σ σ1) (hx : σ1 x = .pointer (some ⟨Lb, i * 5, none⟩)) (hy : σ1 y = .agg cs.toArray)
    (hQ : ∀ σ' w' cs, Ag t σ σ' → Mod [Lb] w w' → RepT (fun b => w.heap.size ≤ b) w' tr cs → TW w' Tb Lb n (pre ++ (cs ++ post)) → Q .normal σ' w') : wpR P [⟨none, .st (.tmp x) 5 (.tmp y), none⟩] σ1 w1 (Q .normal) := by
  have hlb1 : Blk w1 Lb (pre ++ (tzero ++ post)) := hw.lb.mod hm (by simp)
  have h5 := hrep.five
  have hput : Mod [Lb] w1 (putCells w1 ⟨Lb, i * 5, none⟩ 0 cs) := Mod.put (by simp)
  have ec : (Value.agg cs.toArray).cells = cs.toArray := rfl
  refine wpR_run ?_
  simp only [RK.run, ev, hx, hy, ec]
  refine ⟨by simp [h5], stOk_many hlb1 (by simp [tzero]; omega) (by simpa using hrep.oneCell), ?_⟩
  simp only [wpR]
  refine hQ _ _ cs (fun j hj => ha j hj) (hm.nil.trans hput) (hrep.mod hput (fun b hb => ?_) fun _ _ h => h) ⟨?_, ?_, hw.ne⟩
  · simp only [List.mem_singleton] at hb; subst hb; have := hw.lb.lt; omega
  · exact (hw.tb.mod hm (by simp)).mod hput (by simpa using hw.ne)
  · have := hlb1.put (o := i * 5) (vs := cs) (by simp [tzero]; omega)
    rwa [splice_mid hpre (by simp [h5, tzero])] at this
theorem subF_wp {f : FuncId} {T : List GV → Prop} (hf : TellS P f T) {i t off Tb Lb n B base : Nat} {O : List Nat} {pre post : List Value} {gl : List GV} {css : List (List Value)} {σ : Sl} {w : World} {Q : Exit → Sl → World → Prop} (ht : 4 ≤ t)
    (h0 : σ 0 = .pointer (some ⟨B, base, none⟩)) (h3 : σ 3 = .pointer (some ⟨Tb, 0, none⟩)) (hw : TW w Tb Lb n (pre ++ (tzero ++ post))) (hpre : pre.length = i * 5) (hi : i < n)
    (hg : T gl) (hr : RepL O w gl css) (hc : Cells w ⟨B, base + off, none⟩ css.flatten)
    (hQ : ∀ σ' w' cs, Ag t σ σ' → Mod [Lb] w w' → RepT (fun b => w.heap.size ≤ b) w' (GV.rcd gl).told cs → TW w' Tb Lb n (pre ++ (cs ++ post)) → Q .normal σ' w') : wpC P (subF f i t off) Q σ w := by
  have c3' : w.drew.cell? ⟨Tb, 3, none⟩ = some (.slice (some ⟨Lb, 0, none⟩) n n) := hw.tb.cell 3
  unfold subF
  simp only [wpC]
  refine wpD_of_B (fun _ v w1 => ∃ cs, v = .agg cs.toArray ∧ RepT (fun b => w.heap.size ≤ b) w1 (GV.rcd gl).told cs) (fun _ v w1 w2 h hm => ?_) (headC_walkB ht h0 h3 c3' fun σ1 a1 s1 s4 => ?_)
  · obtain ⟨cs, h1, h2⟩ := h
    exact ⟨cs, h1, h2.mod hm (by simp) fun _ _ h => h⟩
  refine walkB_node (fun w1 hm1 _ => ?_) fun u hu => ?_
  · simp only [RK.run, ev, s4, List.map_cons, List.map_nil]
    have hm1' : Mod [] w w1 := (Mod.drew _ _).trans hm1
    refine (hf O w1 B (base + off) gl css hg (hr.fresh hm1' (by simp) (fun x hx => .inl hx)) (hc.mod hm1' (.inr (by simp)))).mono ?_
    rintro e w2 ⟨cs, rfl, hrep, hm2⟩
    exact ⟨_, rfl, hm2, cs, rfl, hrep.mod (Mod.refl [] _) (by simp) fun b _ hb => Nat.le_trans hm1'.size hb⟩
  refine walkB_step (v := .pointer (some ⟨Lb, i * 5, none⟩)) (by
      simp only [RK.val?, ev, updo, upd, show t + 1 ≠ t + 5 by omega, if_false, s1]
      rw [if_pos (by omega)]; simp [Addr.add_mk]) ?_
  simp only [walkB]
  intro w1 hm1 hkn
  have h6 := hkn 5 (by simp [headC]) ⟨⟨some (t + 5), .call f [.tmp (t + 4)], none⟩, true, []⟩ (by simp [headC]) rfl rfl (t + 5) rfl
  obtain ⟨cs, e1, h6⟩ := h6
  refine putTree hw hpre ((Mod.drew [] w).trans hm1) h6 (fun j hj => ?_) (by simp only [updo, upd_same]) e1 hQ
  simp only [updo, upd, show j ≠ t + 6 by omega, show j ≠ t + 5 by omega, if_false]
  exact a1 j hj
theorem uidF_wp {i t off Tb Lb n B base : Nat} {pre post : List Value} {l : List UInt8} {σ : Sl} {w : World} {Q : Exit → Sl → World → Prop} (ht : 4 ≤ t)
    (h0 : σ 0 = .pointer (some ⟨B, base, none⟩)) (h3 : σ 3 = .pointer (some ⟨Tb, 0, none⟩)) (hw : TW w Tb Lb n (pre ++ (tzero ++ post))) (hpre : pre.length = i * 5) (hi : i < n)
    (hl : l.length = 16) (hc : Cells w ⟨B, base + off, none⟩ (u8s l)) (hB : B < w.heap.size)
    (hQ : ∀ σ' w' cs, Ag t σ σ' → Mod [Lb] w w' → RepT (fun b => w.heap.size ≤ b) w' (GV.arr l).told cs → TW w' Tb Lb n (pre ++ (cs ++ post)) → Q .normal σ' w') : wpC P (uidF i t off) Q σ w := by
  have c3' : w.drew.cell? ⟨Tb, 3, none⟩ = some (.slice (some ⟨Lb, 0, none⟩) n n) := hw.tb.cell 3
  unfold uidF
  simp only [wpC]
  refine wpD_of_B (fun _ v w1 => SlC (fun b => w.heap.size ≤ b) w1 v l.length (u8s l)) (fun _ v w1 w2 h hm => h.mod hm (by simp) fun _ _ h => h) (headC_walkB ht h0 h3 c3' fun σ1 a1 s1 s4 => ?_)
  refine walkB_step (v := .slice (some ⟨B, base + off, none⟩) 16 16) (by simp only [RK.val?, ev, s4]) ?_
  refine walkB_node (fun w1 hm1 _ => ?_) fun u hu => ?_
  · have hm1' : Mod [] w w1 := (Mod.drew _ _).trans hm1
    refine appendNil_bytes (v := .slice (some ⟨B, base + off, none⟩) 16 16) (l := l) (ok := fun _ => True) (by simp only [ev, updo, upd_same])
      ⟨_, 16, by rw [hl], by omega, fun h => by simp at h, fun a ha _ => by
        simp only [Option.some.injEq] at ha; subst ha
        exact ⟨trivial, Nat.lt_of_lt_of_le hB hm1'.size, hc.mod hm1' (.inr (by simp))⟩⟩ (by omega) fun b c w2 hb _ hge hm2 => ⟨hm2, ?_⟩
    exact hb.slc fun a ha => ⟨Nat.le_trans hm1'.size (hge a ha).1, (hge a ha).2⟩
  obtain ⟨wu, b4, c4, rfl, -⟩ := hu
  refine walkB_step (v := .agg #[.int .i64 0, .slice b4 l.length c4, .bool false, .slice none 0 0, .slice none 0 0]) (by
    simp only [RK.val?, ev, updo, upd_same, tzero, fillL, List.map_cons, List.map_nil, Value.cells]; simp [splice]) ?_
  refine walkB_step (v := .pointer (some ⟨Lb, i * 5, none⟩)) (by
      simp only [RK.val?, ev, updo, upd, show t + 1 ≠ t + 5 by omega, show t + 1 ≠ t + 6 by omega, show t + 1 ≠ t + 7 by omega, if_false, s1]
      rw [if_pos (by omega)]; simp [Addr.add_mk]) ?_
  simp only [walkB]
  intro w1 hm1 hkn
  have h6 := hkn 6 (by simp [headC]) ⟨⟨some (t + 6), .append (.const (.slice none 0 0)) (.tmp (t + 5)) 1 1, none⟩, true, []⟩ (by simp [headC]) rfl rfl (t + 6) rfl
  simp only [updo, upd, show t + 6 ≠ t + 8 by omega, show t + 6 ≠ t + 7 by omega, if_false, if_true] at h6
  refine putTree (cs := [.int .i64 0, .slice b4 l.length c4, .bool false, .slice none 0 0, .slice none 0 0]) hw hpre ((Mod.drew [] w).trans hm1) (by simpa only [GV.told] using RepT.oct false h6) (fun j hj => ?_) (by simp only [updo, upd_same]) (by
    simp only [updo, upd, show t + 7 ≠ t + 8 by omega, if_false, if_true]) hQ
  simp only [updo, upd, show j ≠ t + 8 by omega, show j ≠ t + 7 by omega, show j ≠ t + 6 by omega, show j ≠ t + 5 by omega, if_false]
  exact a1 j hj
end
end Go.Msk

namespace Go.Msk
open Go.RowKit
set_option maxRecDepth 100000
inductive Tl where
  | nil
  | fld (k : TK) (rest : Tl)
  | lst (k : EK) (esz : Nat) (body : Tl) (rest : Tl)
  | uid (rest : Tl)
  | sub (f : FuncId) (size : Nat) (body : Tl) (rest : Tl)
  | tags (f1 each srt : FuncId)
  deriving Inhabited
def Tl.ty : Tl → List GV → Prop
  | .nil, gs => gs = []
  | .fld k rest, gs => ∃ g l, gs = g :: l ∧ k.ty g ∧ rest.ty l
  | .lst k esz body rest, gs => ∃ isnil sz x l, gs = .lst isnil sz x :: l ∧ (∀ g ∈ x, k.ty body.ty g) ∧ x.length ≤ 2147483647 ∧ (x = [] ∨ sz = esz) ∧ rest.ty l
  | .uid rest, gs => ∃ x l, gs = .arr x :: l ∧ x.length = 16 ∧ rest.ty l
  | .sub _ size body rest, gs => ∃ x l, gs = .rcd x :: l ∧ body.ty x ∧ rest.ty l ∧ size = size
  | .tags .., gs => ∃ m, gs = [.tag m] ∧ m.length ≤ 2147483647 ∧ ∀ p ∈ m, p.2.length ≤ 2147483647
def Tl.tg : Tl → Option (FuncId × FuncId × FuncId)
  | .nil => none
  | .fld _ rest => rest.tg
  | .lst _ _ _ rest => rest.tg
  | .uid rest => rest.tg
  | .sub _ _ _ rest => rest.tg
  | .tags a b c => some (a, b, c)
def Tl.size : Tl → Nat
  | .nil => 0
  | .fld _ rest => 1 + rest.size
  | .lst _ _ _ rest => 1 + rest.size
  | .uid rest => 16 + rest.size
  | .sub _ n _ rest => n + rest.size
  | .tags .. => 0
def Tl.Ok (P : Program) : Tl → Prop
  | .nil => True
  | .fld k rest => k.Ok P ∧ rest.Ok P
  | .lst k _ body rest => k.Ok P body.ty ∧ rest.Ok P
  | .uid rest => rest.Ok P
  | .sub f n body rest => TellS P f body.ty ∧ rest.Ok P ∧ ∀ O w gs css, body.ty gs → RepL O w gs css → css.flatten.length = n
  | .tags a b c => TagFs P a b c
def Tl.len : Tl → Nat
  | .nil => 0
  | .fld _ rest => 1 + rest.len
  | .lst _ _ _ rest => 1 + rest.len
  | .uid rest => 1 + rest.len
  | .sub _ _ _ rest => 1 + rest.len
  | .tags .. => 0
def Tl.nl : Tl → Nat
  | .nil => 0
  | .fld _ rest => rest.nl
  | .lst _ _ _ rest => 1 + rest.nl
  | .uid rest => rest.nl
  | .sub _ _ _ rest => rest.nl
  | .tags .. => 0
def Tl.nt : Tl → Nat
  | .nil => 0
  | .fld k rest => k.nt + rest.nt
  | .lst k _ _ rest => 54 + 2 * k.n + rest.nt
  | .uid rest => 9 + rest.nt
  | .sub _ _ _ rest => 7 + rest.nt
  | .tags .. => 0
def Tl.gen : Tl → (i t off iv nb : Nat) → List IC
  | .nil, _, _, _, _, _ => []
  | .fld k rest, i, t, off, iv, nb => k.gen i t off :: rest.gen (i + 1) (t + k.nt) (off + 1) iv nb
  | .lst k esz _ rest, i, t, off, iv, nb => nullF i t off :: loopT k i (t + 9) off iv nb esz :: rest.gen (i + 1) (t + (54 + 2 * k.n)) (off + 1) (iv + 1) (nb + 2)
  | .uid rest, i, t, off, iv, nb => uidF i t off :: rest.gen (i + 1) (t + 9) (off + 16) iv nb
  | .sub f n _ rest, i, t, off, iv, nb => subF f i t off :: rest.gen (i + 1) (t + 7) (off + n) iv nb
  | .tags .., _, _, _, _, _ => []
def Tl.t0 (tl : Tl) : Nat := 4 + tl.nl
def Tl.tail (tl : Tl) (t off : Nat) : List IC := match tl.tg with
  | none => []
  | some (a, b, c) => tagBlks a b c t off
def Tl.tn (tl : Tl) : Nat := match tl.tg with
  | none => 0
  | some _ => 8
def Tl.code (tl : Tl) (off : Nat) : IC × List RV × Nat :=
  (seqs ([.blk [⟨some 2, .alloc tzero, none⟩], .blk [⟨some tl.t0, .mkslice (.const (.int .i64 tl.len)) (.const (.int .i64 tl.len)) 88 tzero, none⟩, ⟨some (tl.t0 + 1), .build tzero [(3, 1, .tmp tl.t0)], none⟩, ⟨some 3, .alloc tzero, none⟩, ⟨none, .st (.tmp 3) 5 (.tmp (tl.t0 + 1)), none⟩]] ++
    (tl.gen 0 (tl.t0 + 2) off 4 0 ++ (tl.tail (tl.t0 + 2 + tl.nt) (off + tl.size) ++ [.blk [⟨some (tl.t0 + 2 + tl.nt + tl.tn), .ldn (.tmp 3) 5, none⟩, ⟨none, .st (.tmp 2) 5 (.tmp (tl.t0 + 2 + tl.nt + tl.tn)), none⟩], .ret]))),
   [.cells 2 5], tl.t0 + 3 + tl.nt + tl.tn)
section
variable {P : Program}
theorem Tl.sound {Tb Lb n B base : Nat} {O : List Nat} (hB : B ≠ Lb) (hLO : Lb ∈ O) : ∀ (tl : Tl) (i t off iv nb : Nat) (gs : List GV) (gcs : List (List Value)) (pre : List Value) (σ : Sl) (w : World) (Q : Exit → Sl → World → Prop), tl.Ok P → tl.ty gs →
    RepL O w gs gcs → B < w.heap.size → Cells w ⟨B, base + off, none⟩ gcs.flatten → σ 0 = .pointer (some ⟨B, base, none⟩) → σ 3 = .pointer (some ⟨Tb, 0, none⟩) → TW w Tb Lb n (pre ++ zrep tl.len tzero) → pre.length = i * 5 → i + tl.len ≤ n → 4 ≤ iv → iv + tl.nl ≤ t → 4 ≤ t →
    (∀ σ' w' tcs, Ag 4 σ σ' → Mod [Lb] w w' → RepTL (fun b => w.heap.size ≤ b) w' (GV.toldF gs) tcs → TW w' Tb Lb n (pre ++ tcs.flatten) → tcs.length = tl.len → Q .normal σ' w') → wpL P (tl.gen i t off iv nb) Q σ w := by
  intro tl
  induction tl with
  | nil =>
    intro i t off iv nb gs gcs pre σ w Q hO hT hr hBl hc h0 h3 hw hpre hi hiv hivt ht hQ
    simp only [Tl.ty] at hT
    subst hT
    exact hQ σ w [] (Ag.refl _ _) (Mod.refl _ _) (by simpa [GV.toldF] using .nil) (by simpa [Tl.len, zrep] using hw) rfl
  | fld k rest ih =>
    intro i t off iv nb gs gcs pre σ w Q hO hT hr hBl hc h0 h3 hw hpre hi hiv hivt ht hQ
    obtain ⟨g, l, rfl, hg, hT⟩ := hT
    obtain ⟨hk, hO⟩ := hO
    cases hr with
    | @cons _ _ cs css h1 h2 =>
      obtain ⟨v, rfl⟩ : ∃ v, cs = [v] := by
        cases k with
        | num c =>
          cases c with
          | true => obtain ⟨k, m, rfl⟩ := hg; cases h1; exact ⟨_, rfl⟩
          | false => obtain ⟨m, rfl, -⟩ := hg; cases h1; exact ⟨_, rfl⟩
        | str => obtain ⟨m, rfl⟩ := hg; cases h1; exact ⟨_, rfl⟩
        | boo f => obtain ⟨m, rfl⟩ := hg; cases h1; exact ⟨_, rfl⟩
        | txt f => obtain ⟨m, rfl⟩ := hg; cases h1 <;> exact ⟨_, rfl⟩
        | oct f => obtain ⟨m, rfl, -⟩ := hg; cases h1; exact ⟨_, rfl⟩
      simp only [Tl.gen, wpL, Tl.len] at hi ⊢
      have hz : zrep (1 + rest.len) tzero = tzero ++ zrep rest.len tzero := by rw [Nat.add_comm, zrep_succ]
      simp only [Tl.len, hz] at hw
      simp only [Tl.nl] at hivt
      simp only [List.flatten_cons] at hc
      refine TK.wp hk ht h0 h3 hw hpre (by omega) hg h1 (by simpa using hc.head) fun σ' w' cs' a' hm' hrep' htw' => ?_
      simp only [thenC]
      have h5 := hrep'.five
      have hsub := hc.sub 1
      refine ih (i + 1) (t + k.nt) (off + 1) iv nb l css (pre ++ cs') σ' w' Q hO hT (h2.mod hm' (by simpa using hLO)) (Nat.lt_of_lt_of_le hBl hm'.size) ?_ (by rw [a' 0 (by omega)]; exact h0) (by rw [a' 3 (by omega)]; exact h3) (by simpa only [List.append_assoc] using htw')
        (by simp only [List.length_append]; omega) (by omega) hiv (by omega) (by omega) fun σ2 w2 tcs a2 hm2 hrep2 htw2 hl2 => ?_
      · have : Cells w ⟨B, base + off + 1, none⟩ css.flatten := by simpa using hsub
        exact this.mod hm' (.inr (by simpa using hB))
      · refine hQ σ2 w2 (cs' :: tcs) (fun q hq => by rw [a2 q hq]; exact a' q (by omega)) (hm'.trans hm2) ?_ (by simpa only [List.flatten_cons, List.append_assoc] using htw2) (by simp [hl2, Tl.len]; omega)
        rw [GV.toldF_cons (by rintro m rfl; exact TK.ty_tag hg)]
        exact .cons (hrep'.mod hm2 (fun b hb hx => by simp only [List.mem_singleton] at hb; subst hb; have := hw.lb.lt; omega) fun _ _ h => h) (hrep2.mod (Mod.refl [] _) (by simp) fun b _ hb => Nat.le_trans hm'.size hb)
  | lst k esz body rest _ ih =>
    intro i t off iv nb gs gcs pre σ w Q hO hT hr hBl hc h0 h3 hw hpre hi hiv hivt ht hQ
    obtain ⟨isnil, sz, xs, l, rfl, hg, hlen, hsz, hT⟩ := hT
    obtain ⟨hk, hO⟩ := hO
    cases hr with
    | @cons _ _ cs css h1 h2 =>
      simp only [Tl.gen, wpL, Tl.len] at hi ⊢
      have hz : zrep (1 + rest.len) tzero = tzero ++ zrep rest.len tzero := by rw [Nat.add_comm, zrep_succ]
      simp only [Tl.len, hz] at hw
      simp only [Tl.nl] at hivt
      simp only [List.flatten_cons] at hc
      -- the slice that the field holds
      obtain ⟨sb, cap, xcs, rfl, hisn, hrx, hsbx, hsn, hszx⟩ : ∃ sb cap xcs, cs = [.slice sb xs.length cap] ∧ isnil = sb.isNone ∧ RepL O w xs xcs ∧ (∀ a, sb = some a → a.block ∉ O ∧ a.block < w.heap.size ∧ Cells w a xcs.flatten) ∧ (sb = none → xs = []) ∧ (∀ c ∈ xcs, c.length = esz) := by
        cases h1 with
        | lst0 => exact ⟨none, 0, [], rfl, rfl, .nil, fun a h => by simp at h, fun _ => rfl, by simp⟩
        | @lst1 a nn c _ _ xcs ha hlt hn hc' hs hl hcells =>
          refine ⟨some a, c, xcs, by rw [hn], rfl, hl, fun a' e => ?_, fun h => by simp at h, fun d hd => ?_⟩
          · simp only [Option.some.injEq] at e; subst e; exact ⟨ha, hlt, hcells⟩
          · rcases hsz with rfl | rfl
            · have := hl.length; cases xcs with | nil => simp at hd | cons a b => simp at this
            · exact hs d hd
      have hcell : w.cell? ⟨B, base + off, none⟩ = some (.slice sb xs.length cap) := by simpa using hc.head
      refine nullF_wp ht h0 h3 hw hpre (by omega) hcell fun σ1 w1 a1 hm1 hsz1 htw1 => ?_
      simp only [thenC]
      have hLn : ∀ x ∈ [Lb], x ∈ O := by simpa using hLO
      refine loopT_wp hk (by omega) (by omega) hiv (by rw [a1 0 (by omega)]; exact h0) (by rw [a1 3 (by omega)]; exact h3) (by omega) htw1 hpre (cell_mod hcell hm1 (by simpa using hB)) hB hLO (hrx.mod hm1 hLn)
        (fun a ha => ⟨(hsbx a ha).1, Nat.lt_of_lt_of_le (hsbx a ha).2.1 hm1.size, (hsbx a ha).2.2.mod hm1 (.inr (by simp only [List.mem_singleton]; exact fun e => (hsbx a ha).1 (e ▸ hLO)))⟩) hsn hszx hg hlen fun σ2 w2 cs' a2 hm2 hrep2 htw2 => ?_
      simp only [thenC]
      have h5 := hrep2.five
      have hsub := hc.sub 1
      have hm12 := hm1.trans hm2
      have a12 : Ag 4 σ σ2 := fun q hq => by rw [a2 q (by omega) (by omega)]; exact a1 q (by omega)
      refine ih (i + 1) (t + (54 + 2 * k.n)) (off + 1) (iv + 1) (nb + 2) l css (pre ++ cs') σ2 w2 Q hO hT (h2.mod hm12 hLn) (Nat.lt_of_lt_of_le hBl hm12.size) ?_ (by rw [a12 0 (by omega)]; exact h0) (by rw [a12 3 (by omega)]; exact h3) (by simpa only [List.append_assoc] using htw2)
        (by simp only [List.length_append]; omega) (by omega) (by omega) (by omega) (by omega) fun σ3 w3 tcs a3 hm3 hrep3 htw3 hl3 => ?_
      · have : Cells w ⟨B, base + off + 1, none⟩ css.flatten := by simpa using hsub
        exact this.mod hm12 (.inr (by simpa using hB))
      · refine hQ σ3 w3 (cs' :: tcs) (a12.trans a3) (hm12.trans hm3) ?_ (by simpa only [List.flatten_cons, List.append_assoc] using htw3) (by simp [hl3, Tl.len]; omega)
        rw [GV.toldF_cons (by rintro m h; simp at h)]
        simp only [GV.told, hisn]
        refine .cons (hrep2.mod hm3 (fun b hb hx => by simp only [List.mem_singleton] at hb; subst hb; have := hw.lb.lt; omega) fun b _ hb => by omega) (hrep3.mod (Mod.refl [] _) (by simp) fun b _ hb => Nat.le_trans hm12.size hb)

  | uid rest ih =>
    intro i t off iv nb gs gcs pre σ w Q hO hT hr hBl hc h0 h3 hw hpre hi hiv hivt ht hQ
    obtain ⟨x, l, rfl, hx, hT⟩ := hT
    cases hr with
    | @cons _ _ cs css h1 h2 =>
      have : cs = u8s x := by cases h1; rfl
      subst this
      simp only [Tl.gen, wpL, Tl.len] at hi ⊢
      have hz : zrep (1 + rest.len) tzero = tzero ++ zrep rest.len tzero := by rw [Nat.add_comm, zrep_succ]
      simp only [Tl.len, hz] at hw
      simp only [Tl.nl] at hivt
      simp only [List.flatten_cons] at hc
      have hcx : Cells w ⟨B, base + off, none⟩ (u8s x) := by have := hc.take (u8s x).length; simpa using this
      refine uidF_wp ht h0 h3 hw hpre (by omega) hx hcx hBl fun σ' w' cs' a' hm' hrep' htw' => ?_
      simp only [thenC]
      have h5 := hrep'.five
      have hsub := hc.sub 16
      refine ih (i + 1) (t + 9) (off + 16) iv nb l css (pre ++ cs') σ' w' Q hO hT (h2.mod hm' (by simpa using hLO)) (Nat.lt_of_lt_of_le hBl hm'.size) ?_ (by rw [a' 0 (by omega)]; exact h0) (by rw [a' 3 (by omega)]; exact h3) (by simpa only [List.append_assoc] using htw')
        (by simp only [List.length_append]; omega) (by omega) hiv (by omega) (by omega) fun σ2 w2 tcs a2 hm2 hrep2 htw2 hl2 => ?_
      · have : Cells w ⟨B, base + off + 16, none⟩ css.flatten := by
          have hlen : (u8s x).length = 16 := by rw [u8s_length, hx]
          rw [← hlen, List.drop_left] at hsub
          rw [hlen] at hsub
          exact hsub
        exact this.mod hm' (.inr (by simpa using hB))
      · refine hQ σ2 w2 (cs' :: tcs) (fun q hq => by rw [a2 q hq]; exact a' q (by omega)) (hm'.trans hm2) ?_ (by simpa only [List.flatten_cons, List.append_assoc] using htw2) (by simp [hl2, Tl.len]; omega)
        rw [GV.toldF_cons (by rintro m h; simp at h)]
        exact .cons (hrep'.mod hm2 (fun b hb hx => by simp only [List.mem_singleton] at hb; subst hb; have := hw.lb.lt; omega) fun _ _ h => h) (hrep2.mod (Mod.refl [] _) (by simp) fun b _ hb => Nat.le_trans hm'.size hb)
  | sub f sz body rest _ ih =>
    intro i t off iv nb gs gcs pre σ w Q hO hT hr hBl hc h0 h3 hw hpre hi hiv hivt ht hQ
    obtain ⟨x, l, rfl, hx, hT, -⟩ := hT
    obtain ⟨hk, hO, hsz⟩ := hO
    cases hr with
    | @cons _ _ cs css h1 h2 =>
      obtain ⟨xcs, rfl, hrx⟩ : ∃ xcs, cs = xcs.flatten ∧ RepL O w x xcs := by
        cases h1 with
        | rcd h => exact ⟨_, rfl, h⟩
      have hxl := hsz O w x xcs hx hrx
      simp only [Tl.gen, wpL, Tl.len] at hi ⊢
      have hz : zrep (1 + rest.len) tzero = tzero ++ zrep rest.len tzero := by rw [Nat.add_comm, zrep_succ]
      simp only [Tl.len, hz] at hw
      simp only [Tl.nl] at hivt
      rw [List.flatten_cons] at hc
      have hcx : Cells w ⟨B, base + off, none⟩ xcs.flatten := by have := hc.take xcs.flatten.length; simpa using this
      refine subF_wp hk ht h0 h3 hw hpre (by omega) hx hrx hcx fun σ' w' cs' a' hm' hrep' htw' => ?_
      simp only [thenC]
      have h5 := hrep'.five
      have hsub := hc.sub sz
      refine ih (i + 1) (t + 7) (off + sz) iv nb l css (pre ++ cs') σ' w' Q hO hT (h2.mod hm' (by simpa using hLO)) (Nat.lt_of_lt_of_le hBl hm'.size) ?_ (by rw [a' 0 (by omega)]; exact h0) (by rw [a' 3 (by omega)]; exact h3) (by simpa only [List.append_assoc] using htw')
        (by simp only [List.length_append]; omega) (by omega) hiv (by omega) (by omega) fun σ2 w2 tcs a2 hm2 hrep2 htw2 hl2 => ?_
      · have : Cells w ⟨B, base + (off + sz), none⟩ css.flatten := by
          rw [← hxl, List.drop_left] at hsub
          rw [hxl] at hsub
          rwa [← Nat.add_assoc]
        exact this.mod hm' (.inr (by simpa using hB))
      · refine hQ σ2 w2 (cs' :: tcs) (fun q hq => by rw [a2 q hq]; exact a' q (by omega)) (hm'.trans hm2) ?_ (by simpa only [List.flatten_cons, List.append_assoc] using htw2) (by simp [hl2, Tl.len]; omega)
        rw [GV.toldF_cons (by rintro m h; simp at h)]
        exact .cons (hrep'.mod hm2 (fun b hb hx => by simp only [List.mem_singleton] at hb; subst hb; have := hw.lb.lt; omega) fun _ _ h => h) (hrep2.mod (Mod.refl [] _) (by simp) fun b _ hb => Nat.le_trans hm'.size hb)
  | tags a b c =>
    intro i t off iv nb gs gcs pre σ w Q hO hT hr hBl hc h0 h3 hw hpre hi hiv hivt ht hQ
    obtain ⟨m, rfl, -⟩ := hT
    exact hQ σ w [] (Ag.refl _ _) (Mod.refl _ _) (by simpa [GV.toldF] using .nil) (by simpa [Tl.len, zrep] using hw) rfl
theorem Tl.no_tags : ∀ (tl : Tl) (gs : List GV), tl.tg = none → tl.ty gs → GV.tagsF gs = [] := by
  intro tl
  induction tl with
  | nil => intro gs _ h; simp only [Tl.ty] at h; subst h; rfl
  | fld k rest ih =>
    rintro gs h ⟨g, l, rfl, hg, hT⟩
    have := ih l h hT
    cases g <;> first | exact this | exact (TK.ty_tag hg).elim
  | lst k esz body rest _ ih => rintro gs h ⟨_, _, _, l, rfl, -, -, -, hT⟩; exact ih l h hT
  | uid rest ih => rintro gs h ⟨_, l, rfl, -, hT⟩; exact ih l h hT
  | sub f sz body rest _ ih => rintro gs h ⟨_, l, rfl, -, hT, -⟩; exact ih l h hT
  | tags a b c => intro gs h; simp [Tl.tg] at h
theorem Tl.tag_cell {O : List Nat} {w : World} : ∀ (tl : Tl) (gs : List GV) (gcs : List (List Value)) (a b c : FuncId), tl.tg = some (a, b, c) → tl.Ok P → tl.ty gs → RepL O w gs gcs →
    ∃ m v, gcs.flatten[tl.size]? = some v ∧ Rep O w (.tag m) [v] ∧ GV.tagsF gs = sortT m ∧ m.length ≤ 2147483647 ∧ (∀ p ∈ m, p.2.length ≤ 2147483647) ∧ TagFs P a b c := by
  intro tl
  have step : ∀ {n k : Nat} {g : GV} {l : List GV} {cs : List Value} {css : List (List Value)} {m : List (Nat × List UInt8)} {v : Value}, cs.length = n → (∀ m, g ≠ .tag m) → css.flatten[k]? = some v → GV.tagsF l = sortT m →
      (cs :: css).flatten[n + k]? = some v ∧ GV.tagsF (g :: l) = sortT m := by
    intro n k g l cs css m v hn hg hk ht
    refine ⟨?_, ?_⟩
    · rw [List.flatten_cons, List.getElem?_append_right (by omega), show n + k - cs.length = k by omega]; exact hk
    · cases g <;> first | exact ht | exact absurd rfl (hg _)
  induction tl with
  | nil => intro gs gcs a b c h; simp [Tl.tg] at h
  | fld k rest ih =>
    intro gs gcs a b c h hO hT hr
    obtain ⟨g, l, rfl, hg, hT⟩ := hT
    cases hr with
    | @cons _ _ cs css h1 h2 =>
      obtain ⟨m, v, e1, e2, e3, e4⟩ := ih l css a b c h hO.2 hT h2
      obtain ⟨q1, q2⟩ := step (n := 1) (g := g) (TK.one hg h1) (by rintro m rfl; exact TK.ty_tag hg) e1 e3
      exact ⟨m, v, q1, e2, q2, e4⟩
  | lst k esz body rest _ ih =>
    intro gs gcs a b c h hO hT hr
    obtain ⟨isnil, sz, x, l, rfl, -, -, -, hT⟩ := hT
    cases hr with
    | @cons _ _ cs css h1 h2 =>
      obtain ⟨m, v, e1, e2, e3, e4⟩ := ih l css a b c h hO.2 hT h2
      have hl : cs.length = 1 := by cases h1 <;> rfl
      obtain ⟨q1, q2⟩ := step (n := 1) (g := .lst isnil sz x) hl (by rintro m h; simp at h) e1 e3
      exact ⟨m, v, q1, e2, q2, e4⟩
  | uid rest ih =>
    intro gs gcs a b c h hO hT hr
    obtain ⟨x, l, rfl, hx, hT⟩ := hT
    cases hr with
    | @cons _ _ cs css h1 h2 =>
      obtain ⟨m, v, e1, e2, e3, e4⟩ := ih l css a b c h hO hT h2
      have hl : cs.length = 16 := by cases h1; rw [u8s_length, hx]
      obtain ⟨q1, q2⟩ := step (n := 16) (g := .arr x) hl (by rintro m h; simp at h) e1 e3
      exact ⟨m, v, q1, e2, q2, e4⟩
  | sub f sz body rest _ ih =>
    intro gs gcs a b c h hO hT hr
    obtain ⟨x, l, rfl, hx, hT, -⟩ := hT
    cases hr with
    | @cons _ _ cs css h1 h2 =>
      obtain ⟨m, v, e1, e2, e3, e4⟩ := ih l css a b c h hO.2.1 hT h2
      have hl : cs.length = sz := by cases h1 with | rcd h1 => exact hO.2.2 _ _ _ _ hx h1
      obtain ⟨q1, q2⟩ := step (n := sz) (g := .rcd x) hl (by rintro m h; simp at h) e1 e3
      exact ⟨m, v, q1, e2, q2, e4⟩
  | tags a' b' c' =>
    intro gs gcs a b c h hO hT hr
    simp only [Tl.tg, Option.some.injEq, Prod.mk.injEq] at h
    obtain ⟨rfl, rfl, rfl⟩ := h
    obtain ⟨m, rfl, h1, h2⟩ := hT
    cases hr with
    | @cons _ _ cs css q1 q2 =>
      cases q2
      obtain ⟨v, rfl⟩ : ∃ v, cs = [v] := by cases q1 <;> exact ⟨_, rfl⟩
      exact ⟨m, v, rfl, q1, rfl, h1, h2, hO⟩
def TellAt (P : Program) (f : FuncId) (off : Nat) (T : List GV → Prop) : Prop :=
  ∀ (O : List Nat) (w : World) (B base : Nat) (gs : List GV) (css : List (List Value)), T gs → RepL O w gs css → B < w.heap.size → Cells w ⟨B, base + off, none⟩ css.flatten →
    TellC P f [.pointer (some ⟨B, base, none⟩)] w (GV.rcd gs).told
theorem Tl.call {tl : Tl} {f off : Nat} (hm : P.follows .mixedOrders = true) (h : liftF P f = some (tl.code off)) (hO : tl.Ok P) (hlen : tl.len ≤ 1000) : TellAt P f off tl.ty := by
  intro O w B base gs css hT hr hBlt hc
  unfold Tl.code at h
  refine call_of h hm (by simp; omega) ?_
  rw [wpC_seqs]
  have s0 : args0 [.pointer (some ⟨B, base, none⟩)] 0 = .pointer (some ⟨B, base, none⟩) := rfl
  generalize args0 [.pointer (some ⟨B, base, none⟩)] = σ0 at s0
  have ht0 : tl.t0 = 4 + tl.nl := rfl
  simp only [List.cons_append, List.nil_append, wpL]
  simp only [wpC_blk, wpR, RI.wp, gOk, if_true, RK.run, ev, updo]
  intro T1
  simp only [thenC]
  have hmul : ((tl.len : Int) * (88 : Nat)) ≤ 70368744177664 := by omega
  refine ⟨by omega, by omega, hmul, by omega, ?_⟩
  intro T2
  simp only [Int.toNat_natCast, upd_same, List.map_cons, List.map_nil]
  have hf : ∀ v : Value, v.cells = #[v] → fillL tzero [(3, 1, v)] = some [.int .i64 0, .slice none 0 0, .bool false, v, .slice none 0 0] := by
    intro v hv
    simp only [fillL, hv]
    simp [tzero, splice]
  rw [hf _ rfl]
  simp only
  intro T3
  have ec : ∀ cs, (Value.agg cs).cells = cs := fun _ => rfl
  simp only [upd, if_true, show tl.t0 + 1 ≠ 3 by omega, if_false, ec]
  -- the three new blocks
  have b2 := Blk.new w tzero T1
  generalize hw1 : w.alloc (.cells tzero.toArray T1) = w1 at b2 ⊢
  have z1 : w1.heap.size = w.heap.size + 1 := by rw [← hw1]; simp
  have m1 : Mod [] w w1 := by rw [← hw1]; exact Mod.alloc _ _ _
  have bL := Blk.new w1 (zrep tl.len tzero) T2
  generalize hw2 : w1.alloc (.cells (zrep tl.len tzero).toArray T2) = w2 at bL ⊢
  have z2 : w2.heap.size = w1.heap.size + 1 := by rw [← hw2]; simp
  have m2 : Mod [] w1 w2 := by rw [← hw2]; exact Mod.alloc _ _ _
  obtain ⟨k1, k2, k3⟩ := new_put w2 tzero [.int .i64 0, .slice none 0 0, .bool false, .slice (some ⟨w1.heap.size, 0, none⟩) tl.len tl.len, .slice none 0 0] T3 rfl (by simp [Value.oneCell'])
  generalize hw3 : w2.alloc (.cells tzero.toArray T3) = w3 at k1 k2 k3 ⊢
  have z3 : w3.heap.size = w2.heap.size + 1 := by rw [← hw3]; simp
  refine ⟨by rfl, by simpa using k1, ?_⟩
  rw [wpL_append]
  have hput : (putCells w3 ⟨w2.heap.size, 0, none⟩ 0 [.int .i64 0, .slice none 0 0, .bool false, .slice (some ⟨w1.heap.size, 0, none⟩) tl.len tl.len, .slice none 0 0]).heap.size = w3.heap.size := size_putCells ..
  generalize hw4 : putCells w3 ⟨w2.heap.size, 0, none⟩ 0 [.int .i64 0, .slice none 0 0, .bool false, .slice (some ⟨w1.heap.size, 0, none⟩) tl.len tl.len, .slice none 0 0] = w4 at k2 k3 hput
  have m14 : Mod [] w w4 := (m1.trans m2).trans k3
  have htw : TW w4 w2.heap.size w1.heap.size tl.len (zrep tl.len tzero) := ⟨k2, bL.mod k3 (by simp), by omega⟩
  refine Tl.sound (Tb := w2.heap.size) (Lb := w1.heap.size) (n := tl.len) (B := B) (base := base) (O := w2.heap.size :: w1.heap.size :: O) (by omega) (by simp) tl 0 (tl.t0 + 2) off 4 0 gs css [] _ w4 _ hO hT
    (hr.fresh m14 (by simp) (fun x hx => by
      rcases List.mem_cons.1 hx with rfl | hx
      · exact .inr (by omega)
      · rcases List.mem_cons.1 hx with rfl | hx
        · exact .inr (by omega)
        · exact .inl hx)) (by omega) (hc.mod m14 (.inr (by simp))) ?_ ?_ htw rfl (by omega) (by omega) (by omega) (by omega) fun σ' w' tcs a' hm' hrep htw' hln => ?_
  · simp only [upd, show (0 : Nat) ≠ 3 by omega, show (0 : Nat) ≠ tl.t0 + 1 by omega, show (0 : Nat) ≠ tl.t0 by omega, show (0 : Nat) ≠ 2 by omega, if_false, s0]
  · simp only [upd, if_true]
  · have s2' : σ' 2 = .pointer (some ⟨w.heap.size, 0, none⟩) := by
      rw [a' 2 (by omega)]
      simp only [upd, show (2 : Nat) ≠ 3 by omega, show (2 : Nat) ≠ tl.t0 + 1 by omega, show (2 : Nat) ≠ tl.t0 by omega, if_false, if_true]
    have s3' : σ' 3 = .pointer (some ⟨w2.heap.size, 0, none⟩) := by
      rw [a' 3 (by omega)]
      simp only [upd, if_true]
    have s0' : σ' 0 = .pointer (some ⟨B, base, none⟩) := by
      rw [a' 0 (by omega)]
      simp only [upd, show (0 : Nat) ≠ 3 by omega, show (0 : Nat) ≠ tl.t0 + 1 by omega, show (0 : Nat) ≠ tl.t0 by omega, show (0 : Nat) ≠ 2 by omega, if_false, s0]
    have hb2 : Blk w' w.heap.size tzero := ((b2.mod (m2.trans k3) (by simp))).mod hm' (by simp; omega)
    -- behind the fields
    have fin : ∀ (σ5 : Sl) (w5 : World) (t : Nat) (uv : Value) (ucs : List (List Value)), 4 ≤ t → σ5 2 = .pointer (some ⟨w.heap.size, 0, none⟩) → σ5 3 = .pointer (some ⟨w2.heap.size, 0, none⟩) → Mod [w2.heap.size] w' w5 →
        Blk w5 w2.heap.size [.int .i64 0, .slice none 0 0, .bool false, .slice (some ⟨w1.heap.size, 0, none⟩) tl.len tl.len, uv] → SlC (fun b => w.heap.size ≤ b ∧ b ≠ w.heap.size) w5 uv (GV.tagsF gs).length ucs.flatten →
        RepU (fun b => w.heap.size ≤ b ∧ b ≠ w.heap.size) w5 (GV.tagsF gs) ucs → wpL P [.blk [⟨some t, .ldn (.tmp 3) 5, none⟩, ⟨none, .st (.tmp 2) 5 (.tmp t), none⟩], .ret] (postC [.cells 2 5] fun e w6 => ∃ cs, e = .returned (.agg cs.toArray) ∧ RepT (fun b => w.heap.size ≤ b) w6 (GV.rcd gs).told cs ∧ Mod [] w w6) σ5 w5 := by
      intro σ5 w5 t uv ucs ht5 q2 q3 hm5 hb5 hus hru
      have uone : uv.oneCell' = true := hus.one
      have hld : cellsAt w5 ⟨w2.heap.size, 0, none⟩ 0 5 = some [.int .i64 0, .slice none 0 0, .bool false, .slice (some ⟨w1.heap.size, 0, none⟩) tl.len tl.len, uv] := cellsAt_of' hb5.cells rfl
      have hb2' : Blk w5 w.heap.size tzero := hb2.mod hm5 (by simp; omega)
      have hput2 : Mod [w.heap.size] w5 (putCells w5 ⟨w.heap.size, 0, none⟩ 0 [.int .i64 0, .slice none 0 0, .bool false, .slice (some ⟨w1.heap.size, 0, none⟩) tl.len tl.len, uv]) := Mod.put (by simp)
      have hb3 := hb2'.put (o := 0) (vs := [.int .i64 0, .slice none 0 0, .bool false, .slice (some ⟨w1.heap.size, 0, none⟩) tl.len tl.len, uv]) (by simp [tzero])
      rw [splice_all (by rfl)] at hb3
      simp only [wpL]
      rw [wpC_blk]
      refine wpR_step (v := .agg [.int .i64 0, .slice none 0 0, .bool false, .slice (some ⟨w1.heap.size, 0, none⟩) tl.len tl.len, uv].toArray) (by simp only [RK.val?, ev, q3, hld, Option.map_some]) ?_
      refine wpR_run ?_
      simp only [RK.run, ev, updo, upd, show (2 : Nat) ≠ t by omega, if_false, if_true, q2, ec]
      refine ⟨rfl, stOk_many hb2' (by simp [tzero]) (fun x hx => by
        simp only [List.mem_cons, List.not_mem_nil, or_false] at hx
        rcases hx with rfl | rfl | rfl | rfl | rfl <;> first | rfl | exact uone), ?_⟩
      refine wpR_done ?_
      simp only [wpC, thenC, postC, rvals, List.mapM_cons, List.mapM_nil, RV.val, upd, show (2 : Nat) ≠ t by omega, if_false, q2, cellsAt_of' hb3.cells (n := 5) rfl, Option.bind_eq_bind, Option.map_some, Option.bind_some, Option.pure_def, tup_one]
      have m56 : Mod [w2.heap.size, w.heap.size] w' (putCells w5 ⟨w.heap.size, 0, none⟩ 0 [.int .i64 0, .slice none 0 0, .bool false, .slice (some ⟨w1.heap.size, 0, none⟩) tl.len tl.len, uv]) := (hm5.mono (by simp)).trans (hput2.mono (by simp))
      refine ⟨_, rfl, ?_, ?_⟩
      · have hlt : (GV.toldF gs).length = tl.len := hrep.length.trans hln
        simp only [GV.told]
        refine .mk (css := tcs) (uss := ucs) SlC.nil ⟨some ⟨w1.heap.size, 0, none⟩, tl.len, by rw [hlt], by rw [hlt]; exact Nat.le_refl _, fun h => by simp at h, fun a ha _ => ?_⟩ ?_
          (hus.mod hput2 (fun b hb hx => by simp only [List.mem_singleton] at hb; exact hx.2 hb) fun b _ hb => hb.1) (hru.mod hput2 (fun b hb hx => by simp only [List.mem_singleton] at hb; exact hx.2 hb) fun b _ hb => hb.1)
        · simp only [Option.some.injEq] at ha; subst ha
          refine ⟨show w.heap.size ≤ w1.heap.size by omega, ?_, ?_⟩
          · exact Nat.lt_of_lt_of_le htw'.lb.lt m56.size
          · have := (htw'.lb.mod m56 (by simp; omega)).cells
            simpa using this
        · exact (hrep.mod m56 (fun b hb hx => by simp only [List.mem_cons, List.not_mem_nil, or_false] at hb; omega) fun b _ hb => by omega)
      · refine Mod.drop (b := w.heap.size) (S := []) ?_ (Nat.le_refl _)
        refine Mod.drop (b := w1.heap.size) (S := [w.heap.size]) ?_ (by omega)
        refine Mod.drop (b := w2.heap.size) (S := [w1.heap.size, w.heap.size]) ?_ (by omega)
        exact (m14.nil.trans (hm'.mono (by simp))).trans (m56.mono (by simp))
    simp only [thenC]
    rw [wpL_append]
    cases htg : tl.tg with
    | none =>
      have e1 : tl.tail (tl.t0 + 2 + tl.nt) (off + tl.size) = [] := by unfold Tl.tail; rw [htg]
      rw [e1]
      have hnt : GV.tagsF gs = [] := Tl.no_tags tl gs htg hT
      have := fin σ' w' (tl.t0 + 2 + tl.nt + tl.tn) (.slice none 0 0) [] (by omega) s2' s3' (Mod.refl _ _) htw'.tb (by rw [hnt]; exact SlC.nil) (by rw [hnt]; exact .nil)
      simpa only [wpL, thenC] using this
    | some q =>
      obtain ⟨a, b, c⟩ := q
      have e1 : tl.tail (tl.t0 + 2 + tl.nt) (off + tl.size) = tagBlks a b c (tl.t0 + 2 + tl.nt) (off + tl.size) := by unfold Tl.tail; rw [htg]
      rw [e1]
      obtain ⟨m, v, u1, u2, u3, u4, u5, u6⟩ := Tl.tag_cell tl gs css a b c htg hO hT hr
      have hcv : w.cell? ⟨B, base + (off + tl.size), none⟩ = some v := by
        have := hc.2 tl.size v u1
        simpa [Nat.add_assoc] using this
      have hrv : Rep (w2.heap.size :: w1.heap.size :: O) w4 (.tag m) [v] := u2.fresh m14 (by simp) (fun x hx => by
        rcases List.mem_cons.1 hx with rfl | hx
        · exact .inr (by omega)
        · rcases List.mem_cons.1 hx with rfl | hx
          · exact .inr (by omega)
          · exact .inl hx)
      have hrv' := hrv.mod hm' (by simp)
      have hTM : TagM (fun b => b ∉ w2.heap.size :: w1.heap.size :: O) w' v m ∧ ∀ r, v = .map (some r) → r ≠ w2.heap.size := by
        cases hrv' with
        | tag0 => exact ⟨.inl ⟨rfl, rfl⟩, fun r h => by simp at h⟩
        | @tag1 r _ h1 h2 => exact ⟨.inr ⟨r, rfl, h2⟩, fun r' h => by simp only [Value.map.injEq, Option.some.injEq] at h; subst h; exact fun e => h1 (by simp [e])⟩
      refine tagBlks_wp u6 (okv := fun b => b ∉ w2.heap.size :: w1.heap.size :: O) (by omega) s0' s3' htw'.tb (cell_mod (cell_mod hcv m14 (by simp)) hm' (by simp; omega)) hTM.1 (fun b hb e => hb (by simp [e])) (by omega) hTM.2 u4 u5 fun σ6 w6 uv ucs a6 hm6 hb6 hs6 hr6 => ?_
      simp only [thenC]
      refine fin σ6 w6 (tl.t0 + 2 + tl.nt + tl.tn) uv ucs (by omega) (by rw [a6 2 (by omega)]; exact s2') (by rw [a6 3 (by omega)]; exact s3') hm6 hb6 ?_ ?_
      · rw [u3]; exact hs6.mod (Mod.refl [] _) (by simp) fun b _ hb => by have := hm'.size; omega
      · rw [u3]; exact hr6.mod (Mod.refl [] _) (by simp) fun b _ hb => by have := hm'.size; omega
end
end Go.Msk

namespace Go.Msk
open Go.RowKit
set_option maxRecDepth 100000
def PK.ty : PK → GV → Prop
  | .bool, g => ∃ b, g = .num (.bool b)
  | .i64, g => ∃ n, g = .num (.int .i64 n) ∧ IntKind.i64.wrap n = n
  | .str, g => ∃ l, g = .num (Msk.str l)
  | .nstr, g => ∃ o, g = .nstr o
  | .byt, g | .nbyt, g => ∃ o, g = .byt o ∧ ∀ l, o = some l → l.length ≤ 2147483647
  | .uuid, g => ∃ l, g = .arr l ∧ l.length = 16
  | _, g => ∃ k n, g = .num (.int k n)
def fitF : PK → TK → Bool
  | .bool, .boo _ => true
  | .i64, .num false => true
  | .str, .str => true
  | .nstr, .txt _ => true
  | .byt, .oct _ | .nbyt, .oct _ => true
  | .i8, .num true | .i16, .num true | .u16, .num true | .i32, .num true | .u32, .num true => true
  | _, _ => false
def fitE : PK → EK → Bool
  | .i64, .num false => true
  | .str, .str => true
  | .i8, .num true | .i16, .num true | .u16, .num true | .i32, .num true | .u32, .num true => true
  | _, _ => false
theorem fitF_ty {p : PK} {k : TK} {g : GV} (h : fitF p k = true) (hg : p.ty g) : k.ty g := by
  cases p <;> cases k <;> simp only [fitF, Bool.false_eq_true] at h <;> first | exact hg | (rename_i c; cases c <;> simp only [Bool.false_eq_true] at h <;> exact hg)
theorem fitE_ty {p : PK} {k : EK} {T : List GV → Prop} {g : GV} (h : fitE p k = true) (hg : p.ty g) : k.ty T g := by
  cases p <;> cases k <;> simp only [fitE, Bool.false_eq_true] at h <;> first | exact hg | (rename_i c; cases c <;> simp only [Bool.false_eq_true] at h <;> exact hg)
def fitD : PK → Df → Bool
  | .bool, .bool _ => true
  | .i64, .int .i64 n => decide (IntKind.i64.wrap n = n)
  | .str, .str _ => true
  | .nstr, .nstr => true
  | .byt, .byt | .nbyt, .byt => true
  | .uuid, .uuid => true
  | .i8, .int .. | .i16, .int .. | .u16, .int .. | .i32, .int .. | .u32, .int .. => true
  | _, _ => false
theorem fitD_ty {p : PK} {d : Df} (h : fitD p d = true) : p.ty d.gv := by
  cases p <;> cases d <;> simp only [fitD, Bool.false_eq_true] at h <;> first | exact ⟨_, _, rfl⟩ | exact ⟨_, rfl⟩ | exact ⟨none, rfl, by simp⟩ | exact ⟨_, rfl, by simp⟩ | skip
  rename_i k n
  cases k <;> simp only [Bool.false_eq_true, decide_eq_true_eq] at h
  exact ⟨n, rfl, h⟩
def fit : Sc → Tl → Bool
  | .nil, .nil => true
  | .prm _ _ _ p d rest, .fld k r => fitF p k && fitD p d && fit rest r
  | .prm _ _ _ p d rest, .uid r => decide (p = .uuid) && fitD p d && fit rest r
  | .enm _ _ _ p d rest, .fld k r => fitF p k && fitD p d && fit rest r
  | .lsp _ _ _ d _ _ p rest, .lst k esz _ r => fitE p k && decide (d.size = esz) && fit rest r
  | .lss _ _ _ _ _ body rest, .lst (.tell _) esz b r => fit body b && decide (body.size = esz) && fit rest r
  | .sub _ _ body rest, .sub _ n b r => fit body b && decide (body.size = n) && fit rest r
  | .tags _, .tags .. => true
  | .uid _ _ rest, .uid r => fit rest r
  | _, _ => false
structure Dec.Ok (D : Dec) : Prop where
  short : D.Short
  lenle : ∀ (x : Bool) (s : RS), (D.len x s).2.src.length ≤ s.src.length
  prle : ∀ (p : PK) (x : Bool) (s : RS), (D.prim p x s).2.src.length ≤ s.src.length
  ty : ∀ (p : PK) (x : Bool) (s : RS), s.src.length ≤ 2147483647 → p.ty (D.prim p x s).1
  tagle : ∀ s : RS, (D.tags s).2.src.length ≤ s.src.length
  tagty : ∀ s : RS, s.src.length ≤ 2147483647 → (D.tags s).1.length ≤ 2147483647 ∧ ∀ p ∈ (D.tags s).1, p.2.length ≤ 2147483647
theorem decList_ty {el : RS → Option (GV × RS)} {T : GV → Prop} (hel : ∀ s g s', s.src.length ≤ 2147483647 → el s = some (g, s') → T g ∧ s'.src.length ≤ s.src.length) : ∀ (n : Nat) (s : RS) (l : List GV) (s' : RS), s.src.length ≤ 2147483647 →
    decList el n s = some (l, s') → (∀ g ∈ l, T g) ∧ l.length = n ∧ s'.src.length ≤ s.src.length
  | 0, s, l, s', hs, h => by simp only [decList, Option.some.injEq, Prod.mk.injEq] at h; obtain ⟨rfl, rfl⟩ := h; simp
  | n + 1, s, l, s', hs, h => by
    simp only [decList] at h
    cases he : el s with
    | none => simp [he] at h
    | some p =>
      obtain ⟨g, s1⟩ := p
      obtain ⟨h1, h2⟩ := hel s g s1 hs he
      simp only [he] at h
      cases hd : decList el n s1 with
      | none => simp [hd] at h
      | some q =>
        obtain ⟨l2, s2⟩ := q
        simp only [hd, Option.some.injEq, Prod.mk.injEq] at h
        obtain ⟨rfl, rfl⟩ := h
        obtain ⟨k1, k2, k3⟩ := decList_ty hel n s1 l2 s2 (by omega) hd
        refine ⟨fun x hx => ?_, by simp [k2], by omega⟩
        rcases List.mem_cons.1 hx with rfl | hx
        · exact h1
        · exact k1 x hx
theorem decLst_ty {D : Dec} (hD : D.Ok) {x : Bool} {sz : Nat} {el : RS → Option (GV × RS)} {T : GV → Prop} (hel : ∀ s g s', s.src.length ≤ 2147483647 → el s = some (g, s') → T g ∧ s'.src.length ≤ s.src.length) {s s' : RS} {g : GV} (hs : s.src.length ≤ 2147483647)
    (h : decLst D x sz el s = some (g, s')) : (∃ isnil z l, g = .lst isnil z l ∧ (∀ y ∈ l, T y) ∧ l.length ≤ 2147483647 ∧ (l = [] ∨ z = sz)) ∧ s'.src.length ≤ s.src.length := by
  unfold decLst at h
  split at h
  · simp at h
  · have h1 := hD.lenle x s
    have h2 := (hD.short x s).1
    cases hd : decList el (D.len x s).1.toNat (D.len x s).2 with
    | none => rw [hd] at h; simp at h
    | some q =>
      obtain ⟨l, s2⟩ := q
      rw [hd] at h
      simp only [Option.some.injEq, Prod.mk.injEq] at h
      obtain ⟨rfl, rfl⟩ := h
      obtain ⟨k1, k2, k3⟩ := decList_ty hel _ _ _ _ (by omega) hd
      refine ⟨⟨_, _, l, rfl, k1, by omega, ?_⟩, by omega⟩
      by_cases hz : (D.len x s).1 ≤ 0
      · left
        have : l.length = 0 := by omega
        exact List.length_eq_zero_iff.1 this
      · right; rw [if_neg hz]
theorem consD_some {f : Option (GV × RS)} {rest : RS → Option (List GV × RS)} {gs : List GV} {s' : RS} (h : consD f rest = some (gs, s')) : ∃ g s1 l, f = some (g, s1) ∧ rest s1 = some (l, s') ∧ gs = g :: l := by
  unfold consD at h
  cases f with
  | none => simp at h
  | some p =>
    obtain ⟨g, s1⟩ := p
    simp only at h
    cases hr : rest s1 with
    | none => simp [hr] at h
    | some q =>
      obtain ⟨l, s2⟩ := q
      simp only [hr, Option.some.injEq, Prod.mk.injEq] at h
      obtain ⟨rfl, rfl⟩ := h
      exact ⟨g, s1, l, rfl, hr, rfl⟩
theorem fit_dgv : ∀ (sc : Sc) (tl : Tl), fit sc tl = true → tl.ty sc.dgv := by
  intro sc
  induction sc with
  | nil => intro tl hf; cases tl <;> simp only [fit, Bool.false_eq_true] at hf; rfl
  | prm vc i r p d rest ih =>
    intro tl hf
    cases tl <;> simp only [fit, Bool.false_eq_true, Bool.and_eq_true] at hf
    · exact ⟨_, _, rfl, fitF_ty hf.1.1 (fitD_ty hf.1.2), ih _ hf.2⟩
    · have e : p = .uuid := by simpa using hf.1.1
      subst e
      obtain ⟨l, h1, h2⟩ := fitD_ty hf.1.2
      exact ⟨l, _, by rw [Sc.dgv, h1], h2, ih _ hf.2⟩
  | enm vc i r p d rest ih =>
    intro tl hf
    cases tl <;> simp only [fit, Bool.false_eq_true, Bool.and_eq_true] at hf
    exact ⟨_, _, rfl, fitF_ty hf.1.1 (fitD_ty hf.1.2), ih _ hf.2⟩
  | lsp vc len by' d i r p rest ih =>
    intro tl hf
    cases tl <;> simp only [fit, Bool.false_eq_true, Bool.and_eq_true] at hf
    exact ⟨_, _, _, _, rfl, by simp, by simp, .inl rfl, ih _ hf.2⟩
  | lss vc len by' z dfl body rest ihb ih =>
    intro tl hf
    cases tl with
    | lst k esz b r' =>
      cases k <;> simp only [fit, Bool.false_eq_true, Bool.and_eq_true] at hf
      exact ⟨_, _, _, _, rfl, by simp, by simp, .inl rfl, ih _ hf.2⟩
    | _ => simp [fit] at hf
  | sub vc dfl body rest ihb ih =>
    intro tl hf
    cases tl <;> simp only [fit, Bool.false_eq_true, Bool.and_eq_true] at hf
    exact ⟨_, _, rfl, ihb _ hf.1.1, ih _ hf.2, rfl⟩
  | uid vc f rest ih =>
    intro tl hf
    cases tl <;> simp only [fit, Bool.false_eq_true] at hf
    exact ⟨_, _, rfl, by simp, ih _ hf⟩
  | tags f =>
    intro tl hf
    cases tl <;> simp only [fit, Bool.false_eq_true] at hf
    exact ⟨[], rfl, by simp, by simp⟩
theorem fit_ty {D : Dec} (hD : D.Ok) {ver : Int} {x : Bool} : ∀ (sc : Sc) (tl : Tl) (s s' : RS) (gs : List GV), fit sc tl = true → s.src.length ≤ 2147483647 → sc.dec D ver x s = some (gs, s') → tl.ty gs ∧ s'.src.length ≤ s.src.length := by
  intro sc
  have prim : ∀ (vc : VC) (p : PK) (d : Df) (k : TK) (s s1 : RS) (g : GV), fitF p k = true → fitD p d = true → s.src.length ≤ 2147483647 → (if vc.holds ver then some (D.prim p x s) else some (d.gv, s)) = some (g, s1) → k.ty g ∧ s1.src.length ≤ s.src.length := by
    intro vc p d k s s1 g h1 h2 hs h
    split at h
    · simp only [Option.some.injEq] at h
      have e1 := hD.ty p x s hs
      have e2 := hD.prle p x s
      rw [h] at e1 e2
      exact ⟨fitF_ty h1 e1, e2⟩
    · simp only [Option.some.injEq, Prod.mk.injEq] at h
      obtain ⟨rfl, rfl⟩ := h
      exact ⟨fitF_ty h1 (fitD_ty h2), Nat.le_refl _⟩
  induction sc with
  | nil =>
    intro tl s s' gs hf hs h
    cases tl <;> simp only [fit, Bool.false_eq_true] at hf
    simp only [Sc.dec, Option.some.injEq, Prod.mk.injEq] at h
    obtain ⟨rfl, rfl⟩ := h
    exact ⟨rfl, Nat.le_refl _⟩
  | prm vc i r p d rest ih =>
    intro tl s s' gs hf hs h
    cases tl <;> simp only [fit, Bool.false_eq_true, Bool.and_eq_true] at hf
    · obtain ⟨g, s1, l, h1, h2, rfl⟩ := consD_some h
      obtain ⟨k1, k2⟩ := prim vc p d _ s s1 g hf.1.1 hf.1.2 hs h1
      obtain ⟨k3, k4⟩ := ih _ s1 s' l hf.2 (by omega) h2
      exact ⟨⟨g, l, rfl, k1, k3⟩, by omega⟩
    · have e : p = .uuid := by simpa using hf.1.1
      subst e
      obtain ⟨g, s1, l, h1, h2, rfl⟩ := consD_some h
      have : (∃ x, g = .arr x ∧ x.length = 16) ∧ s1.src.length ≤ s.src.length := by
        split at h1
        · simp only [Option.some.injEq] at h1
          have e1 := hD.ty .uuid x s hs
          have e2 := hD.prle .uuid x s
          rw [h1] at e1 e2
          exact ⟨e1, e2⟩
        · simp only [Option.some.injEq, Prod.mk.injEq] at h1
          obtain ⟨rfl, rfl⟩ := h1
          exact ⟨fitD_ty hf.1.2, Nat.le_refl _⟩
      obtain ⟨⟨y, rfl, hy⟩, k2⟩ := this
      obtain ⟨k3, k4⟩ := ih _ s1 s' l hf.2 (by omega) h2
      exact ⟨⟨y, l, rfl, hy, k3⟩, by omega⟩
  | enm vc i r p d rest ih =>
    intro tl s s' gs hf hs h
    cases tl <;> simp only [fit, Bool.false_eq_true, Bool.and_eq_true] at hf
    obtain ⟨g, s1, l, h1, h2, rfl⟩ := consD_some h
    obtain ⟨k1, k2⟩ := prim vc p d _ s s1 g hf.1.1 hf.1.2 hs h1
    obtain ⟨k3, k4⟩ := ih _ s1 s' l hf.2 (by omega) h2
    exact ⟨⟨g, l, rfl, k1, k3⟩, by omega⟩
  | lsp vc len by' d i r p rest ih =>
    intro tl s s' gs hf hs h
    cases tl with
    | lst k esz body r' =>
      simp only [fit, Bool.and_eq_true, decide_eq_true_eq] at hf
      obtain ⟨g, s1, l, h1, h2, rfl⟩ := consD_some h
      have : (∃ isnil z y, g = .lst isnil z y ∧ (∀ e ∈ y, k.ty body.ty e) ∧ y.length ≤ 2147483647 ∧ (y = [] ∨ z = esz)) ∧ s1.src.length ≤ s.src.length := by
        split at h1
        · rw [← hf.1.2]
          exact decLst_ty hD (fun s g s' hs h => by
            simp only [Option.some.injEq] at h
            have e1 := hD.ty p x s hs
            have e2 := hD.prle p x s
            rw [h] at e1 e2
            exact ⟨fitE_ty hf.1.1 e1, e2⟩) hs h1
        · simp only [Option.some.injEq, Prod.mk.injEq] at h1
          obtain ⟨rfl, rfl⟩ := h1
          exact ⟨⟨_, _, [], rfl, by simp, by simp, .inl rfl⟩, Nat.le_refl _⟩
      obtain ⟨⟨isnil, z, y, rfl, k1, k2, k3⟩, k4⟩ := this
      obtain ⟨k5, k6⟩ := ih _ s1 s' l hf.2 (by omega) h2
      exact ⟨⟨isnil, z, y, l, rfl, k1, k2, k3, k5⟩, by omega⟩
    | _ => simp [fit] at hf
  | lss vc len by' z dfl body rest ihb ih =>
    intro tl s s' gs hf hs h
    cases tl with
    | lst k esz b r' =>
      cases k with
      | tell f =>
        simp only [fit, Bool.and_eq_true, decide_eq_true_eq] at hf
        obtain ⟨g, s1, l, h1, h2, rfl⟩ := consD_some h
        have : (∃ isnil z y, g = .lst isnil z y ∧ (∀ e ∈ y, (EK.tell f).ty b.ty e) ∧ y.length ≤ 2147483647 ∧ (y = [] ∨ z = esz)) ∧ s1.src.length ≤ s.src.length := by
          split at h1
          · rw [← hf.1.2]
            refine decLst_ty hD (fun s g s' hs h => ?_) hs h1
            unfold rcdD at h
            cases hd : body.dec D ver x s with
            | none => rw [hd] at h; simp at h
            | some q =>
              obtain ⟨gl, s2⟩ := q
              rw [hd] at h
              simp only [Option.some.injEq, Prod.mk.injEq] at h
              obtain ⟨rfl, rfl⟩ := h
              obtain ⟨k1, k2⟩ := ihb b s s2 gl hf.1.1 hs hd
              exact ⟨⟨gl, rfl, k1⟩, k2⟩
          · simp only [Option.some.injEq, Prod.mk.injEq] at h1
            obtain ⟨rfl, rfl⟩ := h1
            exact ⟨⟨_, _, [], rfl, by simp, by simp, .inl rfl⟩, Nat.le_refl _⟩
        obtain ⟨⟨isnil, z, y, rfl, k1, k2, k3⟩, k4⟩ := this
        obtain ⟨k5, k6⟩ := ih _ s1 s' l hf.2 (by omega) h2
        exact ⟨⟨isnil, z, y, l, rfl, k1, k2, k3, k5⟩, by omega⟩
      | num c => simp [fit] at hf
      | str => simp [fit] at hf
    | _ => simp [fit] at hf
  | sub vc dfl body rest ihb ih =>
    intro tl s s' gs hf hs h
    cases tl <;> simp only [fit, Bool.false_eq_true, Bool.and_eq_true] at hf
    obtain ⟨g, s1, l, h1, h2, rfl⟩ := consD_some h
    rename_i f n b r'
    have : (∃ x, g = .rcd x ∧ b.ty x) ∧ s1.src.length ≤ s.src.length := by
      split at h1
      · unfold rcdD at h1
        cases hd : body.dec D ver x s with
        | none => rw [hd] at h1; simp at h1
        | some q =>
          obtain ⟨gl, s2⟩ := q
          rw [hd] at h1
          simp only [Option.some.injEq, Prod.mk.injEq] at h1
          obtain ⟨rfl, rfl⟩ := h1
          obtain ⟨k1, k2⟩ := ihb b s s2 gl hf.1.1 hs hd
          exact ⟨⟨gl, rfl, k1⟩, k2⟩
      · simp only [Option.some.injEq, Prod.mk.injEq] at h1
        obtain ⟨rfl, rfl⟩ := h1
        exact ⟨⟨_, rfl, fit_dgv body b hf.1.1⟩, Nat.le_refl _⟩
    obtain ⟨⟨y, rfl, hy⟩, k2⟩ := this
    obtain ⟨k3, k4⟩ := ih _ s1 s' l hf.2 (by omega) h2
    exact ⟨⟨y, l, rfl, hy, k3, rfl⟩, by omega⟩
  | uid vc f rest ih =>
    intro tl s s' gs hf hs h
    cases tl <;> simp only [fit, Bool.false_eq_true] at hf
    obtain ⟨g, s1, l, h1, h2, rfl⟩ := consD_some h
    have : (∃ x, g = .arr x ∧ x.length = 16) ∧ s1.src.length ≤ s.src.length := by
      split at h1
      · simp only [Option.some.injEq] at h1
        have e1 := hD.ty .uuid x s hs
        have e2 := hD.prle .uuid x s
        rw [h1] at e1 e2
        exact ⟨e1, e2⟩
      · simp only [Option.some.injEq, Prod.mk.injEq] at h1
        obtain ⟨rfl, rfl⟩ := h1
        exact ⟨⟨_, rfl, by simp⟩, Nat.le_refl _⟩
    obtain ⟨⟨y, rfl, hy⟩, k2⟩ := this
    obtain ⟨k3, k4⟩ := ih _ s1 s' l hf (by omega) h2
    exact ⟨⟨y, l, rfl, hy, k3⟩, by omega⟩
  | tags f =>
    intro tl s s' gs hf hs h
    cases tl <;> simp only [fit, Bool.false_eq_true] at hf
    simp only [Sc.dec] at h
    split at h
    · simp only [Option.some.injEq, Prod.mk.injEq] at h
      obtain ⟨rfl, rfl⟩ := h
      obtain ⟨k1, k2⟩ := hD.tagty s hs
      exact ⟨⟨_, rfl, k1, k2⟩, hD.tagle s⟩
    · simp only [Option.some.injEq, Prod.mk.injEq] at h
      obtain ⟨rfl, rfl⟩ := h
      exact ⟨⟨[], rfl, by simp, by simp⟩, Nat.le_refl _⟩
end Go.Msk
