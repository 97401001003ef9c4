/- A small language of resolved operations, and what the generic and the generated functions do in it (part 7). -/
import Derived.Test.YtioafahhbmhjmaaDoorFf

/-! Telling: the loop over a list; the other order. -/
namespace Go.Msk
open Go.RowKit
set_option maxRecDepth 100000

/-- A new slice of one tree. -/
def BT (n0 : Nat) (t : TR) (v : Value) (w : World) : Prop := ∃ sb cs, v = .slice (some ⟨sb, 0, none⟩) 1 1 ∧ n0 ≤ sb ∧ Blk w sb cs ∧ RepT (fun b => n0 ≤ b) w t cs

section
variable {P : Program}

theorem BT.mod {n0 : Nat} {t : TR} {v : Value} {w w' : World} {S : List Nat} (h : BT n0 t v w) (hm : Mod S w w') (hS : ∀ b ∈ S, b < n0) : BT n0 t v w' := by
  obtain ⟨sb, cs, h1, h2, h3, h4⟩ := h
  exact ⟨sb, cs, h1, h2, h3.mod hm (fun hc => by have := hS _ hc; omega), h4.mod hm (fun b hb hc => by have := hS b hb; omega) fun _ _ h => h⟩

theorem appBl_node {k : EK} {b i off iv esz jj : Nat} (h : jj ∈ k.node 13) : ∃ d, (appBl k b i off iv esz)[jj]? = some d ∧ d.node = true ∧ d.ri.guard = none ∧ d.ri.dst = some (b + 13 + (jj - 13)) := by
  obtain ⟨d, hd1, hd2⟩ := EK.dis_node (p := b + 12) (e := b + 13) h
  have hlt := EK.node_lt h
  have hlen0 : (headA (b + 2) i off iv esz).length = 11 := rfl
  refine ⟨d, ?_, hd2⟩
  unfold appBl
  rw [List.getElem?_append_right (by simp; omega), List.getElem?_append_right (by rw [hlen0]; simp; omega), hlen0, List.getElem?_append_left (by rw [EK.dis_length]; simp; omega)]
  simp only [List.length_cons, List.length_nil]
  rw [show jj - (0 + 1 + 1) - 11 = jj - 13 by omega]; exact hd1

theorem appBl_tail {k : EK} {b i off iv esz jj : Nat} : (appBl k b i off iv esz)[13 + k.n + jj]? = ([⟨⟨some (b + 13 + k.n), .bslice 1 tzero [(0, 5, .tmp (k.val (b + 13)))], none⟩, true, k.node 13⟩,
       ⟨⟨some (b + 14 + k.n), .append (.tmp (b + 6)) (.tmp (b + 13 + k.n)) 5 88, none⟩, true, k.node 13 ++ [13 + k.n]⟩,
       ⟨⟨some (b + 15 + k.n), .iad (.tmp (b + 1)) (.const (.int .i64 i)) 5, none⟩, false, k.node 13 ++ [13 + k.n, 14 + k.n]⟩,
       ⟨⟨some (b + 16 + k.n), .fad (.tmp (b + 15 + k.n)) 3, none⟩, false, k.node 13 ++ [13 + k.n, 14 + k.n]⟩] : List DI)[jj]? := by
  have hlen0 : (headA (b + 2) i off iv esz).length = 11 := rfl
  unfold appBl
  rw [List.getElem?_append_right (by simp; omega), List.getElem?_append_right (by rw [hlen0]; simp; omega), hlen0, List.getElem?_append_right (by rw [EK.dis_length]; simp; omega), EK.dis_length]
  simp only [List.length_cons, List.length_nil]
  rw [show 13 + k.n + jj - (0 + 1 + 1) - 11 - k.n = jj by omega]

theorem appBl_length (k : EK) (b i off iv esz : Nat) : (appBl k b i off iv esz).length = 17 + k.n := by
  have hlen0 : (headA (b + 2) i off iv esz).length = 11 := rfl
  unfold appBl
  simp only [List.length_append, List.length_cons, List.length_nil, hlen0, EK.dis_length]; omega

theorem appB_core {k : EK} {T : List GV → Prop} (hk : k.Ok P T) {a i off iv esz Tb Lb n B base A ao len cap j : Nat} {O S : List Nat} {pre post : List Value} {nl : Bool} {lv : Value} {ts : List TR} {tcs : List (List Value)} {g : GV} {gcs : List Value}
    {σ : Sl} {w0 w : World} {Q : Exit → Sl → World → Prop} {R : World → World → Prop} {App : Value → World → Prop} (ht : 4 ≤ a) (hiv : iv < a) (h0 : σ 0 = .pointer (some ⟨B, base, none⟩)) (h3 : σ 3 = .pointer (some ⟨Tb, 0, none⟩)) (hj : σ iv = .int .i64 j) (hi : i < n) (hjl : j < len)
    (hls : LS w0 w Tb Lb n pre post nl lv ts tcs) (hpre : pre.length = i * 5) (hc : w.cell? ⟨B, base + off, none⟩ = some (.slice (some ⟨A, ao, none⟩) len cap)) (hB : B < w0.heap.size) (hA : A < w0.heap.size)
    (hg : k.ty T g) (hr : Rep O w g gcs) (hcs : Cells w ⟨A, ao + j * esz, none⟩ gcs)
    (hS : ∀ b ∈ S, b ∈ O ∧ own lv = some b)
    (hRr : ∀ w, R w w) (hRt : ∀ u v w, R u v → R v w → R u w) (hRS : ∀ w1 w2, R w1 w2 → Mod S w1 w2) (hR0 : ∀ w1 w2, Mod [] w1 w2 → R w1 w2) (hAst : ∀ v w1 w2, App v w1 → R w1 w2 → App v w2)
    (happ : ∀ (σ : Sl) (x y : Operand) (w1 : World), R w.drew w1 → ev σ x = lv → BT w.heap.size g.told (ev σ y) w1 → (RK.append x y 5 88).run P σ w1 fun v w' => R w1 w' ∧ App v w')
    (hfin : ∀ w1 v, R w.drew w1 → App v w1 → ∃ cs, LRaw w1 w0.heap.size v (tcs ++ [cs]) ∧ (∀ b, own v = some b → own lv = some b ∨ w.heap.size ≤ b) ∧ RepT (fun b => w0.heap.size ≤ b ∧ own v ≠ some b) w1 g.told cs ∧ RepTL (fun b => w0.heap.size ≤ b ∧ own v ≠ some b) w1 ts tcs)
    (hQ : ∀ σ' w' lv' cs, Ag a σ σ' → LS w0 w' Tb Lb n pre post nl lv' (ts ++ [g.told]) (tcs ++ [cs]) → Q .normal σ' w') : wpC P (appB k a i off iv esz) Q σ w := by
  have hn := k.n_pos
  have hown : ∀ b ∈ S, w0.heap.size ≤ b ∧ b < w.heap.size := fun b hb => hls.raw.own (hS b hb).2
  have hTb := hls.ltb
  have hLb := hls.llb
  have nT : Tb ∉ S := fun hx => by have := hown _ hx; omega
  have nL : Lb ∉ S := fun hx => by have := hown _ hx; omega
  have nB : B ∉ S := fun hx => by have := hown _ hx; omega
  have nA : ∀ x ∈ S, x ≠ A := fun x hx e => by have := hown _ hx; omega
  have hls' : LS w0 w.drew Tb Lb n pre post nl lv ts tcs := hls.same (Mod.drew _ _)
  have htw : ∀ w1, R w.drew w1 → TW w1 Tb Lb n (pre ++ ([.int .i64 0, .slice none 0 0, .bool nl, lv, .slice none 0 0] ++ post)) := fun w1 hm => hls'.tw.mod (hRS _ _ hm) nT nL
  have c3 : ∀ w1, R w.drew w1 → w1.cell? ⟨Tb, 3, none⟩ = some (.slice (some ⟨Lb, 0, none⟩) n n) := fun w1 hm => (htw w1 hm).tb.cell 3
  have hcl : ∀ w1, R w.drew w1 → w1.cell? ⟨Lb, i * 5 + 3, none⟩ = some lv := fun w1 hm => by
    rw [(htw w1 hm).lb.cell]
    rw [← hpre]; simp
  simp only [appB, wpC]
  refine ⟨R, fun jj v w1 => if jj = 13 + k.n then BT w.heap.size g.told v w1 else if jj = 14 + k.n then App v w1 else k.Phi w.heap.size g v w1, NT, hRr, hRt, fun jj v w1 w2 h hm => ?_, fun _ => trivial, ?_⟩
  · dsimp only at h ⊢
    split at h
    · rename_i hjj
      rw [if_pos hjj]; exact h.mod (hRS _ _ hm) fun b hb => (hown b hb).2
    · rename_i hjj
      rw [if_neg hjj]
      split at h
      · rename_i hjj2
        rw [if_pos hjj2]; exact hAst _ _ _ h hm
      · rename_i hjj2
        rw [if_neg hjj2]; exact h.mod (hRS _ _ hm) fun b hb => (hown b hb).2
  have hunf : ∀ (l : List DI) E, walk P l R (fun jj v w1 => if jj = 13 + k.n then BT w.heap.size g.told v w1 else if jj = 14 + k.n then App v w1 else k.Phi w.heap.size g v w1) NT w.drew E 0 (appBl k a i off iv esz) σ =
      walk P l R (fun jj v w1 => if jj = 13 + k.n then BT w.heap.size g.told v w1 else if jj = 14 + k.n then App v w1 else k.Phi w.heap.size g v w1) NT w.drew E 0 ([nd ⟨some a, .fad (.tmp 3) 3, none⟩, nd ⟨some (a + 1), .ld (.tmp a), none⟩] ++ (headA (a + 2) i off iv esz ++ (k.dis (a + 12) (a + 13) 13 ++
      [⟨⟨some (a + 13 + k.n), .bslice 1 tzero [(0, 5, .tmp (k.val (a + 13)))], none⟩, true, k.node 13⟩,
       ⟨⟨some (a + 14 + k.n), .append (.tmp (a + 6)) (.tmp (a + 13 + k.n)) 5 88, none⟩, true, k.node 13 ++ [13 + k.n]⟩,
       ⟨⟨some (a + 15 + k.n), .iad (.tmp (a + 1)) (.const (.int .i64 i)) 5, none⟩, false, k.node 13 ++ [13 + k.n, 14 + k.n]⟩,
       ⟨⟨some (a + 16 + k.n), .fad (.tmp (a + 15 + k.n)) 3, none⟩, false, k.node 13 ++ [13 + k.n, 14 + k.n]⟩]))) σ := fun _ _ => rfl
  rw [hunf]
  simp only [nd, List.cons_append, List.nil_append]
  refine walk_step (v := .pointer (some ⟨Tb, 3, none⟩)) (fun w hw => by simp only [RK.val?, ev, h3, Addr.add_mk, Nat.zero_add]) ?_
  refine walk_step (v := .slice (some ⟨Lb, 0, none⟩) n n) (fun w hw => by simp only [RK.val?, ev, updo, upd_same, c3 w hw]) ?_
  have e0 : ∀ q, q < a → (updo (updo σ (some a) (.pointer (some ⟨Tb, 3, none⟩))) (some (a + 1)) (.slice (some ⟨Lb, 0, none⟩) n n)) q = σ q := fun q hq => by
    simp only [updo, upd, show q ≠ a by omega, show q ≠ a + 1 by omega, if_false]
  have e1 : (updo (updo σ (some a) (.pointer (some ⟨Tb, 3, none⟩))) (some (a + 1)) (.slice (some ⟨Lb, 0, none⟩) n n)) (a + 1) = .slice (some ⟨Lb, 0, none⟩) n n := by simp only [updo, upd_same]
  generalize (updo (updo σ (some a) (.pointer (some ⟨Tb, 3, none⟩))) (some (a + 1)) (.slice (some ⟨Lb, 0, none⟩) n n)) = σx at e0 e1
  refine headA_walk (idx := 2) (t := a + 2) (by omega) (by omega) ((e0 0 (by omega)).trans h0) ((e0 3 (by omega)).trans h3) ((e0 iv hiv).trans hj) hi hjl c3 hcl (fun w1 hm => cell_mod (w := w.drew) hc (hRS _ _ hm) nB) fun σ1 a1 s1 s4 s10 => ?_
  refine EK.walk_wp (S := S) (p := a + 12) (e := a + 13) (idx := 13) hk (by omega) s10 (fun w1 hm => hRS _ _ hm) hR0 (fun x hx => ⟨(hS x hx).1, nA x hx⟩) hg (hr.fresh (Mod.drew [] w) (by simp) (fun x hx => .inl hx)) (hcs.mod (Mod.drew [] w) (.inr (by simp))) (.inr trivial) (fun jj v w1 hjj => ?_) fun σ2 a2 hval => ?_
  · have := EK.node_lt hjj
    rw [if_neg (by omega), if_neg (by omega)]; exact Iff.rfl
  have hkv : k.val (a + 13) < a + 13 + k.n := by unfold EK.val; omega
  have hlen0 : (headA (a + 2) i off iv esz).length = 11 := rfl
  -- what a node of the element is in the whole list
  have hnode : ∀ (js : List Nat) (σ3 : Sl) (w1 : World), (∀ q, q < a + 13 + k.n → σ3 q = σ2 q) → (∀ jj ∈ k.node 13, jj ∈ js) →
      known (appBl k a i off iv esz) (fun jj v w1 => if jj = 13 + k.n then BT w.heap.size g.told v w1 else if jj = 14 + k.n then App v w1 else k.Phi w.heap.size g v w1) js σ3 w1 →
      ∃ cs, σ2 (k.val (a + 13)) = .agg cs.toArray ∧ RepT (fun b => w.drew.heap.size ≤ b) w1 g.told cs := fun js σ3 w1 h3 hjs hkn => hval w1 fun jj hjj => by
    obtain ⟨d, hd1, hd2, hd3, hd4⟩ := appBl_node (b := a) (i := i) (off := off) (iv := iv) (esz := esz) hjj
    have hlt := EK.node_lt hjj
    have := hkn jj (hjs jj hjj) d hd1 hd2 (by rw [hd3]; rfl) _ hd4
    rwa [h3 _ (by omega)] at this
  refine walk_node (fun w1 hm hkn => ?_) fun u hu => ?_
  · obtain ⟨cs, hv, htree⟩ := hnode _ σ2 w1 (fun _ _ => rfl) (fun jj hjj => hjj) hkn
    refine bslice_run (cs := cs) (n0 := w.heap.size) hv htree.five (hRS _ _ hm).size fun v w2 hbs hm2 => ?_
    obtain ⟨sb, cs', h1, h2, h3, h4, h5⟩ := hbs
    have hes' : cs' = cs := by
      have := congrArg (fun v => match v with | Value.agg a => a.toList | _ => []) h5
      simpa using this
    subst hes'
    refine ⟨hR0 _ _ hm2, ?_⟩
    rw [if_pos (by omega)]
    exact ⟨sb, cs', h1, h2, h3, htree.mod hm2 (by simp) fun _ _ h => h⟩
  refine walk_node (fun w1 hm hkn => ?_) fun lv' hlv' => ?_
  · have hbs := hkn (13 + k.n) (by simp) _ (appBl_tail (jj := 0)) rfl rfl _ rfl
    dsimp only at hbs
    rw [if_pos rfl] at hbs
    have := happ (updo σ2 (some (a + 13 + k.n)) u) (.tmp (a + 6)) (.tmp (a + 13 + k.n)) w1 hm (by
      simp only [ev, updo, upd, show a + 6 ≠ a + 13 + k.n by omega, if_false]; rw [a2 _ (by omega)]; exact s4) hbs
    refine run_mono this fun v w2 ⟨k1, k2⟩ => ⟨k1, ?_⟩
    rw [if_neg (by omega), if_pos (by omega)]; exact k2
  have st1 : σ2 (a + 1) = .slice (some ⟨Lb, 0, none⟩) n n := by rw [a2 _ (by omega), a1 _ (by omega)]; exact e1
  refine walk_step (v := .pointer (some ⟨Lb, i * 5, none⟩)) (fun w1 _ => by
    simp only [RK.val?, ev, updo, upd, show a + 1 ≠ a + 13 + k.n by omega, show a + 1 ≠ a + 14 + k.n by omega, if_false, st1]; rw [if_pos (by omega)]; simp [Addr.add_mk]) ?_
  refine walk_step (v := .pointer (some ⟨Lb, i * 5 + 3, none⟩)) (fun w1 _ => by simp only [RK.val?, ev, updo, upd_same, Addr.add_mk]) ?_
  simp only [walk]
  intro w1 hm hkn
  have hap := hkn (13 + k.n + 1) (by rw [List.mem_range, appBl_length]; omega) _ (appBl_tail (jj := 1)) rfl rfl _ rfl
  dsimp only at hap
  rw [if_neg (by omega), if_pos (by omega)] at hap
  have f14 : updo (updo (updo (updo σ2 (some (a + 13 + k.n)) u) (some (a + 14 + k.n)) lv') (some (a + 15 + k.n)) (.pointer (some ⟨Lb, i * 5, none⟩))) (some (a + 16 + k.n)) (.pointer (some ⟨Lb, i * 5 + 3, none⟩)) (a + 14 + k.n) = lv' := by
    simp only [updo, upd, show a + 14 + k.n ≠ a + 15 + k.n by omega, show a + 14 + k.n ≠ a + 16 + k.n by omega, if_false, if_true]
  rw [f14] at hap
  obtain ⟨cs, hraw, hown2, htree, hrep⟩ := hfin w1 lv' hm hap
  obtain ⟨o1, o2⟩ := hraw.one
  obtain ⟨k1, k2, k3⟩ := (htw w1 hm).setL hpre o1 o2
  have f16 : updo (updo (updo (updo σ2 (some (a + 13 + k.n)) u) (some (a + 14 + k.n)) lv') (some (a + 15 + k.n)) (.pointer (some ⟨Lb, i * 5, none⟩))) (some (a + 16 + k.n)) (.pointer (some ⟨Lb, i * 5 + 3, none⟩)) (a + 16 + k.n) = .pointer (some ⟨Lb, i * 5 + 3, none⟩) := by
    simp only [updo, upd_same]
  simp only [wpR, RI.wp, gOk, if_true, RK.run, ev, f14, f16]
  refine ⟨by rw [o1]; rfl, k1, ?_⟩
  have hge : ∀ b, own lv' = some b → w0.heap.size ≤ b := fun b hb => (hraw.own hb).1
  have hmS := hRS _ _ hm
  refine hQ _ _ lv' cs (fun q hq => ?_) ⟨k2, hraw.mod k3 (fun b hb => by have := hge b hb; simp; omega), ?_, ?_, hls.ltb, hls.llb⟩
  · simp only [updo, upd, show q ≠ a + 13 + k.n by omega, show q ≠ a + 14 + k.n by omega, show q ≠ a + 15 + k.n by omega, show q ≠ a + 16 + k.n by omega, if_false]
    rw [a2 _ (by omega), a1 _ (by omega), e0 _ hq]
  · exact (hrep.append (.cons htree .nil)).mod k3 (fun b hb hx => by simp only [List.mem_singleton] at hb; omega) (fun _ _ h => h)
  · have hm0 := hls'.mod
    refine ⟨k3.os.trans (hmS.os.trans hm0.os), k3.tape.trans (hmS.tape.trans hm0.tape), k3.output.trans (hmS.output.trans hm0.output), Nat.le_trans hm0.size (Nat.le_trans hmS.size k3.size), fun b hb hnb => ?_⟩
    rw [k3.block b (Nat.lt_of_lt_of_le hb (Nat.le_trans hm0.size hmS.size)) hnb, hmS.block b (Nat.lt_of_lt_of_le hb hm0.size) (fun hx => by have := hown _ hx; omega)]
    exact hm0.block b hb hnb

end
end Go.Msk

/-! Telling: the loop over a list, whole. -/
namespace Go.Msk
open Go.RowKit
set_option maxRecDepth 100000

section
variable {P : Program}

theorem appB_wp {k : EK} {T : List GV → Prop} (hk : k.Ok P T) {a i off iv esz Tb Lb n B base A ao len cap j : Nat} {O : List Nat} {pre post : List Value} {nl : Bool} {lv : Value} {ts : List TR} {tcs : List (List Value)} {g : GV} {gcs : List Value}
    {σ : Sl} {w0 w : World} {Q : Exit → Sl → World → Prop} (ht : 4 ≤ a) (hiv : iv < a) (h0 : σ 0 = .pointer (some ⟨B, base, none⟩)) (h3 : σ 3 = .pointer (some ⟨Tb, 0, none⟩)) (hj : σ iv = .int .i64 j) (hi : i < n) (hjl : j < len)
    (hls : LS w0 w Tb Lb n pre post nl lv ts tcs) (hpre : pre.length = i * 5) (hc : w.cell? ⟨B, base + off, none⟩ = some (.slice (some ⟨A, ao, none⟩) len cap)) (hB : B < w0.heap.size) (hA : A < w0.heap.size)
    (hg : k.ty T g) (hr : Rep O w g gcs) (hcs : Cells w ⟨A, ao + j * esz, none⟩ gcs) (hlen : tcs.length ≤ 2147483647) (hO : ∀ b, own lv = some b → b ∈ O)
    (hQ : ∀ σ' w' lv' cs, Ag a σ σ' → LS w0 w' Tb Lb n pre post nl lv' (ts ++ [g.told]) (tcs ++ [cs]) → Q .normal σ' w') : wpC P (appB k a i off iv esz) Q σ w := by
  have hnw : w0.heap.size ≤ w.heap.size := hls.mod.size
  have hls' : LS w0 w.drew Tb Lb n pre post nl lv ts tcs := hls.same (Mod.drew _ _)
  by_cases hin : ∃ BA c, lv = .slice (some ⟨BA, 0, none⟩) tcs.length c ∧ tcs.length + 1 ≤ c
  · obtain ⟨BA, c, rfl, hc1⟩ := hin
    obtain ⟨o1, o2⟩ := hls.raw.own (b := BA) rfl
    let lv2 : Value := .slice (some ⟨BA, 0, none⟩) (tcs.length + 1) c
    let Fin : World → Prop := fun w' => ∃ cs, LRaw w' w0.heap.size lv2 (tcs ++ [cs]) ∧ RepT (fun b => w.heap.size ≤ b) w' g.told cs
    have finMod : ∀ w1 w2, Fin w1 → Mod [] w1 w2 → Fin w2 := fun w1 w2 ⟨cs, h1, h2⟩ hm => ⟨cs, h1.mod hm (by simp), h2.mod hm (by simp) fun _ _ h => h⟩
    refine appB_core hk (S := [BA]) (R := fun w1 w2 => Mod [] w1 w2 ∨ (Mod [BA] w1 w2 ∧ Fin w2)) (App := fun v w1 => v = lv2 ∧ Fin w1) ht hiv h0 h3 hj hi hjl hls hpre hc hB hA hg hr hcs
      (fun b hb => by simp only [List.mem_singleton] at hb; subst hb; exact ⟨hO _ rfl, rfl⟩) (fun _ => .inl (Mod.refl _ _)) ?_ ?_ (fun _ _ h => .inl h) ?_ ?_ ?_ hQ
    · rintro u v w' (h1 | ⟨h1, f1⟩) (h2 | ⟨h2, f2⟩)
      · exact .inl (h1.trans h2)
      · exact .inr ⟨h1.nil.trans h2, f2⟩
      · exact .inr ⟨h1.trans h2.nil, finMod _ _ f1 h2⟩
      · exact .inr ⟨h1.trans h2, f2⟩
    · rintro w1 w2 (h1 | ⟨h1, -⟩)
      · exact h1.nil
      · exact h1
    · rintro v w1 w2 ⟨rfl, f1⟩ (h1 | ⟨h1, f2⟩)
      · exact ⟨rfl, finMod _ _ f1 h1⟩
      · exact ⟨rfl, f2⟩
    · intro σ x y w1 hR hx hy
      obtain ⟨sb, cs, hy, hsb, hblk, htree⟩ := hy
      have hM : Mod [BA] w.drew w1 := hR.elim (·.nil) (·.1)
      have hsz : w.heap.size ≤ w1.heap.size := hM.size
      -- the list's block, as it is now
      have hrawblk : ∃ rest, Blk w1 BA (tcs.flatten ++ rest) ∧ rest.length = (c - tcs.length) * 5 := by
        rcases hR with h1 | ⟨-, cs', f1, -⟩
        · rcases (hls'.raw.mod h1 (by simp)).sl with ⟨h, -⟩ | ⟨BA', c', rest, h, -, -, hb, hl⟩
          · simp at h
          · simp only [Value.slice.injEq, Option.some.injEq, Addr.mk.injEq, and_true, true_and] at h
            obtain ⟨rfl, rfl⟩ := h
            exact ⟨rest, hb, hl⟩
        · have h5 := f1.five cs' (by simp)
          rcases f1.sl with ⟨h, -⟩ | ⟨BA', c', rest, h, -, -, hb, hl⟩
          · simp [lv2] at h
          · simp only [lv2, List.length_append, List.length_cons, List.length_nil, Value.slice.injEq, Option.some.injEq, Addr.mk.injEq, and_true, true_and] at h
            obtain ⟨rfl, -, rfl⟩ := h
            refine ⟨cs' ++ rest, by simpa using hb, ?_⟩
            simp only [List.length_append, List.length_cons, List.length_nil] at hl ⊢
            omega
      obtain ⟨rest, hb, hl⟩ := hrawblk
      have hraw1 : LRaw w1 w0.heap.size (.slice (some ⟨BA, 0, none⟩) tcs.length c) tcs := ⟨hls.raw.five, .inr ⟨BA, c, rest, rfl, by omega, o1, hb, hl⟩⟩
      have hfl := flat5 hls.raw.five
      have hput : Mod [BA] w1 (putCells w1 ⟨BA, tcs.length * 5, none⟩ 0 cs) := Mod.put (by simp)
      have h5 := htree.five
      have hsrc : srcCells w1 5 (.slice (some ⟨sb, 0, none⟩) 1 1) = some (1, cs) := by
        simp only [srcCells, cellsAt_of' hblk.cells (n := 1 * 5) (by omega), Option.map_some]
      have hfin : Fin (putCells w1 ⟨BA, tcs.length * 5, none⟩ 0 cs) := by
        refine ⟨cs, ⟨fun d hd => ?_, .inr ⟨BA, c, rest.drop 5, by simp [lv2], by simpa using hc1, o1, ?_, by simp; omega⟩⟩, htree.mod hput (fun b hb hx => by simp only [List.mem_singleton] at hb; omega) fun _ _ h => h⟩
        · rcases List.mem_append.1 hd with hd | hd
          · exact hls.raw.five d hd
          · simp only [List.mem_singleton] at hd; subst hd; exact h5
        · have hp := hb.put (o := tcs.length * 5) (vs := cs) (by simp only [List.length_append]; omega)
          rwa [splice_end hfl, h5, ← List.append_assoc, ← flat_snoc] at hp
      simp only [RK.run, hx, hy, hsrc, appendRun]
      rw [if_pos hc1]
      simp only [Addr.add_mk, Nat.zero_add]
      exact ⟨stOk_many hb (by simp only [List.length_append]; omega) htree.oneCell, .inr ⟨hput, hfin⟩, rfl, hfin⟩
    · rintro w1 v hR ⟨rfl, cs, f1, f2⟩
      have hM : Mod [BA] w.drew w1 := hR.elim (·.nil) (·.1)
      have t1 : RepT (fun b => w0.heap.size ≤ b ∧ own lv2 ≠ some b) w1 g.told cs := f2.mod (Mod.refl [] _) (by simp) (by
        intro b _ hb
        refine ⟨by omega, fun e => ?_⟩
        have : BA = b := by simpa [lv2, own] using e
        omega)
      have t2 : RepTL (fun b => w0.heap.size ≤ b ∧ own lv2 ≠ some b) w1 ts tcs := hls'.rep.mod hM (by
        intro b hb hx
        simp only [List.mem_singleton] at hb; subst hb; exact hx.2 rfl) fun _ _ h => h
      exact ⟨cs, f1, fun b hb => .inl hb, t1, t2⟩
  · -- a new block is made
    refine appB_core hk (S := []) (R := fun w1 w2 => Mod [] w1 w2) (App := fun v w1 => ∃ cs b, own v = some b ∧ w.heap.size ≤ b ∧ LRaw w1 w0.heap.size v (tcs ++ [cs]) ∧ RepT (fun b => w.heap.size ≤ b ∧ own v ≠ some b) w1 g.told cs)
      ht hiv h0 h3 hj hi hjl hls hpre hc hB hA hg hr hcs (by simp) (fun _ => Mod.refl _ _) (fun _ _ _ => Mod.trans) (fun _ _ h => h) (fun _ _ h => h) ?_ ?_ ?_ hQ
    · rintro v w1 w2 ⟨cs, b, h1, h2, h3, h4⟩ hm
      exact ⟨cs, b, h1, h2, h3.mod hm (by simp), h4.mod hm (by simp) fun _ _ h => h⟩
    · intro σ x y w1 hR hx hy
      obtain ⟨sb, cs, hy, hsb, hblk, htree⟩ := hy
      refine append_tree hx (hls'.raw.mod hR (by simp)) (Nat.le_trans hnw hR.size) hy hblk htree.five htree.oneCell hlen fun lv' w' hraw' hown => ?_
      rcases hown with ⟨-, h2⟩ | ⟨h1, h2⟩
      · exact absurd h2 hin
      · refine ⟨h2, cs, w1.heap.size, h1, hR.size, hraw', htree.mod h2 (by simp) (by
          intro b hb hx
          refine ⟨hx, fun e => ?_⟩
          rw [h1] at e; simp only [Option.some.injEq] at e; omega)⟩
    · rintro w1 v hR ⟨cs, b, h1, h2, h3, h4⟩
      have t1 : RepT (fun b => w0.heap.size ≤ b ∧ own v ≠ some b) w1 g.told cs := h4.mod (Mod.refl [] _) (by simp) (by
        intro b' _ hb'
        exact ⟨by omega, hb'.2⟩)
      have t2 : RepTL (fun b => w0.heap.size ≤ b ∧ own v ≠ some b) w1 ts tcs := hls'.rep.mod hR (by simp) (by
        intro b' hb' hx
        refine ⟨hx.1, fun e => ?_⟩
        rw [h1] at e; simp only [Option.some.injEq] at e
        have : b' < w.heap.size := hb'
        omega)
      exact ⟨cs, h3, fun b' hb' => .inr (by rw [h1] at hb'; simp only [Option.some.injEq] at hb'; omega), t1, t2⟩

end
end Go.Msk

/-! Telling: a field that is a list. -/
namespace Go.Msk
open Go.RowKit
set_option maxRecDepth 100000

def nullF (i t off : Nat) : IC :=
  .drw (headD t off ++ [nd ⟨some (t + 6), .isnil .sl false (.tmp (t + 5)), none⟩, nd ⟨some (t + 7), .iad (.tmp (t + 1)) (.const (.int .i64 i)) 5, none⟩, nd ⟨some (t + 8), .fad (.tmp (t + 7)) 2, none⟩])
    [⟨none, .st (.tmp (t + 8)) 1 (.tmp (t + 6)), none⟩]

def loopT (k : EK) (i s off iv nb esz : Nat) : IC :=
  .seq (.blk [⟨some s, .mv (.tmp 0), none⟩, ⟨some (s + 1), .nilc (.tmp s), none⟩, ⟨some (s + 2), .fad (.tmp (s + 1)) off, none⟩, ⟨some (s + 3), .ld (.tmp (s + 2)), none⟩, ⟨some (s + 4), .len (.tmp (s + 3)), none⟩, ⟨some (s + 5), .mv (.const (.int .i64 0)), none⟩])
    (.block nb (.loop (.seq (.blk [⟨some (s + 6), .bin .lss (.tmp (s + 5)) (.tmp (s + 4)), none⟩]) (.seq (.cond (.tmp (s + 6)) .skip (.exit nb))
      (.seq (.block (nb + 1) (.seq (.blk [⟨some (s + 7), .mv (.tmp (s + 5)), none⟩, ⟨some iv, .mv (.tmp (s + 7)), none⟩]) (.seq (.rnd (s + 8) (s + 9)) (.cond (.tmp (s + 9)) (appA k (s + 10) i off iv esz) (appB k (s + 27 + k.n) i off iv esz)))))
        (.blk [⟨some (s + 44 + 2 * k.n), .bin .add (.tmp (s + 5)) (.const (.int .i64 1)), none⟩, ⟨some (s + 5), .mv (.tmp (s + 44 + 2 * k.n)), none⟩]))))))

section
variable {P : Program}


theorem nullF_wp {i t off Tb Lb n B base : Nat} {pre post : List Value} {sb : Option Addr} {len cap : Nat} {σ : Sl} {w : World} {Q : Exit → Sl → World → Prop} (ht : 4 ≤ t)
    (h0 : σ 0 = .pointer (some ⟨B, base, none⟩)) (h3 : σ 3 = .pointer (some ⟨Tb, 0, none⟩)) (hw : TW w Tb Lb n (pre ++ (tzero ++ post))) (hpre : pre.length = i * 5) (hi : i < n)
    (hc : w.cell? ⟨B, base + off, none⟩ = some (.slice sb len cap))
    (hQ : ∀ σ' w', Ag t σ σ' → Mod [Lb] w w' → w'.heap.size = w.heap.size → TW w' Tb Lb n (pre ++ ([.int .i64 0, .slice none 0 0, .bool sb.isNone, .slice none 0 0, .slice none 0 0] ++ post)) → Q .normal σ' w') : wpC P (nullF i t off) Q σ w := by
  have c3 : w.drew.cell? ⟨Tb, 3, none⟩ = some (.slice (some ⟨Lb, 0, none⟩) n n) := hw.tb.cell 3
  simp only [nullF, wpC]
  refine wpD_pure rfl (head_wpR ht h0 h3 c3 (show w.drew.cell? _ = _ from hc) fun σ1 a1 s1 s5 => ?_)
  simp only [nd, List.map_cons, List.map_nil, List.cons_append, List.nil_append]
  refine wpR_step (v := .bool sb.isNone) (by simp only [RK.val?, ev, s5, Bool.false_eq_true, if_false]) ?_
  refine wpR_step (v := .pointer (some ⟨Lb, i * 5, none⟩)) (by
    simp only [RK.val?, ev, updo, upd, show t + 1 ≠ t + 6 by omega, if_false, s1]; rw [if_pos (by omega)]; simp [Addr.add_mk]) ?_
  refine wpR_step (v := .pointer (some ⟨Lb, i * 5 + 2, none⟩)) (by simp only [RK.val?, ev, updo, upd_same, Addr.add_mk]) ?_
  simp only [wpR, RI.wp, gOk, if_true, RK.run, ev, updo, upd_same]
  have e6 : ∀ x y z, upd (upd (upd σ1 (t + 6) x) (t + 7) y) (t + 8) z (t + 6) = x := fun x y z => by
    simp only [upd, show t + 6 ≠ t + 7 by omega, show t + 6 ≠ t + 8 by omega, if_false, if_true]
  rw [e6]
  have hlb : Blk w.drew Lb (pre ++ (tzero ++ post)) := hw.lb
  have hput : Mod [Lb] w.drew (putCells w.drew ⟨Lb, i * 5 + 2, none⟩ 0 [.bool sb.isNone]) := Mod.put (by simp)
  refine ⟨rfl, stOk_many hlb (by simp [tzero, Value.cells]; omega) (by simp [Value.cells, Value.oneCell']), hQ _ _ (fun j hj => ?_) ((Mod.drew _ _).trans hput) (by rw [size_putCells]; rfl) ⟨?_, ?_, hw.ne⟩⟩
  · simp only [upd, show j ≠ t + 6 by omega, show j ≠ t + 7 by omega, show j ≠ t + 8 by omega, if_false]
    exact a1 j hj
  · exact (show Blk w.drew Tb _ from hw.tb).mod hput (by simpa using hw.ne)
  · have hp := hlb.put (o := i * 5 + 2) (vs := [.bool sb.isNone]) (by simp [tzero]; omega)
    have e1 : ∀ x, pre ++ ([.int .i64 0, .slice none 0 0, x, .slice none 0 0, .slice none 0 0] ++ post) = (pre ++ [.int .i64 0, .slice none 0 0]) ++ ([x] ++ ([.slice none 0 0, .slice none 0 0] ++ post)) := fun x => by simp
    rw [show tzero = [.int .i64 0, .slice none 0 0, .bool false, .slice none 0 0, .slice none 0 0] from rfl, e1, splice_mid (old := [.bool false]) (vs := [.bool sb.isNone]) (by simp only [List.length_append, List.length_cons, List.length_nil]; omega) rfl] at hp
    rw [e1]; exact hp

theorem _root_.Go.Msk.RepL.nth {O : List Nat} {w : World} {gs : List GV} {css : List (List Value)} (h : RepL O w gs css) {j : Nat} {g : GV} (hg : gs[j]? = some g) : ∃ cs, css[j]? = some cs ∧ Rep O w g cs := by
  induction gs generalizing css j with
  | nil => simp at hg
  | cons a l ih =>
    cases h with
    | cons h1 h2 =>
      cases j with
      | zero => simp only [List.getElem?_cons_zero, Option.some.injEq] at hg; subst hg; exact ⟨_, rfl, h1⟩
      | succ j => simp only [List.getElem?_cons_succ] at hg ⊢; exact ih h2 hg

theorem flat_cells {w : World} {a : Addr} {css : List (List Value)} {sz j : Nat} {cs : List Value} (h : Cells w a css.flatten) (hsz : ∀ c ∈ css, c.length = sz) (hj : css[j]? = some cs) : Cells w ⟨a.block, a.off + j * sz, none⟩ cs := by
  induction css generalizing a j with
  | nil => simp at hj
  | cons c css ih =>
    cases j with
    | zero =>
      simp only [List.getElem?_cons_zero, Option.some.injEq] at hj; subst hj
      have := h.take c.length
      simp only [List.flatten_cons, List.take_left] at this
      have hs := h.1
      cases a; simp only at hs; subst hs
      simpa using this
    | succ j =>
      simp only [List.getElem?_cons_succ] at hj
      have h1 := h.sub c.length
      simp only [List.flatten_cons, List.drop_left] at h1
      have h2 := ih h1 (fun d hd => hsz d (List.mem_cons_of_mem _ hd)) hj
      rw [hsz c List.mem_cons_self] at h2
      simp only at h2
      rw [show a.off + (j + 1) * sz = a.off + sz + j * sz by rw [Nat.succ_mul]; omega]
      exact h2

theorem lpHead_wp {s off B base : Nat} {len cap : Nat} {sb : Option Addr} {σ : Sl} {w : World} {Q : Exit → Sl → World → Prop} (h0 : σ 0 = .pointer (some ⟨B, base, none⟩)) (hc : w.cell? ⟨B, base + off, none⟩ = some (.slice sb len cap))
    (hQ : ∀ σ', Ag s σ σ' → σ' (s + 4) = .int .i64 len → σ' (s + 5) = .int .i64 0 → Q .normal σ' w) :
    wpC P (.blk [⟨some s, .mv (.tmp 0), none⟩, ⟨some (s + 1), .nilc (.tmp s), none⟩, ⟨some (s + 2), .fad (.tmp (s + 1)) off, none⟩, ⟨some (s + 3), .ld (.tmp (s + 2)), none⟩, ⟨some (s + 4), .len (.tmp (s + 3)), none⟩, ⟨some (s + 5), .mv (.const (.int .i64 0)), none⟩]) Q σ w := by
  simp only [wpC]
  refine wpR_step (v := .pointer (some ⟨B, base, none⟩)) (by simp only [RK.val?, ev, h0]) ?_
  refine wpR_step (v := .pointer (some ⟨B, base, none⟩)) (by simp only [RK.val?, ev, updo, upd_same]) ?_
  refine wpR_step (v := .pointer (some ⟨B, base + off, none⟩)) (by simp only [RK.val?, ev, updo, upd_same, Addr.add_mk]) ?_
  refine wpR_step (v := .slice sb len cap) (by simp only [RK.val?, ev, updo, upd_same, hc]) ?_
  refine wpR_step (v := .int .i64 len) (by simp only [RK.val?, ev, updo, upd_same]) ?_
  refine wpR_step (v := .int .i64 0) (by simp only [RK.val?, ev]) ?_
  simp only [wpR]
  refine hQ _ (fun q hq => ?_) ?_ ?_
  · simp only [updo, upd, show q ≠ s by omega, show q ≠ s + 1 by omega, show q ≠ s + 2 by omega, show q ≠ s + 3 by omega, show q ≠ s + 4 by omega, show q ≠ s + 5 by omega, if_false]
  · simp only [updo, upd, show s + 4 ≠ s + 5 by omega, if_false, if_true]
  · simp only [updo, upd_same]

theorem loopT_wp {k : EK} {T : List GV → Prop} (hk : k.Ok P T) {i s off iv nb esz Tb Lb n B base : Nat} {O : List Nat} {pre post : List Value} {gs : List GV} {gcs : List (List Value)} {sb : Option Addr} {cap : Nat} {nl : Bool}
    {σ : Sl} {w : World} {Q : Exit → Sl → World → Prop} (hs : 4 ≤ s) (hiv : iv < s) (hiv4 : 4 ≤ iv) (h0 : σ 0 = .pointer (some ⟨B, base, none⟩)) (h3 : σ 3 = .pointer (some ⟨Tb, 0, none⟩)) (hi : i < n)
    (hw : TW w Tb Lb n (pre ++ ([.int .i64 0, .slice none 0 0, .bool nl, .slice none 0 0, .slice none 0 0] ++ post))) (hpre : pre.length = i * 5)
    (hc : w.cell? ⟨B, base + off, none⟩ = some (.slice sb gs.length cap)) (hB : B ≠ Lb) (hLO : Lb ∈ O) (hr : RepL O w gs gcs) (hsb : ∀ a, sb = some a → a.block ∉ O ∧ a.block < w.heap.size ∧ Cells w a gcs.flatten) (hsn : sb = none → gs = [])
    (hsz : ∀ cs ∈ gcs, cs.length = esz) (hg : ∀ g ∈ gs, k.ty T g) (hlen : gs.length ≤ 2147483647)
    (hQ : ∀ σ' w' cs, (∀ q, q < s → q ≠ iv → σ' q = σ q) → Mod [Lb] w w' → RepT (fun b => w.heap.size ≤ b) w' (.mk 0 [] nl (GV.toldL gs) []) cs → TW w' Tb Lb n (pre ++ (cs ++ post)) → Q .normal σ' w') : wpC P (loopT k i s off iv nb esz) Q σ w := by
  have hn := k.n_pos
  have hBlt : B < w.heap.size := World.block_lt_of_cell? w _ hc
  have hTlt := hw.tb.lt
  have hLlt := hw.lb.lt
  unfold loopT
  rw [wpC_seq]
  refine lpHead_wp h0 hc fun σ0 a0 s4 s5 => ?_
  simp only [thenC]
  rw [wpC_block, wpC_loop]
  refine ⟨fun σ1 w1 => ∃ j lv tcs, j ≤ gs.length ∧ (∀ q, q < s → q ≠ iv → σ1 q = σ q) ∧ σ1 (s + 4) = .int .i64 gs.length ∧ σ1 (s + 5) = .int .i64 j ∧ LS w w1 Tb Lb n pre post nl lv ((gs.take j).map GV.told) tcs ∧ tcs.length = j,
    fun σ1 _ => gs.length - (match σ1 (s + 5) with | .int _ j => j.toNat | _ => 0), ?_, ?_⟩
  · exact ⟨0, .slice none 0 0, [], Nat.zero_le _, fun q hq _ => a0 q hq, s4, s5, ⟨hw, ⟨by simp, .inl ⟨rfl, rfl⟩⟩, by simpa using .nil, Mod.refl _ _, hTlt, hLlt⟩, rfl⟩
  rintro σ1 w1 ⟨j, lv, tcs, hj, hag, h4, h5, hls, htl⟩
  rw [wpC_seq, wpC_blk]
  refine wpR_step (v := .bool (decide ((j : Int) < gs.length))) (by simp only [RK.val?, ev, h4, h5, isShift, decide_true, Bool.or_true, Bool.false_or, if_true, intBin]) ?_
  simp only [wpR, thenC]
  rw [wpC_seq]
  by_cases hlt : j < gs.length
  · have hd : decide ((j : Int) < gs.length) = true := by simp; omega
    rw [wpC_cond_t (by simp only [ev, updo, upd_same, hd])]
    rw [wpC_skip]
    simp only [thenC]
    rw [wpC_seq, wpC_block, wpC_seq, wpC_blk]
    refine wpR_step (v := .int .i64 j) (by simp only [RK.val?, ev, updo, upd, show s + 5 ≠ s + 6 by omega, if_false, h5]) ?_
    refine wpR_step (v := .int .i64 j) (by simp only [RK.val?, ev, updo, upd_same]) ?_
    simp only [wpR, inBlockC, thenC]
    rw [wpC_seq, wpC_rnd]
    intro c Ty
    simp only [thenC]
    -- the state ahead of one more
    have hm1 : Mod [] w1 (w1.drew.alloc (.cells [.bool c].toArray Ty)) := (Mod.drew _ _).trans (Mod.alloc _ _ _)
    have hls2 := hls.same hm1
    generalize w1.drew.alloc (.cells [.bool c].toArray Ty) = w2 at hm1 hls2 ⊢
    obtain ⟨gl, hgl⟩ : ∃ g, gs[j]? = some g := ⟨gs[j], List.getElem?_eq_getElem hlt⟩
    obtain ⟨sa, rfl⟩ : ∃ a, sb = some a := by
      cases sb with
      | none => have := hsn rfl; subst this; simp at hlt
      | some a => exact ⟨a, rfl⟩
    obtain ⟨ha1, hAlt, ha2⟩ := hsb sa rfl
    have hm2 := hls2.mod
    have hown : ∀ b, own lv = some b → w.heap.size ≤ b := fun b hb => (hls.raw.own hb).1
    -- the element
    obtain ⟨cs0, hcs0, hrep0, hc0⟩ : ∃ cs0, cs0.length = esz ∧ Rep O w gl cs0 ∧ Cells w ⟨sa.block, sa.off + j * esz, none⟩ cs0 := by
      obtain ⟨cs0, h1, h2⟩ := hr.nth hgl
      refine ⟨cs0, hsz _ (List.mem_of_getElem? h1), h2, ?_⟩
      exact flat_cells ha2 hsz h1
    have hsasp : sa = ⟨sa.block, sa.off, none⟩ := by
      have := ha2.1
      cases sa; simp only at this; subst this; rfl
    have hc2 : w2.cell? ⟨B, base + off, none⟩ = some (.slice (some ⟨sa.block, sa.off, none⟩) gs.length cap) := by
      rw [← hsasp]; exact cell_mod hc hm2 (by simpa using hB)
    have hc02 : Cells w2 ⟨sa.block, sa.off + j * esz, none⟩ cs0 := hc0.mod hm2 (.inr (by simp only [List.mem_singleton]; exact fun e => ha1 (e ▸ hLO)))
    have hrep2 : Rep ((own lv).toList ++ O) w2 gl cs0 := hrep0.fresh hm2 (fun x hx => .inl (by simp only [List.mem_singleton] at hx; subst hx; exact hLO)) (fun x hx => by
      rcases List.mem_append.1 hx with hx | hx
      · exact .inr (hown x (by simpa using hx))
      · exact .inl hx)
    have hgt := hg gl (List.mem_of_getElem? hgl)
    -- the slots
    have hσ : ∀ x, ∀ q, q < s + 10 → q ≠ s + 9 → q ≠ s + 8 → q ≠ iv → q ≠ s + 7 → q ≠ s + 6 → (upd (upd (updo (updo (updo σ1 (some (s + 6)) (.bool (decide ((j : Int) < gs.length)))) (some (s + 7)) (.int .i64 j)) (some iv) (.int .i64 j)) (s + 8) x) (s + 9) (.bool c)) q = σ1 q := by
      intro x q h1 h2 h3 h4 h5 h6
      simp only [updo, upd, h2, h3, h4, h5, h6, if_false]
    have hσiv : ∀ x, (upd (upd (updo (updo (updo σ1 (some (s + 6)) (.bool (decide ((j : Int) < gs.length)))) (some (s + 7)) (.int .i64 j)) (some iv) (.int .i64 j)) (s + 8) x) (s + 9) (.bool c)) iv = .int .i64 j := by
      intro x
      simp only [updo, upd, show iv ≠ s + 8 by omega, show iv ≠ s + 9 by omega, if_false, if_true]
    have hσc : ∀ x, (upd (upd (updo (updo (updo σ1 (some (s + 6)) (.bool (decide ((j : Int) < gs.length)))) (some (s + 7)) (.int .i64 j)) (some iv) (.int .i64 j)) (s + 8) x) (s + 9) (.bool c)) (s + 9) = .bool c := fun x => by simp only [upd_same]
    generalize Value.pointer (some ⟨w1.heap.size, 0, none⟩) = px
    specialize hσ px
    specialize hσiv px
    specialize hσc px
    generalize (upd (upd (updo (updo (updo σ1 (some (s + 6)) (.bool (decide ((j : Int) < gs.length)))) (some (s + 7)) (.int .i64 j)) (some iv) (.int .i64 j)) (s + 8) px) (s + 9) (.bool c)) = σ2 at hσ hσiv hσc ⊢
    have hσ0 : σ2 0 = .pointer (some ⟨B, base, none⟩) := by rw [hσ 0 (by omega) (by omega) (by omega) (by omega) (by omega) (by omega), hag 0 (by omega) (by omega)]; exact h0
    have hσ3 : σ2 3 = .pointer (some ⟨Tb, 0, none⟩) := by rw [hσ 3 (by omega) (by omega) (by omega) (by omega) (by omega) (by omega), hag 3 (by omega) (by omega)]; exact h3
    have fin : ∀ σ' w' lv' cs, Ag (s + 10) σ2 σ' → LS w w' Tb Lb n pre post nl lv' ((gs.take j).map GV.told ++ [gl.told]) (tcs ++ [cs]) →
        wpC P (.blk [⟨some (s + 44 + 2 * k.n), .bin .add (.tmp (s + 5)) (.const (.int .i64 1)), none⟩, ⟨some (s + 5), .mv (.tmp (s + 44 + 2 * k.n)), none⟩])
          (thenC (fun σ' w' => (∃ j lv tcs, j ≤ gs.length ∧ (∀ q, q < s → q ≠ iv → σ' q = σ q) ∧ σ' (s + 4) = .int .i64 gs.length ∧ σ' (s + 5) = .int .i64 j ∧ LS w w' Tb Lb n pre post nl lv ((gs.take j).map GV.told) tcs ∧ tcs.length = j) ∧
            gs.length - (match σ' (s + 5) with | .int _ j => j.toNat | _ => 0) < gs.length - (match σ1 (s + 5) with | .int _ j => j.toNat | _ => 0)) (inBlockC nb Q)) σ' w' := by
      intro σ' w' lv' cs ha hl
      have h5' : σ' (s + 5) = .int .i64 j := by rw [ha _ (by omega), hσ _ (by omega) (by omega) (by omega) (by omega) (by omega) (by omega)]; exact h5
      have hw : IntKind.i64.wrap ((j : Int) + 1) = ((j + 1 : Nat) : Int) := by
        simp only [IntKind.wrap, IntKind.bits, IntKind.signed]; simp; omega
      rw [wpC_blk]
      refine wpR_step (v := .int .i64 ((j + 1 : Nat) : Int)) (by simp only [RK.val?, ev, h5', isShift, decide_true, Bool.or_true, if_true, intBin, hw]) ?_
      refine wpR_step (v := .int .i64 ((j + 1 : Nat) : Int)) (by simp only [RK.val?, ev, updo, upd_same]) ?_
      simp only [wpR, thenC]
      refine ⟨⟨j + 1, lv', tcs ++ [cs], hlt, fun q hq hne => ?_, ?_, by simp only [updo, upd_same], ?_, by simp [htl]⟩, ?_⟩
      · simp only [updo, upd, show q ≠ s + 5 by omega, show q ≠ s + 44 + 2 * k.n by omega, if_false]
        rw [ha _ (by omega), hσ q (by omega) (by omega) (by omega) hne (by omega) (by omega)]
        exact hag q hq hne
      · simp only [updo, upd, show s + 4 ≠ s + 5 by omega, show s + 4 ≠ s + 44 + 2 * k.n by omega, if_false]
        rw [ha _ (by omega), hσ _ (by omega) (by omega) (by omega) (by omega) (by omega) (by omega)]; exact h4
      · rw [List.take_add_one, hgl]
        simpa using hl
      · simp only [updo, upd_same, h5, Int.toNat_natCast]
        show gs.length - (j + 1) < gs.length - j
        omega
    cases c with
    | true =>
      rw [wpC_cond_t (by simp only [ev, hσc])]
      refine appA_wp hk (by omega) (by omega) hσ0 hσ3 hσiv hi hlt hls2 hpre hc2 hgt hrep2 hc02 (by omega) fun σ' w' lv' cs ha hl => ?_
      exact fin σ' w' lv' cs ha hl
    | false =>
      rw [wpC_cond_f (by simp only [ev, hσc])]
      refine appB_wp hk (by omega) (by omega) hσ0 hσ3 hσiv hi hlt hls2 hpre hc2 hBlt hAlt hgt hrep2 hc02 (by omega) (fun b hb => by simp [hb]) fun σ' w' lv' cs ha hl => ?_
      exact fin σ' w' lv' cs (ha.mono (by omega)) hl
  · have hd : decide ((j : Int) < gs.length) = false := by simp; omega
    rw [wpC_cond_f (by simp only [ev, updo, upd_same, hd])]
    simp only [wpC, thenC, inBlockC, if_true]
    have hje : j = gs.length := by omega
    subst hje
    rw [List.take_length] at hls
    obtain ⟨b1, c1, hlv⟩ := hls.raw.len
    refine hQ _ w1 [.int .i64 0, .slice none 0 0, .bool nl, lv, .slice none 0 0] (fun q hq hne => ?_) hls.mod ?_ hls.tw
    · simp only [updo, upd, show q ≠ s + 6 by omega, if_false]; exact hag q hq hne
    · refine .mk (css := tcs) (uss := []) SlC.nil ?_ (by rw [GV.toldL_map]; exact hls.rep.mod (Mod.refl [] _) (by simp) fun b _ hb => hb.1) SlC.nil .nil
      rw [GV.toldL_map, List.length_map, ← htl]
      rcases hls.raw.sl with ⟨rfl, rfl⟩ | ⟨BA, cap', rest, rfl, q2, q3, q4, q5⟩
      · exact SlC.nil
      · refine ⟨some ⟨BA, 0, none⟩, cap', rfl, q2, fun h => by simp at h, fun a ha => ?_⟩
        simp only [Option.some.injEq] at ha; subst ha
        refine ⟨q3, q4.lt, ?_⟩
        have := q4.cells.take tcs.flatten.length
        rwa [List.take_left] at this

end
end Go.Msk

/-! More lifted forms of the reader of package kbin, as the tool prints them. -/
namespace Go.Msk

/-- (*pub-mailsack/pub/kmsg/inner/kbin.Reader).Bool -/
def ir_rBool (F : Nat → Nat) : IC × List RV × Nat := (.seq (.blk [⟨(some (2)), .mv (.const (.bool false)), none⟩])
  (.seq (.seq (.blk [⟨(some (4)), .mv (.tmp 0), none⟩,
        ⟨(some (5)), .nilc (.tmp 4), none⟩,
        ⟨(some (6)), .fad (.tmp 5) 0, none⟩,
        ⟨(some (7)), .ld (.tmp 6), none⟩,
        ⟨(some (8)), .len (.tmp 7), none⟩,
        ⟨(some (9)), .bin .lss (.tmp 8) (.const (.int .i64 1)), none⟩])
    (.cond (.tmp 9)
      (.seq (.blk [⟨(some (10)), .mv (.tmp 0), none⟩,
          ⟨(some (11)), .nilc (.tmp 10), none⟩,
          ⟨(some (12)), .fad (.tmp 11) 1, none⟩,
          ⟨none, .st (.tmp 12) 1 (.const (.bool true)), none⟩])
      (.seq (.blk [⟨(some (13)), .mv (.tmp 0), none⟩,
          ⟨(some (14)), .nilc (.tmp 13), none⟩,
          ⟨(some (15)), .fad (.tmp 14) 0, none⟩,
          ⟨none, .st (.tmp 15) 1 (.const (.slice none 0 0)), none⟩])
      (.seq (.blk [⟨(some (2)), .mv (.const (.bool false)), none⟩])
      (.ret))))
      (.skip)))
  (.seq (.blk [⟨(some (16)), .mv (.tmp 0), none⟩,
      ⟨(some (17)), .nilc (.tmp 16), none⟩,
      ⟨(some (18)), .fad (.tmp 17) 0, none⟩,
      ⟨(some (19)), .ld (.tmp 18), none⟩,
      ⟨(some (20)), .iad (.tmp 19) (.const (.int .i64 0)) 1, none⟩,
      ⟨(some (21)), .ld (.tmp 20), none⟩,
      ⟨(some (22)), .bin .neq (.tmp 21) (.const (.int .u8 0)), none⟩,
      ⟨(some (3)), .mv (.tmp 22), none⟩])
  (.seq (.blk [⟨(some (23)), .mv (.tmp 0), none⟩,
      ⟨(some (24)), .mv (.tmp 0), none⟩,
      ⟨(some (25)), .nilc (.tmp 24), none⟩,
      ⟨(some (26)), .fad (.tmp 25) 0, none⟩,
      ⟨(some (27)), .ld (.tmp 26), none⟩,
      ⟨(some (28)), .slice (.tmp 27) (some (.const (.int .i64 1))) none none 1, none⟩,
      ⟨(some (29)), .nilc (.tmp 23), none⟩,
      ⟨(some (30)), .fad (.tmp 29) 0, none⟩,
      ⟨none, .st (.tmp 30) 1 (.tmp 28), none⟩])
  (.seq (.blk [⟨(some (31)), .mv (.tmp 3), none⟩,
      ⟨(some (2)), .mv (.tmp 31), none⟩])
  (.ret))))),
  [.tmp 2], 32)

/-- (*pub-mailsack/pub/kmsg/inner/kbin.Reader).Int8 -/
def ir_rInt8 (F : Nat → Nat) : IC × List RV × Nat := (.seq (.blk [⟨(some (2)), .mv (.const (.int .i8 0)), none⟩])
  (.seq (.seq (.blk [⟨(some (4)), .mv (.tmp 0), none⟩,
        ⟨(some (5)), .nilc (.tmp 4), none⟩,
        ⟨(some (6)), .fad (.tmp 5) 0, none⟩,
        ⟨(some (7)), .ld (.tmp 6), none⟩,
        ⟨(some (8)), .len (.tmp 7), none⟩,
        ⟨(some (9)), .bin .lss (.tmp 8) (.const (.int .i64 1)), none⟩])
    (.cond (.tmp 9)
      (.seq (.blk [⟨(some (10)), .mv (.tmp 0), none⟩,
          ⟨(some (11)), .nilc (.tmp 10), none⟩,
          ⟨(some (12)), .fad (.tmp 11) 1, none⟩,
          ⟨none, .st (.tmp 12) 1 (.const (.bool true)), none⟩])
      (.seq (.blk [⟨(some (13)), .mv (.tmp 0), none⟩,
          ⟨(some (14)), .nilc (.tmp 13), none⟩,
          ⟨(some (15)), .fad (.tmp 14) 0, none⟩,
          ⟨none, .st (.tmp 15) 1 (.const (.slice none 0 0)), none⟩])
      (.seq (.blk [⟨(some (2)), .mv (.const (.int .i8 0)), none⟩])
      (.ret))))
      (.skip)))
  (.seq (.blk [⟨(some (16)), .mv (.tmp 0), none⟩,
      ⟨(some (17)), .nilc (.tmp 16), none⟩,
      ⟨(some (18)), .fad (.tmp 17) 0, none⟩,
      ⟨(some (19)), .ld (.tmp 18), none⟩,
      ⟨(some (20)), .iad (.tmp 19) (.const (.int .i64 0)) 1, none⟩,
      ⟨(some (21)), .ld (.tmp 20), none⟩,
      ⟨(some (3)), .mv (.tmp 21), none⟩])
  (.seq (.blk [⟨(some (22)), .mv (.tmp 0), none⟩,
      ⟨(some (23)), .mv (.tmp 0), none⟩,
      ⟨(some (24)), .nilc (.tmp 23), none⟩,
      ⟨(some (25)), .fad (.tmp 24) 0, none⟩,
      ⟨(some (26)), .ld (.tmp 25), none⟩,
      ⟨(some (27)), .slice (.tmp 26) (some (.const (.int .i64 1))) none none 1, none⟩,
      ⟨(some (28)), .nilc (.tmp 22), none⟩,
      ⟨(some (29)), .fad (.tmp 28) 0, none⟩,
      ⟨none, .st (.tmp 29) 1 (.tmp 27), none⟩])
  (.seq (.blk [⟨(some (30)), .mv (.tmp 3), none⟩,
      ⟨(some (31)), .conv .i8 (.tmp 30), none⟩,
      ⟨(some (2)), .mv (.tmp 31), none⟩])
  (.ret))))),
  [.tmp 2], 32)

/-- (*pub-mailsack/pub/kmsg/inner/kbin.Reader).Uint16 -/
def ir_rUint16 (F : Nat → Nat) : IC × List RV × Nat := (.seq (.blk [⟨(some (2)), .mv (.const (.int .u16 0)), none⟩])
  (.seq (.seq (.blk [⟨(some (4)), .mv (.tmp 0), none⟩,
        ⟨(some (5)), .nilc (.tmp 4), none⟩,
        ⟨(some (6)), .fad (.tmp 5) 0, none⟩,
        ⟨(some (7)), .ld (.tmp 6), none⟩,
        ⟨(some (8)), .len (.tmp 7), none⟩,
        ⟨(some (9)), .bin .lss (.tmp 8) (.const (.int .i64 2)), none⟩])
    (.cond (.tmp 9)
      (.seq (.blk [⟨(some (10)), .mv (.tmp 0), none⟩,
          ⟨(some (11)), .nilc (.tmp 10), none⟩,
          ⟨(some (12)), .fad (.tmp 11) 1, none⟩,
          ⟨none, .st (.tmp 12) 1 (.const (.bool true)), none⟩])
      (.seq (.blk [⟨(some (13)), .mv (.tmp 0), none⟩,
          ⟨(some (14)), .nilc (.tmp 13), none⟩,
          ⟨(some (15)), .fad (.tmp 14) 0, none⟩,
          ⟨none, .st (.tmp 15) 1 (.const (.slice none 0 0)), none⟩])
      (.seq (.blk [⟨(some (2)), .mv (.const (.int .u16 0)), none⟩])
      (.ret))))
      (.skip)))
  (.seq (.drw [⟨⟨(some (16)), .ldn (.global (F gBig)) 0, none⟩, false, []⟩,
      ⟨⟨(some (17)), .mv (.tmp 0), none⟩, false, []⟩,
      ⟨⟨(some (18)), .nilc (.tmp 17), none⟩, false, []⟩,
      ⟨⟨(some (19)), .fad (.tmp 18) 0, none⟩, false, []⟩,
      ⟨⟨(some (20)), .ld (.tmp 19), none⟩, false, []⟩,
      ⟨⟨(some (21)), .call (F beUint16) [.tmp 16, .tmp 20], none⟩, true, []⟩,
      ⟨⟨(some (3)), .mv (.tmp 21), none⟩, false, [5]⟩]
      [])
  (.seq (.blk [⟨(some (22)), .mv (.tmp 0), none⟩,
      ⟨(some (23)), .mv (.tmp 0), none⟩,
      ⟨(some (24)), .nilc (.tmp 23), none⟩,
      ⟨(some (25)), .fad (.tmp 24) 0, none⟩,
      ⟨(some (26)), .ld (.tmp 25), none⟩,
      ⟨(some (27)), .slice (.tmp 26) (some (.const (.int .i64 2))) none none 1, none⟩,
      ⟨(some (28)), .nilc (.tmp 22), none⟩,
      ⟨(some (29)), .fad (.tmp 28) 0, none⟩,
      ⟨none, .st (.tmp 29) 1 (.tmp 27), none⟩])
  (.seq (.blk [⟨(some (30)), .mv (.tmp 3), none⟩,
      ⟨(some (2)), .mv (.tmp 30), none⟩])
  (.ret))))),
  [.tmp 2], 31)

/-- (*pub-mailsack/pub/kmsg/inner/kbin.Reader).Int64 -/
def ir_rInt64 (F : Nat → Nat) : IC × List RV × Nat := (.seq (.blk [⟨(some (2)), .mv (.const (.int .i64 0)), none⟩])
  (.seq (.blk [⟨(some (3)), .mv (.tmp 0), none⟩,
      ⟨(some (4)), .call (F rReadUint64) [.tmp 3], none⟩,
      ⟨(some (5)), .conv .i64 (.tmp 4), none⟩,
      ⟨(some (2)), .mv (.tmp 5), none⟩])
  (.ret)),
  [.tmp 2], 6)

/-- (*pub-mailsack/pub/kmsg/inner/kbin.Reader).readUint64 -/
def ir_rReadUint64 (F : Nat → Nat) : IC × List RV × Nat := (.seq (.blk [⟨(some (2)), .mv (.const (.int .u64 0)), none⟩])
  (.seq (.seq (.blk [⟨(some (4)), .mv (.tmp 0), none⟩,
        ⟨(some (5)), .nilc (.tmp 4), none⟩,
        ⟨(some (6)), .fad (.tmp 5) 0, none⟩,
        ⟨(some (7)), .ld (.tmp 6), none⟩,
        ⟨(some (8)), .len (.tmp 7), none⟩,
        ⟨(some (9)), .bin .lss (.tmp 8) (.const (.int .i64 8)), none⟩])
    (.cond (.tmp 9)
      (.seq (.blk [⟨(some (10)), .mv (.tmp 0), none⟩,
          ⟨(some (11)), .nilc (.tmp 10), none⟩,
          ⟨(some (12)), .fad (.tmp 11) 1, none⟩,
          ⟨none, .st (.tmp 12) 1 (.const (.bool true)), none⟩])
      (.seq (.blk [⟨(some (13)), .mv (.tmp 0), none⟩,
          ⟨(some (14)), .nilc (.tmp 13), none⟩,
          ⟨(some (15)), .fad (.tmp 14) 0, none⟩,
          ⟨none, .st (.tmp 15) 1 (.const (.slice none 0 0)), none⟩])
      (.seq (.blk [⟨(some (2)), .mv (.const (.int .u64 0)), none⟩])
      (.ret))))
      (.skip)))
  (.seq (.drw [⟨⟨(some (16)), .ldn (.global (F gBig)) 0, none⟩, false, []⟩,
      ⟨⟨(some (17)), .mv (.tmp 0), none⟩, false, []⟩,
      ⟨⟨(some (18)), .nilc (.tmp 17), none⟩, false, []⟩,
      ⟨⟨(some (19)), .fad (.tmp 18) 0, none⟩, false, []⟩,
      ⟨⟨(some (20)), .ld (.tmp 19), none⟩, false, []⟩,
      ⟨⟨(some (21)), .call (F beUint64) [.tmp 16, .tmp 20], none⟩, true, []⟩,
      ⟨⟨(some (3)), .mv (.tmp 21), none⟩, false, [5]⟩]
      [])
  (.seq (.blk [⟨(some (22)), .mv (.tmp 0), none⟩,
      ⟨(some (23)), .mv (.tmp 0), none⟩,
      ⟨(some (24)), .nilc (.tmp 23), none⟩,
      ⟨(some (25)), .fad (.tmp 24) 0, none⟩,
      ⟨(some (26)), .ld (.tmp 25), none⟩,
      ⟨(some (27)), .slice (.tmp 26) (some (.const (.int .i64 8))) none none 1, none⟩,
      ⟨(some (28)), .nilc (.tmp 22), none⟩,
      ⟨(some (29)), .fad (.tmp 28) 0, none⟩,
      ⟨none, .st (.tmp 29) 1 (.tmp 27), none⟩])
  (.seq (.blk [⟨(some (30)), .mv (.tmp 3), none⟩,
      ⟨(some (2)), .mv (.tmp 30), none⟩])
  (.ret))))),
  [.tmp 2], 31)

/-- (encoding/binary.bigEndian).Uint64 -/
def ir_beUint64 (F : Nat → Nat) : IC × List RV × Nat := (.seq (.blk [⟨(some (2)), .box (.tmp 0), none⟩,
      ⟨(some (4)), .mv (.const (.int .u64 0)), none⟩])
  (.seq (.blk [⟨(some (5)), .mv (.tmp 1), none⟩,
      ⟨(some (6)), .iad (.tmp 5) (.const (.int .i64 7)) 1, none⟩,
      ⟨(some (7)), .ld (.tmp 6), none⟩])
  (.seq (.drw [⟨⟨(some (8)), .mv (.tmp 1), none⟩, false, []⟩,
      ⟨⟨(some (9)), .iad (.tmp 8) (.const (.int .i64 7)) 1, none⟩, false, []⟩,
      ⟨⟨(some (10)), .ld (.tmp 9), none⟩, false, []⟩,
      ⟨⟨(some (11)), .conv .u64 (.tmp 10), none⟩, false, []⟩,
      ⟨⟨(some (12)), .mv (.tmp 1), none⟩, false, []⟩,
      ⟨⟨(some (13)), .iad (.tmp 12) (.const (.int .i64 6)) 1, none⟩, false, []⟩,
      ⟨⟨(some (14)), .ld (.tmp 13), none⟩, false, []⟩,
      ⟨⟨(some (15)), .conv .u64 (.tmp 14), none⟩, false, []⟩,
      ⟨⟨(some (16)), .bin .shl (.tmp 15) (.const (.int .u64 8)), none⟩, false, []⟩,
      ⟨⟨(some (17)), .bin .or (.tmp 11) (.tmp 16), none⟩, false, []⟩,
      ⟨⟨(some (18)), .mv (.tmp 1), none⟩, false, []⟩,
      ⟨⟨(some (19)), .iad (.tmp 18) (.const (.int .i64 5)) 1, none⟩, false, []⟩,
      ⟨⟨(some (20)), .ld (.tmp 19), none⟩, false, []⟩,
      ⟨⟨(some (21)), .conv .u64 (.tmp 20), none⟩, false, []⟩,
      ⟨⟨(some (22)), .bin .shl (.tmp 21) (.const (.int .u64 16)), none⟩, false, []⟩,
      ⟨⟨(some (23)), .bin .or (.tmp 17) (.tmp 22), none⟩, false, []⟩,
      ⟨⟨(some (24)), .mv (.tmp 1), none⟩, false, []⟩,
      ⟨⟨(some (25)), .iad (.tmp 24) (.const (.int .i64 4)) 1, none⟩, false, []⟩,
      ⟨⟨(some (26)), .ld (.tmp 25), none⟩, false, []⟩,
      ⟨⟨(some (27)), .conv .u64 (.tmp 26), none⟩, false, []⟩,
      ⟨⟨(some (28)), .bin .shl (.tmp 27) (.const (.int .u64 24)), none⟩, false, []⟩,
      ⟨⟨(some (29)), .bin .or (.tmp 23) (.tmp 28), none⟩, false, []⟩,
      ⟨⟨(some (30)), .mv (.tmp 1), none⟩, false, []⟩,
      ⟨⟨(some (31)), .iad (.tmp 30) (.const (.int .i64 3)) 1, none⟩, false, []⟩,
      ⟨⟨(some (32)), .ld (.tmp 31), none⟩, false, []⟩,
      ⟨⟨(some (33)), .conv .u64 (.tmp 32), none⟩, false, []⟩,
      ⟨⟨(some (34)), .bin .shl (.tmp 33) (.const (.int .u64 32)), none⟩, false, []⟩,
      ⟨⟨(some (35)), .bin .or (.tmp 29) (.tmp 34), none⟩, false, []⟩,
      ⟨⟨(some (36)), .mv (.tmp 1), none⟩, false, []⟩,
      ⟨⟨(some (37)), .iad (.tmp 36) (.const (.int .i64 2)) 1, none⟩, false, []⟩,
      ⟨⟨(some (38)), .ld (.tmp 37), none⟩, false, []⟩,
      ⟨⟨(some (39)), .conv .u64 (.tmp 38), none⟩, false, []⟩,
      ⟨⟨(some (40)), .bin .shl (.tmp 39) (.const (.int .u64 40)), none⟩, false, []⟩,
      ⟨⟨(some (41)), .bin .or (.tmp 35) (.tmp 40), none⟩, false, []⟩,
      ⟨⟨(some (42)), .mv (.tmp 1), none⟩, false, []⟩,
      ⟨⟨(some (43)), .iad (.tmp 42) (.const (.int .i64 1)) 1, none⟩, false, []⟩,
      ⟨⟨(some (44)), .ld (.tmp 43), none⟩, false, []⟩,
      ⟨⟨(some (45)), .conv .u64 (.tmp 44), none⟩, false, []⟩,
      ⟨⟨(some (46)), .bin .shl (.tmp 45) (.const (.int .u64 48)), none⟩, false, []⟩,
      ⟨⟨(some (47)), .bin .or (.tmp 41) (.tmp 46), none⟩, false, []⟩,
      ⟨⟨(some (48)), .mv (.tmp 1), none⟩, false, []⟩,
      ⟨⟨(some (49)), .iad (.tmp 48) (.const (.int .i64 0)) 1, none⟩, false, []⟩,
      ⟨⟨(some (50)), .ld (.tmp 49), none⟩, false, []⟩,
      ⟨⟨(some (51)), .conv .u64 (.tmp 50), none⟩, false, []⟩,
      ⟨⟨(some (52)), .bin .shl (.tmp 51) (.const (.int .u64 56)), none⟩, false, []⟩,
      ⟨⟨(some (53)), .bin .or (.tmp 47) (.tmp 52), none⟩, false, []⟩,
      ⟨⟨(some (4)), .mv (.tmp 53), none⟩, false, []⟩]
      [])
  (.ret))),
  [.tmp 4], 54)

/-- (*pub-mailsack/pub/kmsg/inner/kbin.Reader).Uuid -/
def ir_rUuid (F : Nat → Nat) : IC × List RV × Nat := (.seq (.blk [⟨(some (2)), .alloc [.int .u8 0, .int .u8 0, .int .u8 0, .int .u8 0, .int .u8 0, .int .u8 0, .int .u8 0, .int .u8 0, .int .u8 0, .int .u8 0, .int .u8 0, .int .u8 0, .int .u8 0, .int .u8 0, .int .u8 0, .int .u8 0], none⟩])
  (.seq (.blk [⟨(some (3)), .alloc [.int .u8 0, .int .u8 0, .int .u8 0, .int .u8 0, .int .u8 0, .int .u8 0, .int .u8 0, .int .u8 0, .int .u8 0, .int .u8 0, .int .u8 0, .int .u8 0, .int .u8 0, .int .u8 0, .int .u8 0, .int .u8 0], none⟩])
  (.seq (.drw [⟨⟨(some (4)), .slicea (.tmp 3) 16, none⟩, false, []⟩,
      ⟨⟨(some (5)), .mv (.tmp 0), none⟩, false, []⟩,
      ⟨⟨(some (6)), .call (F rSpan) [.tmp 5, .const (.int .i64 16)], none⟩, true, []⟩]
      [⟨(some (7)), .copy (.tmp 4) (.tmp 6) 1, none⟩])
  (.seq (.blk [⟨(some (8)), .ldn (.tmp 3) 16, none⟩,
      ⟨none, .st (.tmp 2) 16 (.tmp 8), none⟩])
  (.ret)))),
  [.cells 2 16], 9)

/-- (*pub-mailsack/pub/kmsg/inner/kbin.Reader).Uvarint -/
def ir_rUvarint (F : Nat → Nat) : IC × List RV × Nat := (.seq (.blk [⟨(some (2)), .mv (.const (.int .u32 0)), none⟩])
  (.seq (.blk [⟨(some (6)), .mv (.tmp 0), none⟩,
      ⟨(some (7)), .nilc (.tmp 6), none⟩,
      ⟨(some (8)), .fad (.tmp 7) 0, none⟩,
      ⟨(some (9)), .ld (.tmp 8), none⟩,
      ⟨(some (10)), .call (F kUvarint) [.tmp 9], none⟩,
      ⟨(some (5)), .mv (.tmp 10), none⟩,
      ⟨(some (11)), .ext (.tmp 5) 0, none⟩,
      ⟨(some (12)), .ext (.tmp 5) 1, none⟩,
      ⟨(some (3)), .mv (.tmp 11), none⟩,
      ⟨(some (4)), .mv (.tmp 12), none⟩])
  (.seq (.seq (.blk [⟨(some (13)), .mv (.tmp 4), none⟩,
        ⟨(some (14)), .bin .leq (.tmp 13) (.const (.int .i64 0)), none⟩])
    (.cond (.tmp 14)
      (.seq (.blk [⟨(some (15)), .mv (.tmp 0), none⟩,
          ⟨(some (16)), .nilc (.tmp 15), none⟩,
          ⟨(some (17)), .fad (.tmp 16) 1, none⟩,
          ⟨none, .st (.tmp 17) 1 (.const (.bool true)), none⟩])
      (.seq (.blk [⟨(some (18)), .mv (.tmp 0), none⟩,
          ⟨(some (19)), .nilc (.tmp 18), none⟩,
          ⟨(some (20)), .fad (.tmp 19) 0, none⟩,
          ⟨none, .st (.tmp 20) 1 (.const (.slice none 0 0)), none⟩])
      (.seq (.blk [⟨(some (2)), .mv (.const (.int .u32 0)), none⟩])
      (.ret))))
      (.skip)))
  (.seq (.blk [⟨(some (21)), .mv (.tmp 0), none⟩,
      ⟨(some (22)), .mv (.tmp 0), none⟩,
      ⟨(some (23)), .nilc (.tmp 22), none⟩,
      ⟨(some (24)), .fad (.tmp 23) 0, none⟩,
      ⟨(some (25)), .ld (.tmp 24), none⟩,
      ⟨(some (26)), .mv (.tmp 4), none⟩,
      ⟨(some (27)), .slice (.tmp 25) (some (.tmp 26)) none none 1, none⟩,
      ⟨(some (28)), .nilc (.tmp 21), none⟩,
      ⟨(some (29)), .fad (.tmp 28) 0, none⟩,
      ⟨none, .st (.tmp 29) 1 (.tmp 27), none⟩])
  (.seq (.blk [⟨(some (30)), .mv (.tmp 3), none⟩,
      ⟨(some (2)), .mv (.tmp 30), none⟩])
  (.ret))))),
  [.tmp 2], 31)

/-- pub-mailsack/pub/kmsg/inner/kbin.Uvarint -/
def ir_kUvarint (F : Nat → Nat) : IC × List RV × Nat := (.seq (.blk [⟨(some (2)), .mv (.const (.int .u32 0)), none⟩,
      ⟨(some (3)), .mv (.const (.int .i64 0)), none⟩])
  (.scopeTo (.seq (.blk [⟨(some (4)), .mv (.const (.int .u32 0)), none⟩])
    (.seq (.blk [⟨(some (5)), .mv (.const (.int .i64 0)), none⟩])
    (.seq (.seq (.blk [⟨(some (6)), .mv (.tmp 0), none⟩,
          ⟨(some (7)), .len (.tmp 6), none⟩,
          ⟨(some (8)), .bin .lss (.tmp 7) (.const (.int .i64 1)), none⟩])
      (.cond (.tmp 8)
        (.goto 0)
        (.skip)))
    (.seq (.blk [⟨(some (9)), .mv (.tmp 0), none⟩,
        ⟨(some (10)), .iad (.tmp 9) (.const (.int .i64 0)) 1, none⟩,
        ⟨(some (11)), .ld (.tmp 10), none⟩,
        ⟨(some (12)), .bin .and (.tmp 11) (.const (.int .u8 127)), none⟩,
        ⟨(some (13)), .conv .u32 (.tmp 12), none⟩,
        ⟨(some (4)), .mv (.tmp 13), none⟩])
    (.seq (.seq (.blk [⟨(some (14)), .mv (.tmp 0), none⟩,
          ⟨(some (15)), .iad (.tmp 14) (.const (.int .i64 0)) 1, none⟩,
          ⟨(some (16)), .ld (.tmp 15), none⟩,
          ⟨(some (17)), .bin .and (.tmp 16) (.const (.int .u8 128)), none⟩,
          ⟨(some (18)), .bin .eql (.tmp 17) (.const (.int .u8 0)), none⟩])
      (.cond (.tmp 18)
        (.seq (.blk [⟨(some (19)), .mv (.tmp 4), none⟩,
            ⟨(some (2)), .mv (.tmp 19), none⟩,
            ⟨(some (3)), .mv (.const (.int .i64 1)), none⟩])
        (.ret))
        (.seq (.blk [⟨(some (20)), .mv (.tmp 0), none⟩,
            ⟨(some (21)), .len (.tmp 20), none⟩,
            ⟨(some (22)), .bin .lss (.tmp 21) (.const (.int .i64 2)), none⟩])
        (.cond (.tmp 22)
          (.goto 0)
          (.skip)))))
    (.seq (.blk [⟨(some (23)), .mv (.tmp 4), none⟩,
        ⟨(some (24)), .mv (.tmp 0), none⟩,
        ⟨(some (25)), .iad (.tmp 24) (.const (.int .i64 1)) 1, none⟩,
        ⟨(some (26)), .ld (.tmp 25), none⟩,
        ⟨(some (27)), .bin .and (.tmp 26) (.const (.int .u8 127)), none⟩,
        ⟨(some (28)), .conv .u32 (.tmp 27), none⟩,
        ⟨(some (29)), .bin .shl (.tmp 28) (.const (.int .u64 7)), none⟩,
        ⟨(some (30)), .bin .or (.tmp 23) (.tmp 29), none⟩,
        ⟨(some (4)), .mv (.tmp 30), none⟩])
    (.seq (.seq (.blk [⟨(some (31)), .mv (.tmp 0), none⟩,
          ⟨(some (32)), .iad (.tmp 31) (.const (.int .i64 1)) 1, none⟩,
          ⟨(some (33)), .ld (.tmp 32), none⟩,
          ⟨(some (34)), .bin .and (.tmp 33) (.const (.int .u8 128)), none⟩,
          ⟨(some (35)), .bin .eql (.tmp 34) (.const (.int .u8 0)), none⟩])
      (.cond (.tmp 35)
        (.seq (.blk [⟨(some (36)), .mv (.tmp 4), none⟩,
            ⟨(some (2)), .mv (.tmp 36), none⟩,
            ⟨(some (3)), .mv (.const (.int .i64 2)), none⟩])
        (.ret))
        (.seq (.blk [⟨(some (37)), .mv (.tmp 0), none⟩,
            ⟨(some (38)), .len (.tmp 37), none⟩,
            ⟨(some (39)), .bin .lss (.tmp 38) (.const (.int .i64 3)), none⟩])
        (.cond (.tmp 39)
          (.goto 0)
          (.skip)))))
    (.seq (.blk [⟨(some (40)), .mv (.tmp 4), none⟩,
        ⟨(some (41)), .mv (.tmp 0), none⟩,
        ⟨(some (42)), .iad (.tmp 41) (.const (.int .i64 2)) 1, none⟩,
        ⟨(some (43)), .ld (.tmp 42), none⟩,
        ⟨(some (44)), .bin .and (.tmp 43) (.const (.int .u8 127)), none⟩,
        ⟨(some (45)), .conv .u32 (.tmp 44), none⟩,
        ⟨(some (46)), .bin .shl (.tmp 45) (.const (.int .u64 14)), none⟩,
        ⟨(some (47)), .bin .or (.tmp 40) (.tmp 46), none⟩,
        ⟨(some (4)), .mv (.tmp 47), none⟩])
    (.seq (.seq (.blk [⟨(some (48)), .mv (.tmp 0), none⟩,
          ⟨(some (49)), .iad (.tmp 48) (.const (.int .i64 2)) 1, none⟩,
          ⟨(some (50)), .ld (.tmp 49), none⟩,
          ⟨(some (51)), .bin .and (.tmp 50) (.const (.int .u8 128)), none⟩,
          ⟨(some (52)), .bin .eql (.tmp 51) (.const (.int .u8 0)), none⟩])
      (.cond (.tmp 52)
        (.seq (.blk [⟨(some (53)), .mv (.tmp 4), none⟩,
            ⟨(some (2)), .mv (.tmp 53), none⟩,
            ⟨(some (3)), .mv (.const (.int .i64 3)), none⟩])
        (.ret))
        (.seq (.blk [⟨(some (54)), .mv (.tmp 0), none⟩,
            ⟨(some (55)), .len (.tmp 54), none⟩,
            ⟨(some (56)), .bin .lss (.tmp 55) (.const (.int .i64 4)), none⟩])
        (.cond (.tmp 56)
          (.goto 0)
          (.skip)))))
    (.seq (.blk [⟨(some (57)), .mv (.tmp 4), none⟩,
        ⟨(some (58)), .mv (.tmp 0), none⟩,
        ⟨(some (59)), .iad (.tmp 58) (.const (.int .i64 3)) 1, none⟩,
        ⟨(some (60)), .ld (.tmp 59), none⟩,
        ⟨(some (61)), .bin .and (.tmp 60) (.const (.int .u8 127)), none⟩,
        ⟨(some (62)), .conv .u32 (.tmp 61), none⟩,
        ⟨(some (63)), .bin .shl (.tmp 62) (.const (.int .u64 21)), none⟩,
        ⟨(some (64)), .bin .or (.tmp 57) (.tmp 63), none⟩,
        ⟨(some (4)), .mv (.tmp 64), none⟩])
    (.seq (.seq (.blk [⟨(some (65)), .mv (.tmp 0), none⟩,
          ⟨(some (66)), .iad (.tmp 65) (.const (.int .i64 3)) 1, none⟩,
          ⟨(some (67)), .ld (.tmp 66), none⟩,
          ⟨(some (68)), .bin .and (.tmp 67) (.const (.int .u8 128)), none⟩,
          ⟨(some (69)), .bin .eql (.tmp 68) (.const (.int .u8 0)), none⟩])
      (.cond (.tmp 69)
        (.seq (.blk [⟨(some (70)), .mv (.tmp 4), none⟩,
            ⟨(some (2)), .mv (.tmp 70), none⟩,
            ⟨(some (3)), .mv (.const (.int .i64 4)), none⟩])
        (.ret))
        (.seq (.blk [⟨(some (71)), .mv (.tmp 0), none⟩,
            ⟨(some (72)), .len (.tmp 71), none⟩,
            ⟨(some (73)), .bin .lss (.tmp 72) (.const (.int .i64 5)), none⟩])
        (.cond (.tmp 73)
          (.goto 0)
          (.skip)))))
    (.seq (.blk [⟨(some (74)), .mv (.tmp 4), none⟩,
        ⟨(some (75)), .mv (.tmp 0), none⟩,
        ⟨(some (76)), .iad (.tmp 75) (.const (.int .i64 4)) 1, none⟩,
        ⟨(some (77)), .ld (.tmp 76), none⟩,
        ⟨(some (78)), .conv .u32 (.tmp 77), none⟩,
        ⟨(some (79)), .bin .shl (.tmp 78) (.const (.int .u64 28)), none⟩,
        ⟨(some (80)), .bin .or (.tmp 74) (.tmp 79), none⟩,
        ⟨(some (4)), .mv (.tmp 80), none⟩])
    (.seq (.seq (.blk [⟨(some (81)), .mv (.tmp 0), none⟩,
          ⟨(some (82)), .iad (.tmp 81) (.const (.int .i64 4)) 1, none⟩,
          ⟨(some (83)), .ld (.tmp 82), none⟩,
          ⟨(some (84)), .bin .leq (.tmp 83) (.const (.int .u8 15)), none⟩])
      (.cond (.tmp 84)
        (.seq (.blk [⟨(some (85)), .mv (.tmp 4), none⟩,
            ⟨(some (2)), .mv (.tmp 85), none⟩,
            ⟨(some (3)), .mv (.const (.int .i64 5)), none⟩])
        (.ret))
        (.skip)))
    (.seq (.blk [⟨(some (5)), .mv (.const (.int .i64 (-5))), none⟩])
    (.seq (.skip)
    (.seq (.blk [⟨(some (86)), .mv (.tmp 5), none⟩,
        ⟨(some (2)), .mv (.const (.int .u32 0)), none⟩,
        ⟨(some (3)), .mv (.tmp 86), none⟩])
    (.ret))))))))))))))))) 0
    (.seq (.skip)
    (.seq (.blk [⟨(some (86)), .mv (.tmp 5), none⟩,
        ⟨(some (2)), .mv (.const (.int .u32 0)), none⟩,
        ⟨(some (3)), .mv (.tmp 86), none⟩])
    (.ret)))),
  [.tmp 2, .tmp 3], 87)

/-- (*pub-mailsack/pub/kmsg/inner/kbin.Reader).CompactString -/
def ir_rCompactString (F : Nat → Nat) : IC × List RV × Nat := (.seq (.blk [⟨(some (2)), .mv (.const (.string .empty)), none⟩])
  (.seq (.blk [⟨(some (4)), .mv (.tmp 0), none⟩,
      ⟨(some (5)), .call (F rUvarint) [.tmp 4], none⟩,
      ⟨(some (6)), .conv .i64 (.tmp 5), none⟩,
      ⟨(some (7)), .bin .sub (.tmp 6) (.const (.int .i64 1)), none⟩,
      ⟨(some (3)), .mv (.tmp 7), none⟩])
  (.seq (.blk [⟨(some (8)), .mv (.tmp 0), none⟩,
      ⟨(some (9)), .mv (.tmp 3), none⟩,
      ⟨(some (10)), .call (F rSpan) [.tmp 8, .tmp 9], none⟩,
      ⟨(some (11)), .b2s (.tmp 10), none⟩,
      ⟨(some (2)), .mv (.tmp 11), none⟩])
  (.ret))),
  [.tmp 2], 12)

/-- (*pub-mailsack/pub/kmsg/inner/kbin.Reader).UnsafeCompactString -/
def ir_rUnsafeCompactString (F : Nat → Nat) : IC × List RV × Nat := (.seq (.blk [⟨(some (2)), .mv (.const (.string .empty)), none⟩])
  (.seq (.blk [⟨(some (4)), .mv (.tmp 0), none⟩,
      ⟨(some (5)), .call (F rUvarint) [.tmp 4], none⟩,
      ⟨(some (6)), .conv .i64 (.tmp 5), none⟩,
      ⟨(some (7)), .bin .sub (.tmp 6) (.const (.int .i64 1)), none⟩,
      ⟨(some (3)), .mv (.tmp 7), none⟩])
  (.seq (.blk [⟨(some (8)), .mv (.tmp 0), none⟩,
      ⟨(some (9)), .mv (.tmp 3), none⟩,
      ⟨(some (10)), .call (F rSpan) [.tmp 8, .tmp 9], none⟩,
      ⟨(some (11)), .call (F kUnsafeString) [.tmp 10], none⟩,
      ⟨(some (2)), .mv (.tmp 11), none⟩])
  (.ret))),
  [.tmp 2], 12)

/-- (*pub-mailsack/pub/kmsg/inner/kbin.Reader).CompactNullableString -/
def ir_rCompactNullableString (F : Nat → Nat) : IC × List RV × Nat := (.seq (.blk [⟨(some (2)), .mv (.const (.pointer none)), none⟩])
  (.seq (.blk [⟨(some (5)), .mv (.tmp 0), none⟩,
      ⟨(some (6)), .call (F rUvarint) [.tmp 5], none⟩,
      ⟨(some (7)), .conv .i64 (.tmp 6), none⟩,
      ⟨(some (8)), .bin .sub (.tmp 7) (.const (.int .i64 1)), none⟩,
      ⟨(some (3)), .mv (.tmp 8), none⟩])
  (.seq (.seq (.blk [⟨(some (9)), .mv (.tmp 3), none⟩,
        ⟨(some (10)), .bin .lss (.tmp 9) (.const (.int .i64 0)), none⟩])
    (.cond (.tmp 10)
      (.seq (.blk [⟨(some (2)), .mv (.const (.pointer none)), none⟩])
      (.ret))
      (.skip)))
  (.seq (.blk [⟨(some (11)), .mv (.tmp 0), none⟩,
      ⟨(some (12)), .mv (.tmp 3), none⟩,
      ⟨(some (13)), .call (F rSpan) [.tmp 11, .tmp 12], none⟩,
      ⟨(some (14)), .b2s (.tmp 13), none⟩,
      ⟨(some (4)), .alloc [.string .empty], none⟩,
      ⟨none, .st (.tmp 4) 1 (.tmp 14), none⟩])
  (.seq (.blk [⟨(some (2)), .mv (.tmp 4), none⟩])
  (.ret))))),
  [.tmp 2], 15)

/-- (*pub-mailsack/pub/kmsg/inner/kbin.Reader).UnsafeCompactNullableString -/
def ir_rUnsafeCompactNullableString (F : Nat → Nat) : IC × List RV × Nat := (.seq (.blk [⟨(some (2)), .mv (.const (.pointer none)), none⟩])
  (.seq (.blk [⟨(some (5)), .mv (.tmp 0), none⟩,
      ⟨(some (6)), .call (F rUvarint) [.tmp 5], none⟩,
      ⟨(some (7)), .conv .i64 (.tmp 6), none⟩,
      ⟨(some (8)), .bin .sub (.tmp 7) (.const (.int .i64 1)), none⟩,
      ⟨(some (3)), .mv (.tmp 8), none⟩])
  (.seq (.seq (.blk [⟨(some (9)), .mv (.tmp 3), none⟩,
        ⟨(some (10)), .bin .lss (.tmp 9) (.const (.int .i64 0)), none⟩])
    (.cond (.tmp 10)
      (.seq (.blk [⟨(some (2)), .mv (.const (.pointer none)), none⟩])
      (.ret))
      (.skip)))
  (.seq (.blk [⟨(some (11)), .mv (.tmp 0), none⟩,
      ⟨(some (12)), .mv (.tmp 3), none⟩,
      ⟨(some (13)), .call (F rSpan) [.tmp 11, .tmp 12], none⟩,
      ⟨(some (14)), .call (F kUnsafeString) [.tmp 13], none⟩,
      ⟨(some (4)), .alloc [.string .empty], none⟩,
      ⟨none, .st (.tmp 4) 1 (.tmp 14), none⟩])
  (.seq (.blk [⟨(some (2)), .mv (.tmp 4), none⟩])
  (.ret))))),
  [.tmp 2], 15)

/-- (*pub-mailsack/pub/kmsg/inner/kbin.Reader).Bytes -/
def ir_rBytes (F : Nat → Nat) : IC × List RV × Nat := (.seq (.blk [⟨(some (2)), .mv (.const (.slice none 0 0)), none⟩])
  (.seq (.blk [⟨(some (4)), .mv (.tmp 0), none⟩,
      ⟨(some (5)), .call (F rInt32) [.tmp 4], none⟩,
      ⟨(some (3)), .mv (.tmp 5), none⟩])
  (.seq (.seq (.blk [⟨(some (6)), .mv (.tmp 3), none⟩,
        ⟨(some (7)), .bin .eql (.tmp 6) (.const (.int .i32 (-1))), none⟩])
    (.cond (.tmp 7)
      (.seq (.blk [⟨(some (8)), .bslice 0 [.int .u8 0] [], none⟩,
          ⟨(some (2)), .mv (.tmp 8), none⟩])
      (.ret))
      (.skip)))
  (.seq (.blk [⟨(some (9)), .mv (.tmp 0), none⟩,
      ⟨(some (10)), .mv (.tmp 3), none⟩,
      ⟨(some (11)), .conv .i64 (.tmp 10), none⟩,
      ⟨(some (12)), .call (F rSpan) [.tmp 9, .tmp 11], none⟩,
      ⟨(some (2)), .mv (.tmp 12), none⟩])
  (.ret)))),
  [.tmp 2], 13)

/-- (*pub-mailsack/pub/kmsg/inner/kbin.Reader).CompactBytes -/
def ir_rCompactBytes (F : Nat → Nat) : IC × List RV × Nat := (.seq (.blk [⟨(some (2)), .mv (.const (.slice none 0 0)), none⟩])
  (.seq (.blk [⟨(some (4)), .mv (.tmp 0), none⟩,
      ⟨(some (5)), .call (F rUvarint) [.tmp 4], none⟩,
      ⟨(some (6)), .conv .i64 (.tmp 5), none⟩,
      ⟨(some (7)), .bin .sub (.tmp 6) (.const (.int .i64 1)), none⟩,
      ⟨(some (3)), .mv (.tmp 7), none⟩])
  (.seq (.seq (.blk [⟨(some (8)), .mv (.tmp 3), none⟩,
        ⟨(some (9)), .bin .eql (.tmp 8) (.const (.int .i64 (-1))), none⟩])
    (.cond (.tmp 9)
      (.seq (.blk [⟨(some (10)), .bslice 0 [.int .u8 0] [], none⟩,
          ⟨(some (2)), .mv (.tmp 10), none⟩])
      (.ret))
      (.skip)))
  (.seq (.blk [⟨(some (11)), .mv (.tmp 0), none⟩,
      ⟨(some (12)), .mv (.tmp 3), none⟩,
      ⟨(some (13)), .call (F rSpan) [.tmp 11, .tmp 12], none⟩,
      ⟨(some (2)), .mv (.tmp 13), none⟩])
  (.ret)))),
  [.tmp 2], 14)

/-- (*pub-mailsack/pub/kmsg/inner/kbin.Reader).CompactNullableBytes -/
def ir_rCompactNullableBytes (F : Nat → Nat) : IC × List RV × Nat := (.seq (.blk [⟨(some (2)), .mv (.const (.slice none 0 0)), none⟩])
  (.seq (.blk [⟨(some (5)), .mv (.tmp 0), none⟩,
      ⟨(some (6)), .call (F rUvarint) [.tmp 5], none⟩,
      ⟨(some (7)), .conv .i64 (.tmp 6), none⟩,
      ⟨(some (8)), .bin .sub (.tmp 7) (.const (.int .i64 1)), none⟩,
      ⟨(some (3)), .mv (.tmp 8), none⟩])
  (.seq (.seq (.blk [⟨(some (9)), .mv (.tmp 3), none⟩,
        ⟨(some (10)), .bin .lss (.tmp 9) (.const (.int .i64 0)), none⟩])
    (.cond (.tmp 10)
      (.seq (.blk [⟨(some (2)), .mv (.const (.slice none 0 0)), none⟩])
      (.ret))
      (.skip)))
  (.seq (.blk [⟨(some (11)), .mv (.tmp 0), none⟩,
      ⟨(some (12)), .mv (.tmp 3), none⟩,
      ⟨(some (13)), .call (F rSpan) [.tmp 11, .tmp 12], none⟩,
      ⟨(some (4)), .mv (.tmp 13), none⟩])
  (.seq (.blk [⟨(some (14)), .mv (.tmp 4), none⟩,
      ⟨(some (2)), .mv (.tmp 14), none⟩])
  (.ret))))),
  [.tmp 2], 15)

/-- (*pub-mailsack/pub/kmsg/inner/kbin.Reader).CompactArrayLen -/
def ir_rCompactArrayLen (F : Nat → Nat) : IC × List RV × Nat := (.seq (.blk [⟨(some (2)), .mv (.const (.int .i32 0)), none⟩])
  (.seq (.blk [⟨(some (4)), .mv (.tmp 0), none⟩,
      ⟨(some (5)), .call (F rUvarint) [.tmp 4], none⟩,
      ⟨(some (6)), .conv .i32 (.tmp 5), none⟩,
      ⟨(some (7)), .bin .sub (.tmp 6) (.const (.int .i32 1)), none⟩,
      ⟨(some (3)), .mv (.tmp 7), none⟩])
  (.seq (.seq (.blk [⟨(some (8)), .mv (.tmp 0), none⟩,
        ⟨(some (9)), .nilc (.tmp 8), none⟩,
        ⟨(some (10)), .fad (.tmp 9) 0, none⟩,
        ⟨(some (11)), .ld (.tmp 10), none⟩,
        ⟨(some (12)), .len (.tmp 11), none⟩,
        ⟨(some (13)), .mv (.tmp 3), none⟩,
        ⟨(some (14)), .conv .i64 (.tmp 13), none⟩,
        ⟨(some (15)), .bin .lss (.tmp 12) (.tmp 14), none⟩])
    (.cond (.tmp 15)
      (.seq (.blk [⟨(some (16)), .mv (.tmp 0), none⟩,
          ⟨(some (17)), .nilc (.tmp 16), none⟩,
          ⟨(some (18)), .fad (.tmp 17) 1, none⟩,
          ⟨none, .st (.tmp 18) 1 (.const (.bool true)), none⟩])
      (.seq (.blk [⟨(some (19)), .mv (.tmp 0), none⟩,
          ⟨(some (20)), .nilc (.tmp 19), none⟩,
          ⟨(some (21)), .fad (.tmp 20) 0, none⟩,
          ⟨none, .st (.tmp 21) 1 (.const (.slice none 0 0)), none⟩])
      (.seq (.blk [⟨(some (2)), .mv (.const (.int .i32 0)), none⟩])
      (.ret))))
      (.skip)))
  (.seq (.blk [⟨(some (22)), .mv (.tmp 3), none⟩,
      ⟨(some (2)), .mv (.tmp 22), none⟩])
  (.ret)))),
  [.tmp 2], 23)

end Go.Msk

/-! Numbers in groups of seven bits: the decoder of package kbin. -/
namespace Go.Msk
open Go.RowKit
set_option maxRecDepth 100000

/-- A number in groups of seven bits, of at most so many octets; the fifth octet is at most 15. -/
def uvR : Nat → List UInt8 → Option (Nat × Nat)
  | 0, _ => none
  | _ + 1, [] => none
  | n + 1, b :: r =>
    if b.toNat < 128 then (if n = 0 ∧ 15 < b.toNat then none else some (b.toNat, 1))
    else match uvR n r with
      | some (v, k) => some (b.toNat % 128 + 128 * v, k + 1)
      | none => none

theorem and127 (b : UInt8) : intBin .and .u8 (b.toNat : Int) 127 = some (.int .u8 ((b.toNat % 128 : Nat) : Int)) := by
  have key : ∀ n, n < 256 → intBin .and .u8 (n : Nat) 127 = some (.int .u8 ((n % 128 : Nat) : Int)) := by
    intro n hn
    simp only [intBin]
    congr 2
    have h : ∀ n : Fin 256, IntKind.u8.wrap ((BitVec.ofInt IntKind.u8.bits (n.val : Int) &&& BitVec.ofInt IntKind.u8.bits 127).toNat : Int) = ((n.val % 128 : Nat) : Int) := by decide +kernel
    exact h ⟨n, hn⟩
  exact key _ (byte_lt b)

theorem and128 (b : UInt8) : intBin .and .u8 (b.toNat : Int) 128 = some (.int .u8 (if b.toNat < 128 then 0 else 128)) := by
  have key : ∀ n, n < 256 → intBin .and .u8 (n : Nat) 128 = some (.int .u8 (if n < 128 then 0 else 128)) := by
    intro n hn
    simp only [intBin]
    congr 2
    have h : ∀ n : Fin 256, IntKind.u8.wrap ((BitVec.ofInt IntKind.u8.bits (n.val : Int) &&& BitVec.ofInt IntKind.u8.bits 128).toNat : Int) = (if n.val < 128 then 0 else 128) := by decide +kernel
    exact h ⟨n, hn⟩
  exact key _ (byte_lt b)

theorem u32_nat {n : Nat} (h : n < 4294967296) : IntKind.u32.wrap (n : Int) = n := by
  simp [IntKind.wrap, IntKind.bits, IntKind.signed]; omega

theorem shl_u32 {x s : Nat} (hs : s ≤ 32) (hx : x * 2 ^ s < 4294967296) : intBin .shl .u32 (x : Int) (s : Int) = some (.int .u32 ((x * 2 ^ s : Nat) : Int)) :=
  bin_shl (k := .u32) rfl (by simpa [IntKind.bits] using hs) (by simpa [IntKind.bits] using hx)

theorem or_u32 {x y s : Nat} (hx : x < 2 ^ s) (hs : s ≤ 32) (hy : y * 2 ^ s < 4294967296) : intBin .or .u32 (x : Int) ((y * 2 ^ s : Nat) : Int) = some (.int .u32 ((x + y * 2 ^ s : Nat) : Int)) := by
  have h2 : (2 : Nat) ^ s ≤ 2 ^ 32 := Nat.pow_le_pow_right (by omega) hs
  have e := bin_or (k := .u32) rfl (x := x) (y := y * 2 ^ s) (by simp only [IntKind.bits]; omega) (by simpa [IntKind.bits] using hy)
  rw [e, Nat.or_comm, Nat.or_comm, or_add y x s hx, Nat.add_comm]

section
variable {P : Program}

/-- What holds between the octets. -/
structure UvS (a : Addr) (len cap : Nat) (x : Nat) (σ : Sl) : Prop where
  s0 : σ 0 = .slice (some a) len cap
  s4 : σ 4 = .int .u32 x
  s5 : σ 5 = .int .i64 0

theorem uv_level {t i sh x len cap : Nat} {a : Addr} {l : List UInt8} {b : UInt8} {ii i2 ss : Int} {σ : Sl} {w : World} {rest : IC} {Q : Exit → Sl → World → Prop} (ht : 6 ≤ t) (hb : IsBytes w (some a) len cap l) (hi : l[i]? = some b) (hx : x < 2 ^ sh) (hsh : sh ≤ 21)
    (eii : ii = i) (ei2 : i2 = i + 2) (ess : ss = sh) (hS : UvS a len cap x σ)
    (hret : b.toNat < 128 → ∀ σ', σ' 2 = .int .u32 ((x + b.toNat * 2 ^ sh : Nat) : Int) → σ' 3 = .int .i64 (i + 1) → Q .ret σ' w)
    (hgo : ¬ b.toNat < 128 → len < i + 2 → ∀ σ', σ' 5 = .int .i64 0 → Q (.goto 0) σ' w)
    (hnext : ¬ b.toNat < 128 → ¬ len < i + 2 → ∀ σ', UvS a len cap (x + (b.toNat % 128) * 2 ^ sh) σ' → wpC P rest Q σ' w) :
    wpC P (.seq (.blk [⟨some t, .mv (.tmp 4), none⟩, ⟨some (t + 1), .mv (.tmp 0), none⟩, ⟨some (t + 2), .iad (.tmp (t + 1)) (.const (.int .i64 ii)) 1, none⟩, ⟨some (t + 3), .ld (.tmp (t + 2)), none⟩,
        ⟨some (t + 4), .bin .and (.tmp (t + 3)) (.const (.int .u8 127)), none⟩, ⟨some (t + 5), .conv .u32 (.tmp (t + 4)), none⟩, ⟨some (t + 6), .bin .shl (.tmp (t + 5)) (.const (.int .u64 ss)), none⟩, ⟨some (t + 7), .bin .or (.tmp t) (.tmp (t + 6)), none⟩, ⟨some 4, .mv (.tmp (t + 7)), none⟩])
      (.seq (.seq (.blk [⟨some (t + 8), .mv (.tmp 0), none⟩, ⟨some (t + 9), .iad (.tmp (t + 8)) (.const (.int .i64 ii)) 1, none⟩, ⟨some (t + 10), .ld (.tmp (t + 9)), none⟩, ⟨some (t + 11), .bin .and (.tmp (t + 10)) (.const (.int .u8 128)), none⟩, ⟨some (t + 12), .bin .eql (.tmp (t + 11)) (.const (.int .u8 0)), none⟩])
        (.cond (.tmp (t + 12)) (.seq (.blk [⟨some (t + 13), .mv (.tmp 4), none⟩, ⟨some 2, .mv (.tmp (t + 13)), none⟩, ⟨some 3, .mv (.const (.int .i64 (i + 1))), none⟩]) .ret)
          (.seq (.blk [⟨some (t + 14), .mv (.tmp 0), none⟩, ⟨some (t + 15), .len (.tmp (t + 14)), none⟩, ⟨some (t + 16), .bin .lss (.tmp (t + 15)) (.const (.int .i64 i2)), none⟩]) (.cond (.tmp (t + 16)) (.goto 0) .skip)))) rest)) Q σ w := by
  subst eii ei2 ess
  have hlt := hb.lt hi
  have hg := hb.get hi
  have hbl := byte_lt b
  have hp : (2 : Nat) ^ sh ≤ 2 ^ 21 := Nat.pow_le_pow_right (by omega) hsh
  have hm1 : (b.toNat % 128) * 2 ^ sh ≤ 127 * 2 ^ 21 := Nat.mul_le_mul (by omega) hp
  have h1 : (b.toNat % 128) * 2 ^ sh < 4294967296 := by omega
  have h2 : x + (b.toNat % 128) * 2 ^ sh < 4294967296 := by omega
  have e1 : IntKind.u32.wrap ((b.toNat % 128 : Nat) : Int) = ((b.toNat % 128 : Nat) : Int) := u32_nat (by omega)
  rw [wpC_seq, wpC_blk]
  refine wpR_step (v := .int .u32 x) (congrArg some hS.s4) ?_
  refine wpR_step (v := .slice (some a) len cap) (by simp only [RK.val?, ev, updo, upd, show (0 : Nat) ≠ t by omega, if_false, hS.s0]) ?_
  refine wpR_step (v := .pointer (some (a.add i))) (by simp only [RK.val?, ev, updo, upd, if_true]; rw [if_pos (by omega)]; simp) ?_
  refine wpR_step (v := .int .u8 b.toNat) (by simp only [RK.val?, ev, updo, upd, if_true]; exact hg) ?_
  refine wpR_step (v := .int .u8 ((b.toNat % 128 : Nat) : Int)) (by simp only [RK.val?, ev, updo, upd, if_true, decide_true, Bool.or_true]; exact and127 b) ?_
  refine wpR_step (v := .int .u32 ((b.toNat % 128 : Nat) : Int)) (by simp only [RK.val?, ev, updo, upd, if_true, e1]) ?_
  refine wpR_step (v := .int .u32 (((b.toNat % 128) * 2 ^ sh : Nat) : Int)) (by simp only [RK.val?, ev, updo, upd, if_true, isShift, Bool.true_or]; exact shl_u32 (by omega) h1) ?_
  refine wpR_step (v := .int .u32 ((x + (b.toNat % 128) * 2 ^ sh : Nat) : Int)) (by
    simp only [RK.val?, ev, updo, upd, show t ≠ t + 6 by omega, show t ≠ t + 5 by omega, show t ≠ t + 4 by omega, show t ≠ t + 3 by omega, show t ≠ t + 2 by omega, show t ≠ t + 1 by omega, if_false, if_true, decide_true, Bool.or_true]
    exact or_u32 hx (by omega) h1) ?_
  refine wpR_step (v := .int .u32 ((x + (b.toNat % 128) * 2 ^ sh : Nat) : Int)) (by simp only [RK.val?, ev, updo, upd, if_true]) ?_
  refine wpR_done ?_
  generalize hσ1 : updo _ (some 4) _ = σ1
  have k0 : σ1 0 = .slice (some a) len cap := by
    rw [← hσ1]; simp only [updo, upd, show (0 : Nat) ≠ 4 by omega, show (0 : Nat) ≠ t + 7 by omega, show (0 : Nat) ≠ t + 6 by omega, show (0 : Nat) ≠ t + 5 by omega, show (0 : Nat) ≠ t + 4 by omega, show (0 : Nat) ≠ t + 3 by omega, show (0 : Nat) ≠ t + 2 by omega, show (0 : Nat) ≠ t + 1 by omega, show (0 : Nat) ≠ t by omega, if_false, hS.s0]
  have k4 : σ1 4 = .int .u32 ((x + (b.toNat % 128) * 2 ^ sh : Nat) : Int) := by rw [← hσ1]; rfl
  have k5 : σ1 5 = .int .i64 0 := by
    rw [← hσ1]; simp only [updo, upd, show (5 : Nat) ≠ 4 by omega, show (5 : Nat) ≠ t + 7 by omega, show (5 : Nat) ≠ t + 6 by omega, show (5 : Nat) ≠ t + 5 by omega, show (5 : Nat) ≠ t + 4 by omega, show (5 : Nat) ≠ t + 3 by omega, show (5 : Nat) ≠ t + 2 by omega, show (5 : Nat) ≠ t + 1 by omega, show (5 : Nat) ≠ t by omega, if_false, hS.s5]
  clear hσ1
  rw [wpC_seq, wpC_seq, wpC_blk]
  refine wpR_step (v := .slice (some a) len cap) (congrArg some k0) ?_
  refine wpR_step (v := .pointer (some (a.add i))) (by simp only [RK.val?, ev, updo, upd, if_true]; rw [if_pos (by omega)]; simp) ?_
  refine wpR_step (v := .int .u8 b.toNat) (by simp only [RK.val?, ev, updo, upd, if_true]; exact hg) ?_
  refine wpR_step (v := .int .u8 (if b.toNat < 128 then 0 else 128)) (by simp only [RK.val?, ev, updo, upd, if_true, decide_true, Bool.or_true]; exact and128 b) ?_
  refine wpR_step (v := .bool (decide (b.toNat < 128))) (by
    simp only [RK.val?, ev, updo, upd, if_true, decide_true, Bool.or_true, intBin]
    by_cases hbb : b.toNat < 128 <;> simp [hbb]) ?_
  refine wpR_done ?_
  by_cases hbb : b.toNat < 128
  · rw [wpC_cond_t (by simp only [ev, updo, upd, if_true, hbb, decide_true]), wpC_seq, wpC_blk]
    refine wpR_step (v := .int .u32 ((x + (b.toNat % 128) * 2 ^ sh : Nat) : Int)) (by
      simp only [RK.val?, ev, updo, upd, show (4 : Nat) ≠ t + 8 by omega, show (4 : Nat) ≠ t + 9 by omega, show (4 : Nat) ≠ t + 10 by omega, show (4 : Nat) ≠ t + 11 by omega, show (4 : Nat) ≠ t + 12 by omega, if_false, k4]) ?_
    refine wpR_step (v := .int .u32 ((x + (b.toNat % 128) * 2 ^ sh : Nat) : Int)) (by simp only [RK.val?, ev, updo, upd, if_true]) ?_
    refine wpR_step (v := .int .i64 (i + 1)) rfl ?_
    refine wpR_done ?_
    refine hret hbb _ ?_ rfl
    rw [Nat.mod_eq_of_lt hbb]; rfl
  · rw [wpC_cond_f (by simp only [ev, updo, upd, if_true, hbb, decide_false]), wpC_seq, wpC_blk]
    refine wpR_step (v := .slice (some a) len cap) (by
      simp only [RK.val?, ev, updo, upd, show (0 : Nat) ≠ t + 8 by omega, show (0 : Nat) ≠ t + 9 by omega, show (0 : Nat) ≠ t + 10 by omega, show (0 : Nat) ≠ t + 11 by omega, show (0 : Nat) ≠ t + 12 by omega, if_false, k0]) ?_
    refine wpR_step (v := .int .i64 len) (by simp only [RK.val?, ev, updo, upd, if_true]) ?_
    refine wpR_step (v := .bool (decide (len < i + 2))) (by
      simp only [RK.val?, ev, updo, upd, if_true, decide_true, Bool.or_true, intBin]
      congr 2
      exact decide_eq_decide.2 (by omega)) ?_
    refine wpR_done ?_
    have g : ∀ j, j < 6 → (updo (updo (updo (updo (updo (updo (updo (updo σ1 (some (t + 8)) (.slice (some a) len cap)) (some (t + 9)) (.pointer (some (a.add i)))) (some (t + 10)) (.int .u8 b.toNat)) (some (t + 11)) (.int .u8 (if b.toNat < 128 then 0 else 128))) (some (t + 12)) (.bool (decide (b.toNat < 128)))) (some (t + 14)) (.slice (some a) len cap)) (some (t + 15)) (.int .i64 len)) (some (t + 16)) (.bool (decide (len < i + 2)))) j = σ1 j := by
      intro j hj
      simp only [updo, upd, show j ≠ t + 8 by omega, show j ≠ t + 9 by omega, show j ≠ t + 10 by omega, show j ≠ t + 11 by omega, show j ≠ t + 12 by omega, show j ≠ t + 14 by omega, show j ≠ t + 15 by omega, show j ≠ t + 16 by omega, if_false]
    by_cases hl2 : len < i + 2
    · rw [wpC_cond_t (by simp only [ev, updo, upd, if_true, hl2, decide_true])]
      exact hgo hbb hl2 _ ((g 5 (by omega)).trans k5)
    · rw [wpC_cond_f (by simp only [ev, updo, upd, if_true, hl2, decide_false]), wpC_skip]
      exact hnext hbb hl2 _ ⟨(g 0 (by omega)).trans k0, (g 4 (by omega)).trans k4, (g 5 (by omega)).trans k5⟩

end
end Go.Msk
