/- A small language of resolved operations, and what the generic and the generated functions do in it (part 16). -/
import Derived.Test.YtkgihecaappglaaDoorFo

namespace Go.Msk
open Go.RowKit
set_option maxRecDepth 100000
section
variable {P : Program} {F : Nat → Nat}
theorem sameTree_one (hm : P.follows .mixedOrders = true) (h : liftF P (F sSameTree) = some (ir_sSameTree F)) (hs : liftF P (F sSame) = some (ir_sSame F)) {n : Int} {s : List UInt8} {null : Bool} {l : List TR} {u : List (Nat × List UInt8)}
    (hf : ∀ t ∈ l, SameAt P (F sSameTree) t) (hsl : s.length ≤ 2147483647) (hl : l.length ≤ 2147483647) (hul : u.length ≤ 2147483647) (hu : ∀ x ∈ u, x.2.length ≤ 2147483647) : SameAt P (F sSameTree) (.mk n s null l u) := by
  intro w cs1 cs2 hr1 hr2
  have hS : ∀ (w : World) (v1 v2 : Value) (l : List UInt8), SlC (fun _ => True) w v1 l.length (u8s l) → SlC (fun _ => True) w v2 l.length (u8s l) → l.length ≤ 2147483647 →
      Calls P (F sSame) [v1, v2].toArray w fun e w' => e = .returned (.bool true) ∧ Mod [] w w' := fun w v1 v2 l g1 g2 g3 =>
    (same_call hm hs g1 g2 (by omega)).mono fun e w' ⟨k1, k2⟩ => ⟨by rw [k1]; simp, k2⟩
  obtain ⟨sv1, lv1, uv1, css1, uss1, rfl, a1, a2, a3, a4, a5⟩ : ∃ sv lv uv css uss, cs1 = [.int .i64 n, sv, .bool null, lv, uv] ∧ SlC (fun _ => True) w sv s.length (u8s s) ∧ SlC (fun _ => True) w lv l.length css.flatten ∧ RepTL (fun _ => True) w l css ∧
      SlC (fun _ => True) w uv u.length uss.flatten ∧ RepU (fun _ => True) w u uss := by
    cases hr1 with | mk h1 h2 h3 h4 h5 => exact ⟨_, _, _, _, _, rfl, h1, h2, h3, h4, h5⟩
  obtain ⟨sv2, lv2, uv2, css2, uss2, rfl, c1, c2, c3, c4, c5⟩ : ∃ sv lv uv css uss, cs2 = [.int .i64 n, sv, .bool null, lv, uv] ∧ SlC (fun _ => True) w sv s.length (u8s s) ∧ SlC (fun _ => True) w lv l.length css.flatten ∧ RepTL (fun _ => True) w l css ∧
      SlC (fun _ => True) w uv u.length uss.flatten ∧ RepU (fun _ => True) w u uss := by
    cases hr2 with | mk h1 h2 h3 h4 h5 => exact ⟨_, _, _, _, _, rfl, h1, h2, h3, h4, h5⟩
  refine call_of h hm (by simp) ?_
  have g0 : args0 [.agg [.int .i64 n, sv1, .bool null, lv1, uv1].toArray, .agg [.int .i64 n, sv2, .bool null, lv2, uv2].toArray] 0 = .agg [.int .i64 n, sv1, .bool null, lv1, uv1].toArray := rfl
  have g1 : args0 [.agg [.int .i64 n, sv1, .bool null, lv1, uv1].toArray, .agg [.int .i64 n, sv2, .bool null, lv2, uv2].toArray] 1 = .agg [.int .i64 n, sv2, .bool null, lv2, uv2].toArray := rfl
  generalize args0 [.agg [.int .i64 n, sv1, .bool null, lv1, uv1].toArray, .agg [.int .i64 n, sv2, .bool null, lv2, uv2].toArray] = σ0 at g0 g1 ⊢
  have k1 : (Value.agg [.int .i64 n, sv1, .bool null, lv1, uv1].toArray).cells.toList = [.int .i64 n, sv1, .bool null, lv1, uv1] := rfl
  have k2 : (Value.agg [.int .i64 n, sv2, .bool null, lv2, uv2].toArray).cells.toList = [.int .i64 n, sv2, .bool null, lv2, uv2] := rfl
  rw [wpC_seq, wpC_blk]
  refine wpR_run ?_
  simp only [RK.run, ev, g0, k1]
  intro T1
  have b1 := Blk.new w [.int .i64 n, sv1, .bool null, lv1, uv1] T1
  have m1 : Mod [] w (w.alloc (.cells [.int .i64 n, sv1, .bool null, lv1, uv1].toArray T1)) := Mod.alloc _ _ _
  generalize w.alloc (.cells [.int .i64 n, sv1, .bool null, lv1, uv1].toArray T1) = w1 at b1 m1 ⊢
  refine wpR_run ?_
  have g1' : ∀ x, updo σ0 (some 2) x 1 = .agg [.int .i64 n, sv2, .bool null, lv2, uv2].toArray := fun x => by simp [updo, upd, g1]
  simp only [RK.run, ev, g1', k2]
  intro T2
  have b2 := Blk.new w1 [.int .i64 n, sv2, .bool null, lv2, uv2] T2
  have m2 : Mod [] w1 (w1.alloc (.cells [.int .i64 n, sv2, .bool null, lv2, uv2].toArray T2)) := Mod.alloc _ _ _
  generalize w1.alloc (.cells [.int .i64 n, sv2, .bool null, lv2, uv2].toArray T2) = w2 at b2 m2 ⊢
  refine wpR_step (v := .bool false) (by simp [RK.val?, ev]) ?_
  have m02 := m1.trans m2
  have b12 := b1.mod m2 (by simp)
  have up : ∀ {v : Value} {k : Nat} {cs : List Value} {w' : World}, Mod [] w2 w' → SlC (fun _ => True) w v k cs → SlC (fun _ => True) w' v k cs := fun hm h => h.mod (m02.trans hm) (by simp) fun _ _ h => h
  obtain ⟨x1, x2, rfl⟩ := a2.shape
  obtain ⟨x3, x4, rfl⟩ := c2.shape
  obtain ⟨x5, x6, rfl⟩ := a4.shape
  obtain ⟨x7, x8, rfl⟩ := c4.shape
  simp only [wpR, thenC]
  rw [wpC_seq]
  refine same_head hS hsl b12 b2 (up (Mod.refl _ _) a1) (up (Mod.refl _ _) c1) (by simp [updo, upd]) (by simp [updo, upd]) fun σ3 w3 t2 t3 m3 => ?_
  simp only [thenC]
  rw [wpC_seq]
  refine same_loop1 hf hl (b12.mod m3 (by simp)) (b2.mod m3 (by simp)) (up m3 a2) (a3.mod (m02.trans m3) (by simp) fun _ _ h => h) (up m3 c2) (c3.mod (m02.trans m3) (by simp) fun _ _ h => h) t2 t3 fun σ4 w4 r2 r3 m4 => ?_
  have m34 := m3.trans m4
  simp only [thenC]
  rw [wpC_seq]
  refine same_loop2 hS hu hul (b12.mod m34 (by simp)) (b2.mod m34 (by simp)) (up m34 a4) (a5.mod (m02.trans m34) (by simp) fun _ _ h => h) (up m34 c4) (c5.mod (m02.trans m34) (by simp) fun _ _ h => h) r2 r3 fun σ5 w5 m5 => ?_
  simp only [thenC]
  rw [wpC_seq, wpC_blk]
  refine wpR_step (v := .bool true) (by simp [RK.val?, ev]) ?_
  simp only [wpR, wpC, thenC, postC, rvals, List.mapM_cons, List.mapM_nil, RV.val, updo, upd_same, Option.bind_eq_bind, Option.bind_some, Option.pure_def, tup_one]
  exact ⟨trivial, m02.trans (m34.trans m5)⟩
theorem sameTree_call (hm : P.follows .mixedOrders = true) (h : liftF P (F sSameTree) = some (ir_sSameTree F)) (hs : liftF P (F sSame) = some (ir_sSame F)) : ∀ t : TR, t.small → SameAt P (F sSameTree) t := by
  intro t
  refine TR.rec (motive_1 := fun t => t.small → SameAt P (F sSameTree) t) (motive_2 := fun l => ∀ t ∈ l, t.small → SameAt P (F sSameTree) t) ?_ ?_ ?_ t
  · intro n s null l u ih hsm
    simp only [TR.small] at hsm
    exact sameTree_one hm h hs (fun t ht => ih t ht (TR.smallL_mem hsm.2.2.2.2 t ht)) hsm.1 hsm.2.1 hsm.2.2.1 hsm.2.2.2.1
  · intro t ht; simp at ht
  · intro a l ih1 ih2 t ht
    rcases List.mem_cons.1 ht with rfl | ht
    · exact ih1
    · exact ih2 t ht
end
end Go.Msk

namespace Go.Msk
open Go.RowKit
set_option maxRecDepth 100000
def pairK (b d f : FuncId) : List RI :=
  [⟨some (b + 1), .mv (.tmp 0), none⟩, ⟨some (b + 2), .call f [.tmp (b + 1)], none⟩, ⟨some b, .mv (.tmp (b + 2)), none⟩, ⟨some (b + 3), .ext (.tmp b) 0, none⟩, ⟨some (b + 4), .ext (.tmp b) 1, none⟩, ⟨some d, .alloc tzero, none⟩, ⟨none, .st (.tmp d) 5 (.tmp (b + 3)), none⟩, ⟨some (d + 1), .mv (.tmp (b + 4)), none⟩]
def unsK (sm kept tell uns got same : FuncId) : IC × List RV × Nat :=
  (.seq (.blk [⟨some 2, .mv (.const (.bool false)), none⟩])
  (.seq (.seq (.blk [⟨some 9, .mv (.tmp 0), none⟩, ⟨some 10, .len (.tmp 9), none⟩, ⟨some 11, .bin .gtr (.tmp 10) (.const (.int .i64 2147483647)), none⟩])
    (.cond (.tmp 11) (.seq (.blk [⟨some 2, .mv (.const (.bool true)), none⟩]) .ret) .skip))
  (.seq (.seq (.blk [⟨some 12, .mv (.tmp 0), none⟩, ⟨some 13, .len (.tmp 12), none⟩, ⟨some 14, .bin .gtr (.tmp 13) (.const (.int .i64 1000)), none⟩])
    (.cond (.tmp 14) (.seq (.blk [⟨some 2, .mv (.const (.bool true)), none⟩]) .ret) .skip))
  (.seq (.blk [⟨some 16, .call sm [], none⟩, ⟨some 17, .build tzero [], none⟩, ⟨some 18, .call kept [.tmp 16, .const (.int .i64 0), .tmp 17], none⟩, ⟨some 19, .call tell [.tmp 18], none⟩, ⟨some 15, .mv (.tmp 19), none⟩, ⟨some 20, .ext (.tmp 15) 0, none⟩, ⟨some 21, .ext (.tmp 15) 1, none⟩,
     ⟨some 3, .alloc tzero, none⟩, ⟨none, .st (.tmp 3) 5 (.tmp 20), none⟩, ⟨some 4, .mv (.tmp 21), none⟩])
  (.seq (.blk (pairK 22 5 tell))
  (.seq (.blk (pairK 27 7 uns))
  (.seq (.drw [⟨⟨some 32, .mv (.tmp 4), none⟩, false, []⟩, ⟨⟨some 33, .mv (.tmp 32), none⟩, false, []⟩, ⟨⟨some 34, .mv (.tmp 6), some (33, true)⟩, false, []⟩, ⟨⟨some 35, .mv (.tmp 8), some (33, true)⟩, false, []⟩, ⟨⟨some 36, .beq false (.tmp 34) (.tmp 35), some (33, true)⟩, false, []⟩,
      ⟨⟨some 37, .pick (.tmp 33) (.tmp 36) (.const (.bool false)), none⟩, false, []⟩, ⟨⟨some 38, .mv (.tmp 37), none⟩, false, []⟩, ⟨⟨some 39, .mv (.tmp 6), some (38, true)⟩, false, []⟩, ⟨⟨some 40, .lnot (.tmp 39), some (38, true)⟩, false, []⟩, ⟨⟨some 41, .mv (.tmp 40), some (38, true)⟩, false, []⟩,
      ⟨⟨some 42, .ldn (.tmp 5) 5, some (41, false)⟩, false, []⟩, ⟨⟨some 43, .call got [.tmp 42], some (41, false)⟩, true, []⟩, ⟨⟨some 44, .ldn (.tmp 7) 5, some (41, false)⟩, false, []⟩, ⟨⟨some 45, .call got [.tmp 44], some (41, false)⟩, true, [11]⟩,
      ⟨⟨some 46, .call same [.tmp 43, .tmp 45], some (41, false)⟩, true, [11, 13]⟩, ⟨⟨some 47, .pick (.tmp 41) (.const (.bool true)) (.tmp 46), some (38, true)⟩, false, [11, 13, 14]⟩, ⟨⟨some 48, .pick (.tmp 38) (.tmp 47) (.const (.bool false)), none⟩, false, [11, 13, 14]⟩,
      ⟨⟨some 2, .mv (.tmp 48), none⟩, false, [11, 13, 14]⟩] [])
  .ret)))))), [.tmp 2], 49)
def TellOfK (P : Program) (f : FuncId) (g : Nat) (Te : TypeId) (ve : Value) (res : List UInt8 → Option TR) : Prop :=
  ∀ (w : World) (v : Value) (src : List UInt8), src.length ≤ 1000 → SlC (fun _ => True) w v src.length (u8s src) → GErr g w Te ve →
    Calls P f [v].toArray w fun e w' => Mod [] w w' ∧ ∃ cs, RepT (fun b => w.heap.size ≤ b) w' ((res src).getD .zero) cs ∧ e = .returned (.tuple #[.agg cs.toArray, .bool (res src).isSome])
section
variable {P : Program}
attribute [local simp] gOk updo upd ev RK.val? isShift intBin Addr.add_mk Value.cells undef
theorem pairK_wp {b d f g : Nat} {Te : TypeId} {ve : Value} {res : List UInt8 → Option TR} {src : List UInt8} {v : Value} (hf : TellOfK P f g Te ve res) (hl : src.length ≤ 1000)
    {σ : Sl} {w : World} {rest : Sl → World → Prop} (h0 : σ 0 = v) (hv : SlC (fun _ => True) w v src.length (u8s src)) (hg : GErr g w Te ve) (hd : 0 < d) (hdb : d + 1 < b)
    (hQ : ∀ σ' w' p cs, (∀ j, j < b → j ≠ d → j ≠ d + 1 → σ' j = σ j) → σ' d = .pointer (some ⟨p, 0, none⟩) → σ' (d + 1) = .bool (res src).isSome → Blk w' p cs → w.heap.size ≤ p →
      RepT (fun b => w.heap.size ≤ b ∧ b ≠ p) w' ((res src).getD .zero) cs → Mod [] w w' → rest σ' w') :
    wpR P (pairK b d f) σ w rest := by
  unfold pairK
  refine go1 (v := v) rfl (by simp [h0]) ?_
  refine goCall rfl (vs := [v]) (by simp) (hf w v src hl hv hg) ?_
  rintro e w2 ⟨m12, cs, hrep, rfl⟩
  refine ⟨_, rfl, ?_⟩
  refine go1 (v := .tuple #[.agg cs.toArray, .bool (res src).isSome]) rfl (by simp) ?_
  refine go1 (v := .agg cs.toArray) rfl (by simp) ?_
  refine go1 (v := .bool (res src).isSome) rfl (by simp) ?_
  have h5c := hrep.five
  refine goAlloc fun w3 hb3 hm3 => ?_
  refine goSt (b := w2.heap.size) (v := .agg cs.toArray) (by simp) (by simp [show b + 3 ≠ d by omega]) hb3 (by simpa using h5c) rfl (by simpa using hrep.oneCell) fun w4 hb4 hm4 => ?_
  have hb4 : Blk w4 w2.heap.size cs := by simpa using hb4
  have m24 : Mod [] w2 w4 := Mod.drop (b := w2.heap.size) (S := []) (hm3.nil.trans hm4) (Nat.le_refl _)
  refine go1 (v := .bool (res src).isSome) rfl (by simp [show b + 4 ≠ d by omega]) (goEnd ?_)
  refine hQ _ _ w2.heap.size cs ?_ ?_ ?_ hb4 m12.size ?_ (m12.trans m24)
  · intro j hj hjd hjd1
    simp [hjd, hjd1, show j ≠ b + 1 by omega, show j ≠ b + 2 by omega, show j ≠ b by omega, show j ≠ b + 3 by omega, show j ≠ b + 4 by omega]
  · simp [show d ≠ b + 4 by omega]
  · simp
  · have hlt : w2.heap.size = w2.heap.size := rfl
    refine (hrep.mod (ok' := fun b => w.heap.size ≤ b ∧ b ≠ w2.heap.size) hm3 (by simp) fun b hb hx => ⟨hx, by omega⟩).mod hm4 ?_ fun _ _ h => h
    intro b hb hx
    simp only [List.mem_singleton] at hb
    exact hx.2 hb
theorem unsK_call (hm : P.follows .mixedOrders = true) {f sm kept tell uns got same g : FuncId} (h : liftF P f = some (unsK sm kept tell uns got same)) {m : MD}
    (hsm : ∀ w, Calls P sm #[] w fun e w' => ∃ cs, e = .returned (.agg cs.toArray) ∧ RepM anyB w' m cs ∧ Mod [] w w')
    (hkept : ∀ (w : World) (ms : List Value), RepM anyB w m ms → Calls P kept [.agg ms.toArray, .int .i64 0, .agg tzero.toArray].toArray w (BytesR w (keptP m 0 .zero))) (hkl : (keptP m 0 .zero).length ≤ 1000)
    {Te : TypeId} {ve : Value} {res : List UInt8 → Option TR} (hcan : (res (keptP m 0 .zero)).isSome = true) (htell : TellOfK P tell g Te ve res) (huns : TellOfK P uns g Te ve res)
    (hsmall : ∀ src t, src.length ≤ 1000 → res src = some t → t.small) (hgot : ∀ t : TR, t.small → GotAt P got t) (hsame : ∀ t : TR, t.small → SameAt P same t)
    {w : World} {v : Value} {src : List UInt8} (hv : SlC (fun _ => True) w v src.length (u8s src)) (hg : GErr g w Te ve) :
    Calls P f [v].toArray w fun e w' => e = .returned (.bool true) ∧ Mod [] w w' := by
  unfold unsK at h
  refine call_of h hm (by simp) ?_
  clear h
  have a0 : args0 [v] 0 = v := rfl
  generalize args0 [v] = σ0 at a0 ⊢
  obtain ⟨base, cap, hvv, -⟩ := id hv
  rw [wpC_seq, wpC_blk]
  refine go1 (v := .bool false) rfl rfl (goEnd ?_)
  simp only [thenC]
  rw [wpC_seq, wpC_seq, wpC_blk]
  refine go1 (v := v) rfl (by simp [a0]) ?_
  refine go1 (v := .int .i64 src.length) rfl (by simp [hvv]) ?_
  refine go1 (v := .bool (decide ((src.length : Int) > 2147483647))) rfl (by simp) (goEnd ?_)
  simp only [thenC]
  by_cases hbig : (src.length : Int) > 2147483647
  · rw [wpC_cond_t (by simp; omega), wpC_seq, wpC_blk]
    refine go1 (v := .bool true) rfl rfl (goEnd ?_)
    simp only [thenC]
    repeat first | refine retThen ?_ | refine retBlk ?_
    exact ret1 (v := .bool true) (by simp) ⟨rfl, Mod.refl _ _⟩
  rw [wpC_cond_f (by simp; omega), wpC_skip]
  simp only [thenC]
  rw [wpC_seq, wpC_seq, wpC_blk]
  refine go1 (v := v) rfl (by simp [a0]) ?_
  refine go1 (v := .int .i64 src.length) rfl (by simp [hvv]) ?_
  refine go1 (v := .bool (decide ((src.length : Int) > 1000))) rfl (by simp) (goEnd ?_)
  simp only [thenC]
  by_cases hbig2 : (src.length : Int) > 1000
  · rw [wpC_cond_t (by simp; omega), wpC_seq, wpC_blk]
    refine go1 (v := .bool true) rfl rfl (goEnd ?_)
    simp only [thenC]
    repeat first | refine retThen ?_ | refine retBlk ?_
    exact ret1 (v := .bool true) (by simp) ⟨rfl, Mod.refl _ _⟩
  rw [wpC_cond_f (by simp; omega), wpC_skip]
  simp only [thenC]
  -- what is kept of nothing is read
  rw [wpC_seq, wpC_blk]
  refine goCall rfl (vs := []) rfl (hsm w) ?_
  rintro e w1 ⟨ms, rfl, hms, m1⟩
  refine ⟨_, rfl, ?_⟩
  refine go1 (v := .agg tzero.toArray) rfl rfl ?_
  refine goCall rfl (vs := [.agg ms.toArray, .int .i64 0, .agg tzero.toArray]) (by simp) (hkept w1 ms hms) ?_
  rintro e w2 ⟨kv, rfl, hkd, m2⟩
  refine ⟨_, rfl, ?_⟩
  have m02 := m1.trans m2
  have hks : SlC (fun _ => True) w2 kv (keptP m 0 .zero).length (u8s (keptP m 0 .zero)) := hkd.slc.mod (Mod.refl [] _) (by simp) fun _ _ _ => trivial
  refine goCall rfl (vs := [kv]) (by simp) (htell w2 kv _ hkl hks (cell_mod hg m02 (by simp))) ?_
  rintro e w3 ⟨m3, cs0, hrep0, rfl⟩
  rw [hcan]
  refine ⟨_, rfl, ?_⟩
  have m03 := m02.trans m3
  refine go1 (v := .tuple #[.agg cs0.toArray, .bool true]) rfl (by simp) ?_
  refine go1 (v := .agg cs0.toArray) rfl (by simp) ?_
  refine go1 (v := .bool true) rfl (by simp) ?_
  refine goAlloc fun w4 hb4 hm4 => ?_
  refine goSt (b := w3.heap.size) (v := .agg cs0.toArray) (by simp) (by simp) hb4 (by simpa using hrep0.five) rfl (by simpa using hrep0.oneCell) fun w5 _ hm5 => ?_
  have m35 : Mod [] w3 w5 := Mod.drop (b := w3.heap.size) (S := []) (hm4.nil.trans hm5) (Nat.le_refl _)
  have m05 := m03.trans m35
  refine go1 (v := .bool true) rfl (by simp) (goEnd ?_)
  simp only [thenC]
  generalize hσ : updo _ (some 4) _ = σ1
  have s0 : σ1 0 = v := by rw [← hσ]; simp [a0]
  have s4 : σ1 4 = .bool true := by rw [← hσ]; simp
  clear hσ
  -- both ways
  have hv5 := hv.mod (ok' := fun _ => True) m05 (by simp) fun _ _ h => h
  have hg5 : GErr g w5 Te ve := cell_mod hg m05 (by simp)
  rw [wpC_seq, wpC_blk]
  refine pairK_wp htell (by omega) s0 hv5 hg5 (by omega) (by omega) ?_
  intro σ2 w6 p1 cs1 a2 q5 q6 hb1 hp1 hr1 m6
  simp only [thenC]
  rw [wpC_seq, wpC_blk]
  refine pairK_wp huns (by omega) (by rw [a2 0 (by omega) (by omega) (by omega)]; exact s0) (hv5.mod (ok' := fun _ => True) m6 (by simp) fun _ _ h => h) (cell_mod hg5 m6 (by simp)) (by omega) (by omega) ?_
  intro σ3 w7 p2 cs2 a3 q7 q8 hb2 hp2 hr2 m7
  simp only [thenC]
  have hsmt : ((res src).getD .zero).small := by
    cases hr : res src with
    | none => simp [TR.zero, TR.small, TR.smallL]
    | some t => exact hsmall _ _ (by omega) hr
  have r4 : σ3 4 = .bool true := by rw [a3 4 (by omega) (by omega) (by omega), a2 4 (by omega) (by omega) (by omega)]; exact s4
  have r5 : σ3 5 = .pointer (some ⟨p1, 0, none⟩) := by rw [a3 5 (by omega) (by omega) (by omega)]; exact q5
  have r6 : σ3 6 = .bool (res src).isSome := by rw [a3 6 (by omega) (by omega) (by omega)]; exact q6
  have hr1 : RepT (fun b => b < w7.heap.size) w7 ((res src).getD .zero) cs1 := hr1.mod m7 (by simp) fun b hb _ => Nat.lt_of_lt_of_le hb m7.size
  have hr2 : RepT (fun b => b < w7.heap.size) w7 ((res src).getD .zero) cs2 := hr2.mod (Mod.refl [] _) (by simp) fun b hb _ => hb
  have hb1 := hb1.mod m7 (by simp)
  have m07 := (m05.trans m6).trans m7
  generalize (res src).isSome = o at q8 r6
  generalize (res src).getD .zero = t at hr1 hr2 hsmt
  rw [wpC_seq]
  show wpD P _ [] _ w7.drew _
  have hmd : Mod [] w7 w7.drew := Mod.drew _ _
  have hsz : w7.drew.heap.size = w7.heap.size := rfl
  have hb1' := hb1.mod hmd (by simp)
  have hb2' := hb2.mod hmd (by simp)
  have hr1' : RepT (fun b => b < w7.heap.size) w7.drew t cs1 := hr1.mod hmd (by simp) fun _ _ h => h
  have hr2' : RepT (fun b => b < w7.heap.size) w7.drew t cs2 := hr2.mod hmd (by simp) fun _ _ h => h
  have c1 := cellsAt_of' hb1'.cells hr1.five
  have c2 := cellsAt_of' hb2'.cells hr2.five
  have m0d := m07.trans hmd
  refine wpD_of_B (fun i v w' => match i with | 11 => ∃ cs, v = .agg cs.toArray ∧ RepT (fun _ => True) w' t cs | 13 => ∃ cs, v = .agg cs.toArray ∧ RepT (fun _ => True) w' t cs | 14 => v = .bool true | _ => True) (by
    intro i v w w' h hm
    split at h
    · obtain ⟨cs, e, h⟩ := h; exact ⟨cs, e, h.mod hm (by simp) fun _ _ h => h⟩
    · obtain ⟨cs, e, h⟩ := h; exact ⟨cs, e, h.mod hm (by simp) fun _ _ h => h⟩
    · exact h
    · trivial) ?_
  refine bo1 (v := .bool true) rfl (by simp [r4]) ?_
  refine bo1 (v := .bool true) rfl (by simp) ?_
  refine bo1 (v := .bool o) (by simp) (by simp [r6]) ?_
  refine bo1 (v := .bool o) (by simp) (by simp [q8]) ?_
  refine bo1 (v := .bool true) (by simp) (by simp) ?_
  refine bo1 (v := .bool true) rfl (by simp) ?_
  refine bo1 (v := .bool true) rfl (by simp) ?_
  refine bo1 (v := .bool o) (by simp) (by simp [r6]) ?_
  refine bo1 (v := .bool !o) (by simp) (by simp) ?_
  refine bo1 (v := .bool !o) (by simp) (by simp) ?_
  cases o with
  | false =>
    refine bo0 (by simp) ?_
    refine bo0 (by simp) ?_
    refine bo0 (by simp) ?_
    refine bo0 (by simp) ?_
    refine bo0 (by simp) ?_
    refine bo1 (v := .bool true) (by simp) (by simp) ?_
    refine bo1 (v := .bool true) rfl (by simp) ?_
    refine bo1 (v := .bool true) rfl (by simp) ?_
    intro w' hm' hkn
    refine goEnd ?_
    simp only [thenC]
    exact ret1 (v := .bool true) (by simp) ⟨rfl, m0d.trans hm'⟩
  | true =>
    refine bo1 (v := .agg cs1.toArray) (by simp) (by simp [r5, c1]) ?_
    refine boCall (vs := [.agg cs1.toArray]) (by simp) (by simp) (fun w' hm' _ => (hgot t hsmt w7.heap.size w' cs1 (by have := hm'.size; omega) (hr1'.mod hm' (by simp) fun _ _ h => h)).mono ?_) ?_
    · rintro e w'' ⟨us, rfl, hru, hmm⟩
      exact ⟨_, rfl, hmm, us, rfl, hru.mod (Mod.refl [] _) (by simp) fun _ _ _ => trivial⟩
    rintro v1 ⟨wv1, us1, rfl, -⟩
    refine bo1 (v := .agg cs2.toArray) (by simp) (by simp [q7, c2]) ?_
    refine boCall (vs := [.agg cs2.toArray]) (by simp) (by simp) (fun w' hm' _ => (hgot t hsmt w7.heap.size w' cs2 (by have := hm'.size; omega) (hr2'.mod hm' (by simp) fun _ _ h => h)).mono ?_) ?_
    · rintro e w'' ⟨us, rfl, hru, hmm⟩
      exact ⟨_, rfl, hmm, us, rfl, hru.mod (Mod.refl [] _) (by simp) fun _ _ _ => trivial⟩
    rintro v2 ⟨wv2, us2, rfl, -⟩
    refine boCall (vs := [.agg us1.toArray, .agg us2.toArray]) (by simp) (by simp) (fun w' hm' hkn => ?_) ?_
    · have k1 := known_get (j := 11) (t := 43) hkn (by simp) rfl rfl (by simp) rfl
      have k2 := known_get (j := 13) (t := 45) hkn (by simp) rfl rfl (by simp) rfl
      obtain ⟨x1, e1, q1⟩ : ∃ cs, Value.agg us1.toArray = .agg cs.toArray ∧ RepT (fun _ => True) w' t cs := by simpa using k1
      obtain ⟨x2, e2, q2⟩ : ∃ cs, Value.agg us2.toArray = .agg cs.toArray ∧ RepT (fun _ => True) w' t cs := by simpa using k2
      rw [e1, e2]
      refine (hsame t hsmt w' x1 x2 q1 q2).mono ?_
      rintro e w'' ⟨rfl, hmm⟩
      exact ⟨_, rfl, hmm, rfl⟩
    rintro v3 ⟨wv3, ev3⟩
    have ev3 : v3 = .bool true := ev3
    subst ev3
    refine bo1 (v := .bool true) (by simp) (by simp) ?_
    refine bo1 (v := .bool true) rfl (by simp) ?_
    refine bo1 (v := .bool true) rfl (by simp) ?_
    intro w' hm' hkn
    refine goEnd ?_
    simp only [thenC]
    exact ret1 (v := .bool true) (by simp) ⟨rfl, m0d.trans hm'⟩
end
end Go.Msk

namespace Go.Msk
open Go.RowKit
set_option maxRecDepth 100000
theorem TR.smallL_of {l : List TR} (h : ∀ t ∈ l, t.small) : TR.smallL l := by
  induction l with
  | nil => trivial
  | cons t l ih => exact ⟨h t List.mem_cons_self, ih fun x hx => h x (List.mem_cons_of_mem _ hx)⟩
def GV.sm (g : GV) : Prop := g.told.small ∧ ∀ m, g = .tag m → m.length ≤ 2147483647 ∧ ∀ p ∈ m, p.2.length ≤ 2147483647
def Dec.Small (D : Dec) : Prop := ∀ (p : PK) (x : Bool) (s : RS), s.src.length ≤ 2147483647 → (D.prim p x s).1.sm
def Df.smallB : Df → Bool
  | .str l => decide (l.length ≤ 1000)
  | _ => true
theorem Df.small {d : Df} (h : d.smallB = true) : d.gv.sm := by
  refine ⟨?_, fun m e => by cases d <;> simp [Df.gv] at e⟩
  cases d with
  | str l =>
    simp only [Df.smallB, decide_eq_true_eq] at h
    simp only [Df.gv, Msk.str, GV.told, TR.small, TR.smallL]
    simp; omega
  | _ => simp [Df.gv, GV.told, TR.small, TR.smallL]
def Sc.len : Sc → Nat
  | .nil => 0
  | .prm _ _ _ _ _ rest => rest.len + 1
  | .enm _ _ _ _ _ rest => rest.len + 1
  | .lsp _ _ _ _ _ _ _ rest => rest.len + 1
  | .lss _ _ _ _ _ _ rest => rest.len + 1
  | .sub _ _ _ rest => rest.len + 1
  | .tags _ => 1
  | .uid _ _ rest => rest.len + 1
  | .vst _ _ _ _ rest => rest.len + 1
def Sc.smallB : Sc → Bool
  | .nil => true
  | .prm _ _ _ _ d rest => d.smallB && rest.smallB
  | .enm _ _ _ _ d rest => d.smallB && rest.smallB
  | .lsp _ _ _ _ _ _ _ rest => rest.smallB
  | .lss _ _ _ _ _ body rest => decide (body.len ≤ 1000) && body.smallB && rest.smallB
  | .sub _ _ body rest => decide (body.len ≤ 1000) && body.smallB && rest.smallB
  | .tags _ => true
  | .uid _ _ rest => rest.smallB
  | .vst _ _ _ _ _ => false
theorem Sc.dgv_len : ∀ sc : Sc, sc.dgv.length = sc.len := by
  intro sc
  induction sc with
  | nil => rfl
  | _ => simp [Sc.dgv, Sc.len, *]
theorem arr_sm {l : List UInt8} (h : l.length ≤ 2147483647) : (GV.arr l).sm := by
  refine ⟨?_, fun m e => by simp at e⟩
  simp only [GV.told, TR.small, TR.smallL]
  simpa using h
theorem toldF_len (gs : List GV) : (GV.toldF gs).length ≤ gs.length := by
  induction gs with
  | nil => simp [GV.toldF]
  | cons g gs ih => cases g <;> simp only [GV.toldF, List.length_cons] <;> omega
theorem toldF_small {gs : List GV} (h : ∀ g ∈ gs, g.sm) : TR.smallL (GV.toldF gs) := by
  induction gs with
  | nil => simp [GV.toldF, TR.smallL]
  | cons g gs ih =>
    have h1 := (h g List.mem_cons_self).1
    have h2 := ih fun x hx => h x (List.mem_cons_of_mem _ hx)
    cases g with
    | tag m => simpa only [GV.toldF] using h2
    | _ => simp only [GV.toldF]; exact ⟨h1, h2⟩
theorem tagsF_small {gs : List GV} (h : ∀ g ∈ gs, g.sm) : (GV.tagsF gs).length ≤ 2147483647 ∧ ∀ p ∈ GV.tagsF gs, p.2.length ≤ 2147483647 := by
  induction gs with
  | nil => simp [GV.tagsF]
  | cons g gs ih =>
    have h2 := ih fun x hx => h x (List.mem_cons_of_mem _ hx)
    cases g with
    | tag m =>
      obtain ⟨k1, k2⟩ := (h _ List.mem_cons_self).2 m rfl
      have hp := sortT_perm m
      exact ⟨by rw [GV.tagsF, hp.length_eq]; exact k1, fun p hx => k2 p (hp.mem_iff.1 hx)⟩
    | _ => exact h2
theorem rcd_small {gs : List GV} (h1 : gs.length ≤ 1000) (h2 : ∀ g ∈ gs, g.sm) : (GV.rcd gs).sm := by
  refine ⟨?_, fun m e => by simp at e⟩
  simp only [GV.told, TR.small]
  have := toldF_len gs
  have k := tagsF_small h2
  exact ⟨by simp, by omega, k.1, k.2, toldF_small h2⟩
theorem Sc.dgv_small : ∀ sc : Sc, sc.smallB = true → ∀ g ∈ sc.dgv, g.sm := by
  intro sc
  have l0 : (GV.lst true 0 []).sm := ⟨by simp [GV.told, GV.toldL, TR.small, TR.smallL], fun m e => by simp at e⟩
  induction sc with
  | nil => intro _ g hg; simp [Sc.dgv] at hg
  | prm vc i r p d rest ih =>
    intro h g hg
    simp only [Sc.smallB, Bool.and_eq_true] at h
    rcases List.mem_cons.1 hg with rfl | hg
    · exact Df.small h.1
    · exact ih h.2 g hg
  | enm vc i r p d rest ih =>
    intro h g hg
    simp only [Sc.smallB, Bool.and_eq_true] at h
    rcases List.mem_cons.1 hg with rfl | hg
    · exact Df.small h.1
    · exact ih h.2 g hg
  | lsp vc l b d i r p rest ih =>
    intro h g hg
    rcases List.mem_cons.1 hg with rfl | hg
    · exact l0
    · exact ih h g hg
  | lss vc l b z d body rest ihb ih =>
    intro h g hg
    simp only [Sc.smallB, Bool.and_eq_true] at h
    rcases List.mem_cons.1 hg with rfl | hg
    · exact l0
    · exact ih h.2 g hg
  | sub vc d body rest ihb ih =>
    intro h g hg
    simp only [Sc.smallB, Bool.and_eq_true, decide_eq_true_eq] at h
    rcases List.mem_cons.1 hg with rfl | hg
    · exact rcd_small (by rw [Sc.dgv_len]; exact h.1.1) (ihb h.1.2)
    · exact ih h.2 g hg
  | vst _ _ _ _ rest ih => intro h; simp [Sc.smallB] at h
  | uid vc f rest ih =>
    intro h g hg
    rcases List.mem_cons.1 hg with rfl | hg
    · exact arr_sm (by simp)
    · exact ih h g hg
  | tags f =>
    intro h g hg
    simp only [Sc.dgv, List.mem_singleton] at hg
    subst hg
    exact ⟨by simp [GV.told, TR.small, TR.smallL, TR.zero], fun m e => by simp only [GV.tag.injEq] at e; subst e; simp⟩
theorem lst_small {b : Bool} {z : Nat} {l : List GV} (h1 : l.length ≤ 2147483647) (h2 : ∀ g ∈ l, g.sm) : (GV.lst b z l).sm := by
  refine ⟨?_, fun m e => by simp at e⟩
  simp only [GV.told, TR.small]
  refine ⟨by simp, by rw [GV.toldL_map]; simp; omega, by simp, by simp, TR.smallL_of fun t ht => ?_⟩
  rw [GV.toldL_map] at ht
  obtain ⟨g, hg, rfl⟩ := List.mem_map.1 ht
  exact (h2 g hg).1
theorem num_sm {v : Value} (h : ∀ s, v ≠ .string s) : (GV.num v).sm := by
  refine ⟨?_, fun m e => by simp at e⟩
  cases v <;> first | exact absurd rfl (h _) | simp [GV.told, TR.small, TR.smallL, TR.zero]
theorem str_sm {l : List UInt8} (h : l.length ≤ 2147483647) : (GV.num (Msk.str l)).sm := by
  refine ⟨?_, fun m e => by simp at e⟩
  simp only [Msk.str, GV.told, TR.small, TR.smallL]
  simpa using h
theorem i64_wrap_wrap (n : Int) : IntKind.i64.wrap (IntKind.i64.wrap n) = IntKind.i64.wrap n := by
  simp only [IntKind.wrap, IntKind.bits, IntKind.signed]
  simp
  omega
end Go.Msk

namespace Go.Msk
open Go.RowKit
set_option maxRecDepth 100000
theorem dec_small {D : Dec} (hD : D.Ok) (hS : D.Small) {ver : Int} {x : Bool} : ∀ (sc : Sc) (s s' : RS) (gs : List GV), sc.smallB = true → s.src.length ≤ 2147483647 → sc.dec D ver x s = some (gs, s') →
    gs.length = sc.len ∧ (∀ g ∈ gs, g.sm) ∧ s'.src.length ≤ s.src.length := by
  intro sc
  have l0 : (GV.lst true 0 []).sm := ⟨by simp [GV.told, GV.toldL, TR.small, TR.smallL], fun m e => by simp at e⟩
  have prim : ∀ (vc : VC) (p : PK) (d : Df) (s s1 : RS) (g : GV), d.smallB = true → s.src.length ≤ 2147483647 → (if vc.holds ver then some (D.prim p x s) else some (d.gv, s)) = some (g, s1) → g.sm ∧ s1.src.length ≤ s.src.length := by
    intro vc p d s s1 g hd hs h
    split at h
    · simp only [Option.some.injEq] at h
      have e1 := hS p x s hs
      have e2 := hD.prle p x s
      rw [h] at e1 e2
      exact ⟨e1, e2⟩
    · simp only [Option.some.injEq, Prod.mk.injEq] at h
      obtain ⟨rfl, rfl⟩ := h
      exact ⟨Df.small hd, Nat.le_refl _⟩
  have cons : ∀ {g : GV} {l : List GV}, g.sm → (∀ y ∈ l, y.sm) → ∀ y ∈ g :: l, y.sm := fun h1 h2 y hy => by
    rcases List.mem_cons.1 hy with rfl | hy
    · exact h1
    · exact h2 y hy
  induction sc with
  | nil =>
    intro s s' gs _ hs h
    simp only [Sc.dec, Option.some.injEq, Prod.mk.injEq] at h
    obtain ⟨rfl, rfl⟩ := h
    exact ⟨rfl, by simp, Nat.le_refl _⟩
  | prm vc i r p d rest ih =>
    intro s s' gs hb hs h
    simp only [Sc.smallB, Bool.and_eq_true] at hb
    obtain ⟨g, s1, l, h1, h2, rfl⟩ := consD_some h
    obtain ⟨k1, k2⟩ := prim vc p d s s1 g hb.1 hs h1
    obtain ⟨k3, k4, k5⟩ := ih s1 s' l hb.2 (by omega) h2
    exact ⟨by simp [Sc.len, k3], cons k1 k4, by omega⟩
  | enm vc i r p d rest ih =>
    intro s s' gs hb hs h
    simp only [Sc.smallB, Bool.and_eq_true] at hb
    obtain ⟨g, s1, l, h1, h2, rfl⟩ := consD_some h
    obtain ⟨k1, k2⟩ := prim vc p d s s1 g hb.1 hs h1
    obtain ⟨k3, k4, k5⟩ := ih s1 s' l hb.2 (by omega) h2
    exact ⟨by simp [Sc.len, k3], cons k1 k4, by omega⟩
  | lsp vc len b d i r p rest ih =>
    intro s s' gs hb hs h
    simp only [Sc.smallB] at hb
    obtain ⟨g, s1, l, h1, h2, rfl⟩ := consD_some h
    have : g.sm ∧ s1.src.length ≤ s.src.length := by
      split at h1
      · obtain ⟨⟨b, z, y, rfl, q1, q2, -⟩, q3⟩ := decLst_ty hD (T := fun g => g.sm) (fun s g s' hs h => by
          simp only [Option.some.injEq] at h
          have e1 := hS p x s hs
          have e2 := hD.prle p x s
          rw [h] at e1 e2
          exact ⟨e1, e2⟩) hs h1
        exact ⟨lst_small q2 q1, q3⟩
      · simp only [Option.some.injEq, Prod.mk.injEq] at h1
        obtain ⟨rfl, rfl⟩ := h1
        exact ⟨l0, Nat.le_refl _⟩
    obtain ⟨k3, k4, k5⟩ := ih s1 s' l hb (by omega) h2
    exact ⟨by simp [Sc.len, k3], cons this.1 k4, by omega⟩
  | lss vc len b z dfl body rest ihb ih =>
    intro s s' gs hb hs h
    simp only [Sc.smallB, Bool.and_eq_true, decide_eq_true_eq] at hb
    obtain ⟨g, s1, l, h1, h2, rfl⟩ := consD_some h
    have : g.sm ∧ s1.src.length ≤ s.src.length := by
      split at h1
      · obtain ⟨⟨b, z, y, rfl, q1, q2, -⟩, q3⟩ := decLst_ty hD (T := fun g => g.sm) (fun s g s' hs h => by
          unfold rcdD at h
          cases hd : body.dec D ver x s with
          | none => rw [hd] at h; simp at h
          | some q =>
            obtain ⟨gl, s2⟩ := q
            rw [hd] at h
            simp only [Option.some.injEq, Prod.mk.injEq] at h
            obtain ⟨rfl, rfl⟩ := h
            obtain ⟨k1, k2, k3⟩ := ihb s s2 gl hb.1.2 hs hd
            exact ⟨rcd_small (by omega) k2, k3⟩) hs h1
        exact ⟨lst_small q2 q1, q3⟩
      · simp only [Option.some.injEq, Prod.mk.injEq] at h1
        obtain ⟨rfl, rfl⟩ := h1
        exact ⟨l0, Nat.le_refl _⟩
    obtain ⟨k3, k4, k5⟩ := ih s1 s' l hb.2 (by omega) h2
    exact ⟨by simp [Sc.len, k3], cons this.1 k4, by omega⟩
  | sub vc dfl body rest ihb ih =>
    intro s s' gs hb hs h
    simp only [Sc.smallB, Bool.and_eq_true, decide_eq_true_eq] at hb
    obtain ⟨g, s1, l, h1, h2, rfl⟩ := consD_some h
    have : g.sm ∧ s1.src.length ≤ s.src.length := by
      split at h1
      · unfold rcdD at h1
        cases hd : body.dec D ver x s with
        | none => rw [hd] at h1; simp at h1
        | some q =>
          obtain ⟨gl, s2⟩ := q
          rw [hd] at h1
          simp only [Option.some.injEq, Prod.mk.injEq] at h1
          obtain ⟨rfl, rfl⟩ := h1
          obtain ⟨k1, k2, k3⟩ := ihb s s2 gl hb.1.2 hs hd
          exact ⟨rcd_small (by omega) k2, k3⟩
      · simp only [Option.some.injEq, Prod.mk.injEq] at h1
        obtain ⟨rfl, rfl⟩ := h1
        exact ⟨rcd_small (by rw [Sc.dgv_len]; exact hb.1.1) (Sc.dgv_small body hb.1.2), Nat.le_refl _⟩
    obtain ⟨k3, k4, k5⟩ := ih s1 s' l hb.2 (by omega) h2
    exact ⟨by simp [Sc.len, k3], cons this.1 k4, by omega⟩

  | vst _ _ _ _ rest ih => intro s s' gs hb; simp [Sc.smallB] at hb
  | uid vc f rest ih =>
    intro s s' gs hb hs h
    simp only [Sc.smallB] at hb
    obtain ⟨g, s1, l, h1, h2, rfl⟩ := consD_some h
    have : g.sm ∧ s1.src.length ≤ s.src.length := by
      split at h1
      · simp only [Option.some.injEq] at h1
        have e1 := hS .uuid x s hs
        have e2 := hD.prle .uuid x s
        rw [h1] at e1 e2
        exact ⟨e1, e2⟩
      · simp only [Option.some.injEq, Prod.mk.injEq] at h1
        obtain ⟨rfl, rfl⟩ := h1
        exact ⟨arr_sm (by simp), Nat.le_refl _⟩
    obtain ⟨k3, k4, k5⟩ := ih s1 s' l hb (by omega) h2
    exact ⟨by simp [Sc.len, k3], cons this.1 k4, by omega⟩
  | tags f =>
    intro s s' gs hb hs h
    simp only [Sc.dec] at h
    split at h
    · simp only [Option.some.injEq, Prod.mk.injEq] at h
      obtain ⟨rfl, rfl⟩ := h
      have k := hD.tagty s hs
      refine ⟨rfl, fun g hg => ?_, hD.tagle s⟩
      simp only [List.mem_singleton] at hg
      subst hg
      exact ⟨by simp [GV.told, TR.small, TR.smallL, TR.zero], fun m e => by simp only [GV.tag.injEq] at e; subst e; exact k⟩
    · simp only [Option.some.injEq, Prod.mk.injEq] at h
      obtain ⟨rfl, rfl⟩ := h
      refine ⟨rfl, fun g hg => ?_, Nat.le_refl _⟩
      simp only [List.mem_singleton] at hg
      subst hg
      exact ⟨by simp [GV.told, TR.small, TR.smallL, TR.zero], fun m e => by simp only [GV.tag.injEq] at e; subst e; simp⟩
theorem rdN_le (k : Nat) (s : RS) : (rdN k s).2.src.length ≤ s.src.length := by
  unfold rdN; split <;> simp [RS.fail]
theorem rdSpan_le (l : Int) (s : RS) : (rdSpan l s).2.src.length ≤ s.src.length := by
  unfold rdSpan; split <;> simp [RS.fail]
theorem rdSpan_len {l : Int} {s : RS} {o : List UInt8} (h : (rdSpan l s).1 = some o) : o.length ≤ s.src.length := by
  unfold rdSpan at h
  split at h
  · simp at h
  · simp only at h
    split at h
    · simp at h
    · simp only [Option.some.injEq] at h; subst h; simp; omega
theorem rdSpan_getD (l : Int) (s : RS) : ((rdSpan l s).1.getD []).length ≤ s.src.length := by
  cases h : (rdSpan l s).1 with
  | none => simp
  | some o => exact rdSpan_len h
theorem rdCl_le (s : RS) : (rdCl s).2.src.length ≤ s.src.length := rdUv_le s
theorem rdString_b (s : RS) : (rdString s).1.length ≤ s.src.length ∧ (rdString s).2.src.length ≤ s.src.length := by
  have h := rdN_le 2 s
  simp only [rdString]
  exact ⟨Nat.le_trans (rdSpan_getD _ _) h, Nat.le_trans (rdSpan_le _ _) h⟩
theorem rdCString_b (s : RS) : (rdCString s).1.length ≤ s.src.length ∧ (rdCString s).2.src.length ≤ s.src.length := by
  have h := rdCl_le s
  simp only [rdCString]
  exact ⟨Nat.le_trans (rdSpan_getD _ _) h, Nat.le_trans (rdSpan_le _ _) h⟩
theorem rdNullableString_b (s : RS) : (∀ l, (rdNullableString s).1 = some l → l.length ≤ s.src.length) ∧ (rdNullableString s).2.src.length ≤ s.src.length := by
  have h := rdN_le 2 s
  simp only [rdNullableString]
  split
  · exact ⟨by simp, h⟩
  · exact ⟨fun l e => by simp only [Option.some.injEq] at e; subst e; exact Nat.le_trans (rdSpan_getD _ _) h, Nat.le_trans (rdSpan_le _ _) h⟩
theorem rdCNullableString_b (s : RS) : (∀ l, (rdCNullableString s).1 = some l → l.length ≤ s.src.length) ∧ (rdCNullableString s).2.src.length ≤ s.src.length := by
  have h := rdCl_le s
  simp only [rdCNullableString]
  split
  · exact ⟨by simp, h⟩
  · exact ⟨fun l e => by simp only [Option.some.injEq] at e; subst e; exact Nat.le_trans (rdSpan_getD _ _) h, Nat.le_trans (rdSpan_le _ _) h⟩
theorem rdBytes_b (s : RS) : (∀ l, (rdBytes s).1 = some l → l.length ≤ s.src.length) ∧ (rdBytes s).2.src.length ≤ s.src.length := by
  have h := rdN_le 4 s
  simp only [rdBytes]
  split
  · exact ⟨fun l e => by simp only [Option.some.injEq] at e; subst e; simp, h⟩
  · exact ⟨fun l e => Nat.le_trans (rdSpan_len e) h, Nat.le_trans (rdSpan_le _ _) h⟩
theorem rdCBytes_b (s : RS) : (∀ l, (rdCBytes s).1 = some l → l.length ≤ s.src.length) ∧ (rdCBytes s).2.src.length ≤ s.src.length := by
  have h := rdCl_le s
  simp only [rdCBytes]
  split
  · exact ⟨fun l e => by simp only [Option.some.injEq] at e; subst e; simp, h⟩
  · exact ⟨fun l e => Nat.le_trans (rdSpan_len e) h, Nat.le_trans (rdSpan_le _ _) h⟩
theorem rdNullableBytes_b (s : RS) : (∀ l, (rdNullableBytes s).1 = some l → l.length ≤ s.src.length) ∧ (rdNullableBytes s).2.src.length ≤ s.src.length := by
  have h := rdN_le 4 s
  simp only [rdNullableBytes]
  split
  · exact ⟨by simp, h⟩
  · exact ⟨fun l e => Nat.le_trans (rdSpan_len e) h, Nat.le_trans (rdSpan_le _ _) h⟩
theorem rdCNullableBytes_b (s : RS) : (∀ l, (rdCNullableBytes s).1 = some l → l.length ≤ s.src.length) ∧ (rdCNullableBytes s).2.src.length ≤ s.src.length := by
  have h := rdCl_le s
  simp only [rdCNullableBytes]
  split
  · exact ⟨by simp, h⟩
  · exact ⟨fun l e => Nat.le_trans (rdSpan_len e) h, Nat.le_trans (rdSpan_le _ _) h⟩
theorem rdUuid_b (s : RS) : (rdUuid s).1.length = 16 ∧ (rdUuid s).2.src.length ≤ s.src.length := ⟨rdUuid_len s, rdSpan_le _ _⟩
theorem uvR_pos : ∀ (n : Nat) (l : List UInt8) (v k : Nat), uvR n l = some (v, k) → 1 ≤ k ∧ l ≠ []
  | 0, l, v, k, h => by simp [uvR] at h
  | n + 1, [], v, k, h => by simp [uvR] at h
  | n + 1, b :: r, v, k, h => by
    refine ⟨?_, by simp⟩
    simp only [uvR] at h
    split at h
    · split at h
      · simp at h
      · simp only [Option.some.injEq, Prod.mk.injEq] at h; omega
    · split at h
      · simp only [Option.some.injEq, Prod.mk.injEq] at h; omega
      · simp at h
theorem rdUv_step (s : RS) : (rdUv s).2.src.length + 1 ≤ s.src.length ∨ (rdUv s).1 = 0 := by
  unfold rdUv
  split
  · rename_i v k h
    obtain ⟨h1, h2⟩ := uvR_pos _ _ _ _ h
    left
    have : 0 < s.src.length := List.length_pos_iff.2 h2
    simp; omega
  · exact .inr rfl
theorem putTag_len (m : List (Nat × List UInt8)) (k : Nat) (l : List UInt8) : (putTag m k l).length = if k ∈ m.map (·.1) then m.length else m.length + 1 := by
  have := congrArg List.length (putTag_keys m k l)
  rw [List.length_map] at this
  rw [this]
  split <;> simp
theorem putTag_mem {m : List (Nat × List UInt8)} {k : Nat} {l : List UInt8} {p : Nat × List UInt8} (h : p ∈ putTag m k l) : p ∈ m ∨ p.2 = l := by
  induction m with
  | nil => simp only [putTag, List.mem_singleton] at h; subst h; exact .inr rfl
  | cons q m ih =>
    obtain ⟨k', l'⟩ := q
    simp only [putTag] at h
    split at h
    · rcases List.mem_cons.1 h with rfl | h
      · exact .inr rfl
      · exact .inl (List.mem_cons_of_mem _ h)
    · rcases List.mem_cons.1 h with rfl | h
      · exact .inl List.mem_cons_self
      · exact (ih h).imp (List.mem_cons_of_mem _) id
theorem rdTagsN_b : ∀ (n : Nat) (m : List (Nat × List UInt8)) (s : RS) (N : Nat), s.src.length ≤ N → (∀ p ∈ m, p.2.length ≤ N) →
    (rdTagsN n m s).1.length ≤ m.length + s.src.length + (if 0 ∈ m.map (·.1) then 0 else 1) ∧ (∀ p ∈ (rdTagsN n m s).1, p.2.length ≤ N) ∧ (rdTagsN n m s).2.src.length ≤ s.src.length
  | 0, m, s, N, hs, hm => by simp only [rdTagsN]; exact ⟨by omega, hm, Nat.le_refl _⟩
  | n + 1, m, s, N, hs, hm => by
    simp only [rdTagsN]
    have a1 := rdUv_le s
    have a2 := rdUv_le (rdUv s).2
    have a3 := rdSpan_le (rdUv (rdUv s).2).1 (rdUv (rdUv s).2).2
    have a4 := rdSpan_getD (rdUv (rdUv s).2).1 (rdUv (rdUv s).2).2
    have st := rdUv_step s
    generalize (rdSpan (rdUv (rdUv s).2).1 (rdUv (rdUv s).2).2).1.getD [] = o at *
    generalize (rdSpan (rdUv (rdUv s).2).1 (rdUv (rdUv s).2).2).2 = s3 at *
    obtain ⟨h1, h2, h3⟩ := rdTagsN_b n (putTag m (rdUv s).1 o) s3 N (by omega) (fun p hp => by
      rcases putTag_mem hp with hp | hp
      · exact hm p hp
      · rw [hp]; omega)
    generalize rdTagsN n (putTag m (rdUv s).1 o) s3 = r at h1 h2 h3 ⊢
    refine ⟨?_, h2, by omega⟩
    have hk := putTag_keys m (rdUv s).1 o
    rw [putTag_len] at h1
    rw [hk] at h1
    by_cases hin : (rdUv s).1 ∈ m.map (·.1)
    · simp only [if_pos hin] at h1
      split at h1 <;> rename_i h0
      · rw [if_pos h0]; omega
      · rw [if_neg h0]; omega
    · simp only [if_neg hin] at h1
      by_cases hz : (rdUv s).1 = 0
      · rw [hz] at hin h1
        rw [if_neg hin]
        rw [if_pos (by simp)] at h1
        omega
      · have hst := st.resolve_right hz
        have e0 : (0 ∈ m.map (·.1) ++ [(rdUv s).1]) ↔ 0 ∈ m.map (·.1) := by
          simp only [List.mem_append, List.mem_singleton]
          exact ⟨fun h => h.resolve_right fun h => hz h.symm, .inl⟩
        simp only [e0] at h1
        omega
theorem rdTags_b (s : RS) : (rdTags s).1.length ≤ s.src.length ∧ (∀ p ∈ (rdTags s).1, p.2.length ≤ s.src.length) ∧ (rdTags s).2.src.length ≤ s.src.length := by
  unfold rdTags
  have a1 := rdUv_le s
  obtain ⟨h1, h2, h3⟩ := rdTagsN_b (rdUv s).1 [] (rdUv s).2 s.src.length a1 (by simp)
  refine ⟨?_, h2, by omega⟩
  rcases rdUv_step s with h | h
  · simp at h1; omega
  · rw [h]; simp [rdTagsN]
theorem decStd_ok : decStd.Ok where
  short := decStd_short
  lenle := fun x s => by
    have h := rdN_le 4 s
    have h2 := rdUv_le s
    simp only [decStd]
    split
    · simp only [rdCArrayLen]; split
      · simp [RS.fail]
      · exact h2
    · simp only [rdArrayLen]; split
      · simp [RS.fail]
      · exact h
  prle := fun p x s => by
    cases p <;> simp only [decStd]
    · exact rdN_le _ _
    · exact rdN_le _ _
    · exact rdN_le _ _
    · exact rdN_le _ _
    · exact rdN_le _ _
    · exact rdN_le _ _
    · exact rdN_le _ _
    · exact (rdUuid_b s).2
    · split
      · exact (rdCString_b s).2
      · exact (rdString_b s).2
    · split
      · exact (rdCNullableString_b s).2
      · exact (rdNullableString_b s).2
    · split
      · exact (rdCBytes_b s).2
      · exact (rdBytes_b s).2
    · split
      · exact (rdCNullableBytes_b s).2
      · exact (rdNullableBytes_b s).2
  ty := fun p x s hs => by
    cases p <;> simp only [decStd, PK.ty]
    · exact ⟨_, rfl⟩
    · exact ⟨_, _, rfl⟩
    · exact ⟨_, _, rfl⟩
    · exact ⟨_, _, rfl⟩
    · exact ⟨_, _, rfl⟩
    · exact ⟨_, rfl, i64_wrap_wrap _⟩
    · exact ⟨_, _, rfl⟩
    · exact ⟨_, rfl, (rdUuid_b s).1⟩
    · split
      · exact ⟨_, rfl⟩
      · exact ⟨_, rfl⟩
    · split
      · exact ⟨_, rfl⟩
      · exact ⟨_, rfl⟩
    · split
      · exact ⟨_, rfl, fun l h => Nat.le_trans ((rdCBytes_b s).1 l h) hs⟩
      · exact ⟨_, rfl, fun l h => Nat.le_trans ((rdBytes_b s).1 l h) hs⟩
    · split
      · exact ⟨_, rfl, fun l h => Nat.le_trans ((rdCNullableBytes_b s).1 l h) hs⟩
      · exact ⟨_, rfl, fun l h => Nat.le_trans ((rdNullableBytes_b s).1 l h) hs⟩
  tagle := fun s => (rdTags_b s).2.2
  tagty := fun s hs => ⟨Nat.le_trans (rdTags_b s).1 hs, fun p hp => Nat.le_trans ((rdTags_b s).2.1 p hp) hs⟩
theorem decStd_small : decStd.Small := fun p x s hs => by
  have nb : ∀ {o : Option (List UInt8)}, (∀ l, o = some l → l.length ≤ s.src.length) → (GV.nstr o).sm := fun {o} h => by
    refine ⟨?_, fun m e => by simp at e⟩
    cases o with
    | none => simp [GV.told, TR.small, TR.smallL]
    | some l => have := h l rfl; simp only [GV.told, TR.small, TR.smallL]; simp; omega
  have yb : ∀ {o : Option (List UInt8)}, (∀ l, o = some l → l.length ≤ s.src.length) → (GV.byt o).sm := fun {o} h => by
    refine ⟨?_, fun m e => by simp at e⟩
    cases o with
    | none => simp [GV.told, TR.small, TR.smallL]
    | some l => have := h l rfl; simp only [GV.told, TR.small, TR.smallL]; simp; omega
  cases p <;> simp only [decStd]
  · exact num_sm (by simp)
  · exact num_sm (by simp)
  · exact num_sm (by simp)
  · exact num_sm (by simp)
  · exact num_sm (by simp)
  · exact num_sm (by simp)
  · exact num_sm (by simp)
  · refine ⟨?_, fun m e => by simp at e⟩
    have := (rdUuid_b s).1
    simp only [GV.told, TR.small, TR.smallL]; simp; omega
  · split
    · exact str_sm (Nat.le_trans (rdCString_b s).1 hs)
    · exact str_sm (Nat.le_trans (rdString_b s).1 hs)
  · split
    · exact nb (rdCNullableString_b s).1
    · exact nb (rdNullableString_b s).1
  · split
    · exact yb (rdCBytes_b s).1
    · exact yb (rdBytes_b s).1
  · split
    · exact yb (rdCNullableBytes_b s).1
    · exact yb (rdNullableBytes_b s).1
end Go.Msk

namespace Go.Msk
open Go.RowKit
set_option maxRecDepth 100000
structure LibI (P : Program) (F : Nat → Nat) (has : Nat → Bool) : Prop where
  iBoolTree : has Msk.iBoolTree = true → liftF P (F Msk.iBoolTree) = some (ir_iBoolTree F)
  iTextTree : has Msk.iTextTree = true → liftF P (F Msk.iTextTree) = some (ir_iTextTree F)
  iOctetsTree : has Msk.iOctetsTree = true → liftF P (F Msk.iOctetsTree) = some (ir_iOctetsTree F)
  tEach : has Msk.tEach = true → liftF P (F Msk.tEach) = some (ir_tEach F)
  iSorted : has Msk.iSorted = true → liftF P (F Msk.iSorted) = some (ir_iSorted F)
  sort : has Msk.tEach = true → SortC P (F sortSlice) (F tEach1) (F tyU32s)
section
variable {P : Program} {F : Nat → Nat}
theorem boolTree_ok (hm : P.follows .mixedOrders = true) (h : liftF P (F iBoolTree) = some (ir_iBoolTree F)) : (TK.boo (F iBoolTree)).Ok P := by
  intro O w g v hg hr
  obtain ⟨b, rfl⟩ := hg
  have hv : v = .bool b := by cases hr; rfl
  subst hv
  refine call_of h hm (by simp) ?_
  rw [wpC_seq, wpC_blk]
  refine wpR_run ?_
  intro T
  have hb2 : Blk (w.alloc (.cells tzero.toArray T)) w.heap.size tzero := Blk.new w tzero T
  have hm1 : Mod [] w (w.alloc (.cells tzero.toArray T)) := Mod.alloc _ _ _
  have hz : ([Value.int .i64 0, .slice none 0 0, .bool false, .slice none 0 0, .slice none 0 0] : List Value) = tzero := rfl
  rw [hz]
  have hsz : (w.alloc (.cells tzero.toArray T)).heap.size = w.heap.size + 1 := by simp
  generalize w.alloc (.cells tzero.toArray T) = w1 at hb2 hm1 hsz ⊢
  have a0 : args0 [Value.bool b] 0 = .bool b := rfl
  generalize args0 [Value.bool b] = σ0 at a0 ⊢
  show wpC P (.seq (.seq _ _) _) _ _ _
  rw [wpC_seq, wpC_seq, wpC_blk]
  refine wpR_step (v := .bool b) (by simp [RK.val?, ev, updo, upd, a0]) ?_
  refine wpR_done ?_
  cases b with
  | true =>
    rw [wpC_cond_t rfl, wpC_seq, wpC_blk]
    refine wpR_step (v := .agg [.int .i64 1, .slice none 0 0, .bool false, .slice none 0 0, .slice none 0 0].toArray) (by simp [RK.val?, ev, fillL, tzero, splice, Value.cells]) ?_
    exact treeRet (by simp [updo, upd]) hb2 (by simp [updo, upd]) (RepT.num 1 false) hm1.nil (Nat.le_refl _)
  | false =>
    rw [wpC_cond_f rfl, wpC_skip]
    simp only [thenC]
    rw [wpC_seq, wpC_blk]
    refine wpR_step (v := .agg [.int .i64 0, .slice none 0 0, .bool false, .slice none 0 0, .slice none 0 0].toArray) (by simp [RK.val?, ev, fillL, tzero]) ?_
    exact treeRet (by simp [updo, upd]) hb2 (by simp [updo, upd]) (RepT.num 0 false) hm1.nil (Nat.le_refl _)
def TK.okB (F : Nat → Nat) (has : Nat → Bool) : TK → Bool
  | .num _ => true
  | .str => true
  | .boo f => f == F iBoolTree && has iBoolTree
  | .txt f => f == F iTextTree && has iTextTree
  | .oct f => f == F iOctetsTree && has iOctetsTree
theorem TK.ok_of {has : Nat → Bool} (hm : P.follows .mixedOrders = true) (L : LibI P F has) {k : TK} (h : k.okB F has = true) : k.Ok P := by
  cases k with
  | num c => trivial
  | str => trivial
  | boo f => simp only [TK.okB, Bool.and_eq_true, beq_iff_eq] at h; rw [h.1]; exact boolTree_ok hm (L.iBoolTree h.2)
  | txt f => simp only [TK.okB, Bool.and_eq_true, beq_iff_eq] at h; rw [h.1]; exact textTree_ok hm (L.iTextTree h.2)
  | oct f => simp only [TK.okB, Bool.and_eq_true, beq_iff_eq] at h; rw [h.1]; exact octetsTree_ok hm (L.iOctetsTree h.2)
def Tl.cells : Tl → Nat
  | .nil => 0
  | .fld _ rest => 1 + rest.cells
  | .lst _ _ _ rest => 1 + rest.cells
  | .uid rest => 16 + rest.cells
  | .sub _ n _ rest => n + rest.cells
  | .tags .. => 1
def Tl.okB (F : Nat → Nat) (has : Nat → Bool) : Tl → Bool
  | .nil => true
  | .fld k rest => k.okB F has && rest.okB F has
  | .lst k _ body rest => (match k with | .tell _ => decide (0 < body.cells) && decide (body.len ≤ 1000) | _ => true) && body.okB F has && rest.okB F has
  | .uid rest => rest.okB F has
  | .sub _ n body rest => decide (0 < body.cells) && decide (body.len ≤ 1000) && decide (body.cells = n) && body.okB F has && rest.okB F has
  | .tags _ b c => b == F tEach && c == F iSorted && has tEach && has iSorted
def Tl.subs : Tl → List (FuncId × Tl)
  | .nil => []
  | .fld _ rest => rest.subs
  | .lst k _ body rest => (match k with | .tell f => [(f, body)] | _ => []) ++ (body.subs ++ rest.subs)
  | .uid rest => rest.subs
  | .sub f _ body rest => (f, body) :: (body.subs ++ rest.subs)
  | .tags .. => []
def Tl.cbs : Tl → List FuncId
  | .nil => []
  | .fld _ rest => rest.cbs
  | .lst _ _ body rest => body.cbs ++ rest.cbs
  | .uid rest => rest.cbs
  | .sub _ _ body rest => body.cbs ++ rest.cbs
  | .tags a _ _ => [a]
def SubsOk (P : Program) : List (FuncId × Tl) → Prop
  | [] => True
  | p :: l => liftF P p.1 = some (p.2.code 0) ∧ SubsOk P l
def CbsOk (P : Program) : List FuncId → Prop
  | [] => True
  | a :: l => (liftF P a = some cbCode ∧ hasBody P a = true) ∧ CbsOk P l
theorem SubsOk.append {l l' : List (FuncId × Tl)} (h : SubsOk P (l ++ l')) : SubsOk P l ∧ SubsOk P l' := by
  induction l with
  | nil => exact ⟨trivial, h⟩
  | cons p l ih => exact ⟨⟨h.1, (ih h.2).1⟩, (ih h.2).2⟩
theorem CbsOk.append {l l' : List FuncId} (h : CbsOk P (l ++ l')) : CbsOk P l ∧ CbsOk P l' := by
  induction l with
  | nil => exact ⟨trivial, h⟩
  | cons p l ih => exact ⟨⟨h.1, (ih h.2).1⟩, (ih h.2).2⟩
theorem Tl.cells_len {has : Nat → Bool} : ∀ (tl : Tl) (O : List Nat) (w : World) (gs : List GV) (css : List (List Value)), tl.okB F has = true → tl.ty gs → RepL O w gs css → css.flatten.length = tl.cells := by
  intro tl
  induction tl with
  | nil => intro O w gs css _ hT hr; simp only [Tl.ty] at hT; subst hT; cases hr; rfl
  | fld k rest ih =>
    intro O w gs css h hT hr
    simp only [Tl.okB, Bool.and_eq_true] at h
    obtain ⟨g, l, rfl, hg, hT⟩ := hT
    cases hr with
    | cons h1 h2 => simp only [List.flatten_cons, List.length_append, Tl.cells, TK.one hg h1, ih _ _ _ _ h.2 hT h2]
  | lst k esz body rest _ ih =>
    intro O w gs css h hT hr
    simp only [Tl.okB, Bool.and_eq_true] at h
    obtain ⟨isnil, sz, x, l, rfl, -, -, -, hT⟩ := hT
    cases hr with
    | @cons _ _ cs css h1 h2 =>
      have : cs.length = 1 := by cases h1 <;> rfl
      simp only [List.flatten_cons, List.length_append, Tl.cells, this, ih _ _ _ _ h.2 hT h2]
  | uid rest ih =>
    intro O w gs css h hT hr
    obtain ⟨x, l, rfl, hx, hT⟩ := hT
    cases hr with
    | @cons _ _ cs css h1 h2 =>
      have : cs.length = 16 := by cases h1; rw [u8s_length, hx]
      simp only [List.flatten_cons, List.length_append, Tl.cells, this, ih _ _ _ _ h hT h2]
  | sub f n body rest ihb ih =>
    intro O w gs css h hT hr
    simp only [Tl.okB, Bool.and_eq_true, decide_eq_true_eq] at h
    obtain ⟨x, l, rfl, hx, hT, -⟩ := hT
    cases hr with
    | @cons _ _ cs css h1 h2 =>
      have : cs.length = n := by cases h1 with | rcd h1 => rw [← h.1.1.2]; exact ihb _ _ _ _ h.1.2 hx h1
      simp only [List.flatten_cons, List.length_append, Tl.cells, this, ih _ _ _ _ h.2 hT h2]
  | tags a b c =>
    intro O w gs css h hT hr
    obtain ⟨m, rfl, -⟩ := hT
    cases hr with
    | @cons _ _ cs css h1 h2 =>
      cases h2
      have : cs.length = 1 := by cases h1 <;> rfl
      simp [this, Tl.cells]
theorem Tl.tellS {has : Nat → Bool} (hm : P.follows .mixedOrders = true) {tl : Tl} {f : FuncId} (hb : tl.okB F has = true) (hO : tl.Ok P) (hpos : 0 < tl.cells) (hlen : tl.len ≤ 1000) (h : liftF P f = some (tl.code 0)) : TellS P f tl.ty := by
  intro O w B base gs css hT hr hc
  have hl := Tl.cells_len tl O w gs css hb hT hr
  have hcell : ∃ v, css.flatten[0]? = some v := ⟨css.flatten[0], List.getElem?_eq_getElem (by omega)⟩
  obtain ⟨v, hv⟩ := hcell
  have := hc.2 0 v hv
  have hlt := World.block_lt_of_cell? w _ this
  exact Tl.call hm h hO hlen O w B base gs css hT hr hlt hc
theorem Tl.ok_of {has : Nat → Bool} (hm : P.follows .mixedOrders = true) (L : LibI P F has) : ∀ tl : Tl, tl.okB F has = true → SubsOk P tl.subs → CbsOk P tl.cbs → tl.Ok P := by
  intro tl
  induction tl with
  | nil => intro _ _ _; trivial
  | fld k rest ih =>
    intro h hs hc
    simp only [Tl.okB, Bool.and_eq_true] at h
    exact ⟨TK.ok_of hm L h.1, ih h.2 hs hc⟩
  | lst k esz body rest ihb ih =>
    intro h hs hc
    simp only [Tl.okB, Bool.and_eq_true] at h
    obtain ⟨s1, s2⟩ := SubsOk.append hs
    obtain ⟨s3, s4⟩ := SubsOk.append s2
    obtain ⟨c1, c2⟩ := CbsOk.append hc
    refine ⟨?_, ih h.2 s4 c2⟩
    cases k with
    | num c => trivial
    | str => trivial
    | tell f =>
      simp only [Bool.and_eq_true, decide_eq_true_eq] at h
      exact Tl.tellS hm h.1.2 (ihb h.1.2 s3 c1) h.1.1.1 h.1.1.2 s1.1
  | uid rest ih => intro h hs hc; exact ih h hs hc
  | sub f n body rest ihb ih =>
    intro h hs hc
    simp only [Tl.okB, Bool.and_eq_true, decide_eq_true_eq] at h
    obtain ⟨s3, s4⟩ := SubsOk.append hs.2
    obtain ⟨c1, c2⟩ := CbsOk.append hc
    exact ⟨Tl.tellS hm h.1.2 (ihb h.1.2 s3 c1) h.1.1.1.1 h.1.1.1.2 hs.1, ih h.2 s4 c2, fun O w gs css hT hr => by rw [← h.1.1.2]; exact Tl.cells_len body O w gs css h.1.2 hT hr⟩
  | tags a b c =>
    intro h _ hc
    simp only [Tl.okB, Bool.and_eq_true, beq_iff_eq] at h
    obtain ⟨⟨⟨rfl, rfl⟩, h3⟩, h4⟩ := h
    exact ⟨hm, hc.1.1, hc.1.2, fun hcb hb _ _ _ hce hM h1 h2 h5 h6 h7 h8 h9 => tEach_call hm (L.tEach h3) (L.sort h3) hcb hb hce hM h1 h2 h5 h6 h7 h8 h9, fun hp hs hl => iSorted_call hm (L.iSorted h4) hp hs hl⟩
end
end Go.Msk

namespace Go.Msk
open Go.RowKit
set_option maxRecDepth 100000
section
variable {P : Program} {F : Nat → Nat}
structure MsgFs where
  tellD : FuncId
  unsD : FuncId
  mx : FuncId
  newp : FuncId
  maxv : FuncId
  setv : FuncId
  rf : FuncId
  urf : FuncId
  rd : FuncId
  tell : FuncId
variable {has : Nat → Bool} {M : MsgFs} {T : Top} {tl : Tl} {z : List Value} {most : Int}
theorem Top.dec_src {T : Top} {ver v : Int} {src : List UInt8} {n : Bool} {gs : List GV} {s' : RS} (h : T.dec decStd ver ⟨src, false, n⟩ = some ((v, gs), s')) : ∃ s1 : RS, s1.src.length ≤ src.length ∧ T.sc.dec decStd v (T.x v) s1 = some (gs, s') := by
  unfold Top.dec at h
  split at h
  rename_i v1 s1 he
  split at h
  · simp at h
  · rename_i l s2 hd
    simp only [Option.some.injEq, Prod.mk.injEq] at h
    obtain ⟨⟨rfl, rfl⟩, rfl⟩ := h
    refine ⟨s1, ?_, hd⟩
    split at he
    · simp only [Prod.mk.injEq] at he
      rw [← he.2]; exact rdN_le 2 ⟨src, false, n⟩
    · simp only [Prod.mk.injEq] at he
      rw [← he.2]; exact Nat.le_refl _
end
end Go.Msk

namespace Go.Msk
open Go.RowKit
set_option maxRecDepth 100000
inductive FX where
  | mk (ps : List (Nat × Int)) (f : Option FuncId) (subs : List FX)
  deriving Inhabited
def applyPs (a : Nat → Int) : List (Nat × Int) → Nat → Int
  | [] => a
  | (o, n) :: r => applyPs (fun j => if j = o then n else a j) r
def cells8 (a : Nat → Int) (sv : Value) : List Value := [.int .i64 (a 0), .int .i64 (a 1), .int .i64 (a 2), .int .i64 (a 3), .int .i64 (a 4), .int .i64 (a 5), .int .i64 (a 6), sv]
mutual
def FX.fd : FX → FD
  | .mk ps _ subs => .mk (applyPs (fun _ => 0) ps 0) (applyPs (fun _ => 0) ps 1) (applyPs (fun _ => 0) ps 2) (applyPs (fun _ => 0) ps 3) (applyPs (fun _ => 0) ps 4) (applyPs (fun _ => 0) ps 5) (applyPs (fun _ => 0) ps 6) (FX.fds subs)
def FX.fds : List FX → List FD
  | [] => []
  | x :: l => x.fd :: FX.fds l
end
theorem FX.fds_length : ∀ l : List FX, (FX.fds l).length = l.length
  | [] => rfl
  | x :: l => by simp [FX.fds, FX.fds_length l]
def FX.cnt : FX → Nat
  | .mk _ none _ => 1
  | .mk _ (some _) _ => 2
def FX.slot (t : Nat) (x : FX) : Nat := t + x.cnt - 1
def FX.ops (t : Nat) : FX → List RI
  | .mk ps none _ => [⟨some t, .build fzero (ps.map fun p => (p.1, 1, .const (.int .i64 p.2))), none⟩]
  | .mk ps (some f) _ => [⟨some t, .call f [], none⟩, ⟨some (t + 1), .build fzero (ps.map (fun p => (p.1, 1, Operand.const (.int .i64 p.2))) ++ [(7, 1, .tmp t)]), none⟩]
def FX.gen (t : Nat) : List FX → List RI
  | [] => []
  | x :: l => x.ops t ++ FX.gen (t + x.cnt) l
def FX.cnts : List FX → Nat
  | [] => 0
  | x :: l => x.cnt + FX.cnts l
def FX.prts (o t : Nat) : List FX → List (Nat × Nat × Operand)
  | [] => []
  | x :: l => (o, 8, .tmp (x.slot t)) :: FX.prts (o + 8) (t + x.cnt) l
def FX.genSub (l : List FX) : IC × List RV × Nat :=
  (.seq (.blk [⟨some 0, .mv (.const (.slice none 0 0)), none⟩])
    (.seq (.blk (FX.gen 1 l ++ [⟨some (1 + FX.cnts l), .bslice l.length fzero (FX.prts 0 1 l), none⟩, ⟨some 0, .mv (.tmp (1 + FX.cnts l)), none⟩])) .ret), [.tmp 0], 2 + FX.cnts l)
def FX.genMsg (l : List FX) (flex : Int) : IC × List RV × Nat :=
  (.seq (.blk [⟨some 0, .alloc [.slice none 0 0, .int .i64 0], none⟩])
    (.seq (.blk (FX.gen 1 l ++ [⟨some (1 + FX.cnts l), .bslice l.length fzero (FX.prts 0 1 l), none⟩,
      ⟨some (2 + FX.cnts l), .build [.slice none 0 0, .int .i64 0] [(1, 1, .const (.int .i64 flex)), (0, 1, .tmp (1 + FX.cnts l))], none⟩, ⟨none, .st (.tmp 0) 2 (.tmp (2 + FX.cnts l)), none⟩])) .ret), [.cells 0 2], 3 + FX.cnts l)
mutual
/-- What is asked of the functions called, and of the places. -/
def FX.Ok (P : Program) : FX → Prop
  | .mk ps f subs => (ps.all fun p => Nat.blt p.1 7) = true ∧ (match f with | some f => liftF P f = some (FX.genSub subs) | none => subs = []) ∧ FX.OkL P subs
def FX.OkL (P : Program) : List FX → Prop
  | [] => True
  | x :: l => x.Ok P ∧ FX.OkL P l
end
theorem fill_ps (sv : Value) (σ : Sl) : ∀ (ps : List (Nat × Int)) (a : Nat → Int) (q : List (Nat × Nat × Value)), (ps.all fun p => Nat.blt p.1 7) = true →
    fillL (cells8 a sv) ((ps.map fun p => ((p.1, 1, Operand.const (.int .i64 p.2)) : Nat × Nat × Operand)).map (fun p => (p.1, p.2.1, ev σ p.2.2)) ++ q) = fillL (cells8 (applyPs a ps) sv) q
  | [], a, q, _ => rfl
  | (o, n) :: ps, a, q, h => by
    simp only [List.all_cons, Bool.and_eq_true] at h
    have ho : o < 7 := Nat.lt_of_succ_le (Nat.le_of_ble_eq_true h.1)
    simp only [List.map_cons, List.cons_append, fillL, ev, applyPs]
    rw [if_pos ⟨rfl, by simp [cells8]; omega⟩]
    have e : splice (cells8 a sv) o (Value.int .i64 n).cells.toList = cells8 (fun j => if j = o then n else a j) sv := by
      rcases (by omega : o = 0 ∨ o = 1 ∨ o = 2 ∨ o = 3 ∨ o = 4 ∨ o = 5 ∨ o = 6) with rfl | rfl | rfl | rfl | rfl | rfl | rfl <;> simp [splice, cells8, Value.cells]
    rw [e]
    exact fill_ps sv σ ps _ q h.2
theorem fill_parts : ∀ (css : List (List Value)) (pre : List Value), (∀ c ∈ css, c.length = 8) →
    fillL (pre ++ zrep css.length fzero) ((css.zipIdx 0).map fun p => (pre.length + p.2 * 8, 8, Value.agg p.1.toArray)) = some (pre ++ css.flatten) := by
  intro css
  have gen : ∀ (css : List (List Value)) (pre : List Value) (k : Nat) (o : Nat), (∀ c ∈ css, c.length = 8) → o + k * 8 = pre.length →
      fillL (pre ++ zrep css.length fzero) ((css.zipIdx k).map fun p => (o + p.2 * 8, 8, Value.agg p.1.toArray)) = some (pre ++ css.flatten) := by
    intro css
    induction css with
    | nil => intro pre k o _ _; simp [fillL, zrep]
    | cons c css ih =>
      intro pre k o h ho
      have hc := h c List.mem_cons_self
      simp only [List.zipIdx_cons, List.map_cons, fillL, List.length_cons]
      have ez : zrep (css.length + 1) fzero = fzero ++ zrep css.length fzero := by simp [zrep, List.replicate_succ]
      rw [ez, if_pos ⟨by simpa [Value.cells] using hc, by simp [fzero]; omega⟩]
      have : splice (pre ++ (fzero ++ zrep css.length fzero)) (o + k * 8) (Value.agg c.toArray).cells.toList = (pre ++ c) ++ zrep css.length fzero := by
        have e := splice_mid (pre := pre) (old := fzero) (post := zrep css.length fzero) (vs := c) ho.symm (by rw [hc]; rfl)
        simpa [Value.cells] using e
      rw [this, ih (pre ++ c) (k + 1) o (fun x hx => h x (List.mem_cons_of_mem _ hx)) (by simp; omega)]
      simp
  intro pre h
  exact gen css pre 0 pre.length h (by simp)
abbrev fromB (N : Nat) : Nat → Prop := fun b => N ≤ b
theorem SlC.fresh {N M : Nat} {w : World} {v : Value} {n : Nat} {cs : List Value} (h : SlC (fromB M) w v n cs) (hN : N ≤ M) : SlC (fromB N) w v n cs := h.mod (Mod.refl [] w) (by simp) fun _ _ h => Nat.le_trans hN h
theorem RepFL.fresh {N M : Nat} {w : World} {l : List FD} {cs : List (List Value)} (h : RepFL (fromB M) w l cs) (hN : N ≤ M) : RepFL (fromB N) w l cs := h.mod (Mod.refl [] w) (by simp) fun _ _ h => Nat.le_trans hN h
theorem SlC.hold {ok : Nat → Prop} {w w' : World} {v : Value} {n : Nat} {cs : List Value} (h : SlC ok w v n cs) (hm : Mod [] w w') : SlC ok w' v n cs := h.mod hm (by simp) fun _ _ h => h
theorem RepFL.hold {ok : Nat → Prop} {w w' : World} {l : List FD} {cs : List (List Value)} (h : RepFL ok w l cs) (hm : Mod [] w w') : RepFL ok w' l cs := h.mod hm (by simp) fun _ _ h => h
section
variable {P : Program}
attribute [local simp] gOk updo upd ev RK.val? isShift intBin Addr.add_mk args0 Value.cells undef
def SlotsR (N : Nat) (w : World) (σ : Sl) : List FX → Nat → List (List Value) → Prop
  | [], _, css => css = []
  | x :: l, t, css => ∃ cs r, css = cs :: r ∧ σ (x.slot t) = .agg cs.toArray ∧ RepF (fromB N) w x.fd cs ∧ SlotsR N w σ l (t + x.cnt) r
theorem SlotsR.rep {N : Nat} {w : World} {σ : Sl} : ∀ {l : List FX} {t : Nat} {css : List (List Value)}, SlotsR N w σ l t css → RepFL (fromB N) w (FX.fds l) css
  | [], _, _, h => by subst h; simp [FX.fds]; exact .nil
  | x :: l, t, _, ⟨cs, r, e1, e2, e3, e4⟩ => by subst e1; simp only [FX.fds]; exact .cons e3 e4.rep
theorem SlotsR.prts {N : Nat} {w : World} {σ : Sl} : ∀ {l : List FX} {t o k : Nat} {css : List (List Value)}, SlotsR N w σ l t css →
    (FX.prts (o + k * 8) t l).map (fun p => (p.1, p.2.1, ev σ p.2.2)) = (css.zipIdx k).map fun p => (o + p.2 * 8, 8, Value.agg p.1.toArray)
  | [], _, _, _, _, h => by subst h; rfl
  | x :: l, t, o, k, _, ⟨cs, r, e1, e2, e3, e4⟩ => by
    subst e1
    simp only [FX.prts, List.map_cons, List.zipIdx_cons, ev, e2]
    congr 1
    have := e4.prts (o := o) (k := k + 1)
    rw [show o + k * 8 + 8 = o + (k + 1) * 8 by omega]
    exact this
def SubC (P : Program) (f : FuncId) (l : List FX) : Prop :=
  ∀ w : World, Calls P f #[] w fun e w' => ∃ v css, e = .returned v ∧ SlC (fromB w.heap.size) w' v (FX.fds l).length css.flatten ∧ RepFL (fromB w.heap.size) w' (FX.fds l) css ∧ Mod [] w w'
def FX.SubsC (P : Program) : List FX → Prop
  | [] => True
  | .mk ps f subs :: l => (ps.all fun p => Nat.blt p.1 7) = true ∧ (match f with | some f => SubC P f subs | none => subs = []) ∧ FX.SubsC P l
theorem FX.gen_wp (N : Nat) : ∀ (l : List FX) (t : Nat) (σ : Sl) (w : World) (rest : List RI) (Q : Sl → World → Prop), FX.SubsC P l → 1 ≤ t → N ≤ w.heap.size →
    (∀ σ' w' css, (∀ s, s < t → σ' s = σ s) → Mod [] w w' → SlotsR N w' σ' l t css → wpR P rest σ' w' Q) → wpR P (FX.gen t l ++ rest) σ w Q
  | [], t, σ, w, rest, Q, _, _, _, hQ => hQ σ w [] (fun _ _ => rfl) (Mod.refl _ _) rfl
  | .mk ps f subs :: l, t, σ, w, rest, Q, hs, ht, hN, hQ => by
    obtain ⟨hps, hf, hl⟩ := hs
    simp only [FX.gen, List.append_assoc]
    cases f with
    | none =>
      simp only at hf
      subst hf
      simp only [FX.ops, List.cons_append, List.nil_append, FX.cnt]
      have hfill := fill_ps (.slice none 0 0) σ ps (fun _ => 0) [] hps
      simp only [List.append_nil] at hfill
      refine go1 (v := .agg (cells8 (applyPs (fun _ => 0) ps) (.slice none 0 0)).toArray) rfl (by
        simp only [RK.val?]
        rw [show fzero = cells8 (fun _ => 0) (.slice none 0 0) from rfl, hfill]; rfl) ?_
      refine FX.gen_wp N l (t + 1) _ w rest Q hl (by omega) hN fun σ' w' css hfr hm hsl => ?_
      refine hQ σ' w' (cells8 (applyPs (fun _ => 0) ps) (.slice none 0 0) :: css) (fun s h => by rw [hfr s (by omega)]; simp only [updo]; exact upd_ne _ _ (by omega)) hm ⟨_, _, rfl, ?_, ?_, hsl⟩
      · simp only [FX.slot, FX.cnt]
        rw [show t + 1 - 1 = t by omega, hfr t (by omega)]; simp only [updo]; exact upd_same _ _ _
      · rw [FX.fd]; simp only [FX.fds]; exact .mk (css := []) SlC.nil .nil
    | some f =>
      simp only at hf
      simp only [FX.ops, List.cons_append, List.nil_append, FX.cnt]
      refine goCall rfl (vs := []) rfl (hf w) ?_
      rintro e w1 ⟨v, css1, rfl, h1, h2, hm1⟩
      refine ⟨v, rfl, ?_⟩
      have hv1 : v.cells.size = 1 ∧ v.cells.toList = [v] := by obtain ⟨b, c, rfl⟩ := h1.shape; exact ⟨rfl, rfl⟩
      have hfill := fill_ps (.slice none 0 0) (upd σ t v) ps (fun _ => 0) [(7, 1, v)] hps
      refine go1 (v := .agg (cells8 (applyPs (fun _ => 0) ps) v).toArray) rfl (by
        simp only [RK.val?, List.map_append, List.map_cons, List.map_nil, updo]
        rw [show ev (upd σ t v) (.tmp t) = v from upd_same _ _ _, show fzero = cells8 (fun _ => 0) (.slice none 0 0) from rfl, hfill]
        simp only [fillL]
        rw [if_pos ⟨hv1.1, by simp [cells8]⟩, hv1.2]
        simp [splice, cells8]) ?_
      refine FX.gen_wp N l (t + 2) _ w1 rest Q hl (by omega) (Nat.le_trans hN hm1.size) fun σ' w' css hfr hm hsl => ?_
      refine hQ σ' w' (cells8 (applyPs (fun _ => 0) ps) v :: css) (fun s h => by rw [hfr s (by omega)]; simp only [updo, upd]; rw [if_neg (by omega), if_neg (by omega)]) (hm1.trans hm) ⟨_, _, rfl, ?_, ?_, hsl⟩
      · simp only [FX.slot, FX.cnt]
        rw [show t + 2 - 1 = t + 1 by omega, hfr (t + 1) (by omega)]; simp only [updo]; exact upd_same _ _ _
      · rw [FX.fd]; exact .mk ((h1.fresh hN).hold hm) ((h2.fresh hN).hold hm)
theorem FX.row_wp {N : Nat} {l : List FX} {css : List (List Value)} {σ : Sl} {w : World} {d : Nat} {rest : List RI} {Q : Sl → World → Prop} (hs : SlotsR N w σ l 1 css) (hN : N ≤ w.heap.size)
    (h : ∀ w', SlC (fromB N) w' (.slice (some ⟨w.heap.size, 0, none⟩) l.length l.length) (FX.fds l).length css.flatten → RepFL (fromB N) w' (FX.fds l) css → Mod [] w w' → wpR P rest (upd σ d (.slice (some ⟨w.heap.size, 0, none⟩) l.length l.length)) w' Q) :
    wpR P (⟨some d, .bslice l.length fzero (FX.prts 0 1 l), none⟩ :: rest) σ w Q := by
  refine wpR_run ?_
  have hrep := hs.rep
  have hlen : l.length = css.length := by rw [← FX.fds_length, hrep.length]
  have e1 := hs.prts (o := 0) (k := 0)
  have e2 := fill_parts css [] hrep.eight
  simp only [List.nil_append, List.length_nil, Nat.zero_add, Nat.zero_mul] at e1 e2
  simp only [RK.run, hlen]
  rw [e1, e2]
  intro T
  have hb := Blk.new w css.flatten T
  have hm : Mod [] w (w.alloc (.cells css.flatten.toArray T)) := Mod.alloc _ _ _
  have hsl : SlC (fromB N) (w.alloc (.cells css.flatten.toArray T)) (.slice (some ⟨w.heap.size, 0, none⟩) l.length l.length) (FX.fds l).length css.flatten :=
    ⟨_, _, by rw [FX.fds_length], by rw [FX.fds_length]; exact Nat.le_refl _, fun h => by simp at h, fun a ha _ => by
      simp only [Option.some.injEq] at ha; subst ha
      exact ⟨hN, hb.lt, hb.cells⟩⟩
  have := h _ hsl (hrep.hold hm) hm
  rw [hlen] at this
  exact this
theorem sub_call (hm : P.follows .mixedOrders = true) {f : FuncId} {l : List FX} (h : liftF P f = some (FX.genSub l)) (hs : FX.SubsC P l) : SubC P f l := by
  intro w
  unfold FX.genSub at h
  refine call_of (args := []) h hm (by simp) ?_
  clear h
  rw [wpC_seq, wpC_blk]
  refine go1 rfl rfl (wpR_done ?_)
  rw [wpC_seq, wpC_blk]
  refine FX.gen_wp w.heap.size l 1 _ w _ _ hs (Nat.le_refl _) (Nat.le_refl _) fun σ1 w1 css hfr hm1 hsl => ?_
  refine FX.row_wp hsl hm1.size fun w2 h1 h2 hm2 => ?_
  refine go1 (v := .slice (some ⟨w1.heap.size, 0, none⟩) l.length l.length) rfl (by simp) (wpR_done ?_)
  exact ret1 (v := .slice (some ⟨w1.heap.size, 0, none⟩) l.length l.length) (by simp) ⟨_, css, rfl, h1, h2, hm1.trans hm2⟩
mutual
theorem FX.okSub (hm : P.follows .mixedOrders = true) : ∀ x : FX, x.Ok P → (match x with | .mk ps f subs => (ps.all fun p => Nat.blt p.1 7) = true ∧ (match f with | some f => SubC P f subs | none => subs = []))
  | .mk ps f subs, h => by
    simp only [FX.Ok] at h
    refine ⟨h.1, ?_⟩
    cases f with
    | none => exact h.2.1
    | some f => exact sub_call hm h.2.1 (FX.okSubs hm subs h.2.2)
theorem FX.okSubs (hm : P.follows .mixedOrders = true) : ∀ l : List FX, FX.OkL P l → FX.SubsC P l
  | [], _ => trivial
  | .mk ps f subs :: l, h => by
    simp only [FX.OkL] at h
    have h1 := FX.okSub hm (.mk ps f subs) h.1
    exact ⟨h1.1, h1.2, FX.okSubs hm l h.2⟩
end
theorem msg_call (hm : P.follows .mixedOrders = true) {f : FuncId} {l : List FX} {flex : Int} (h : liftF P f = some (FX.genMsg l flex)) (hs : FX.OkL P l) {w : World} :
    Calls P f #[] w fun e w' => ∃ cs, e = .returned (.agg cs.toArray) ∧ RepM anyB w' ⟨FX.fds l, flex⟩ cs ∧ Mod [] w w' := by
  unfold FX.genMsg at h
  refine call_of (args := []) h hm (by simp) ?_
  clear h
  rw [wpC_seq, wpC_blk]
  refine goAlloc fun w0 hb0 hm0 => wpR_done ?_
  rw [wpC_seq, wpC_blk]
  refine FX.gen_wp w0.heap.size l 1 _ w0 _ _ (FX.okSubs hm l hs) (Nat.le_refl _) (Nat.le_refl _) fun σ1 w1 css hfr hm1 hsl => ?_
  refine FX.row_wp hsl hm1.size fun w2 h1 h2 hm2 => ?_
  refine go1 (v := .agg #[.slice (some ⟨w1.heap.size, 0, none⟩) l.length l.length, .int .i64 flex]) rfl (by
    simp only [RK.val?, List.map_cons, List.map_nil, ev, upd_same, fillL]
    simp [splice, Value.cells]) ?_
  have hb2 := hb0.mod (hm1.trans hm2) (by simp)
  refine goSt (b := w.heap.size) (v := .agg #[.slice (some ⟨w1.heap.size, 0, none⟩) l.length l.length, .int .i64 flex]) ?_ (by simp) hb2 rfl rfl (by simp [Value.cells, Value.oneCell']) fun w3 hb3 hm3 => ?_
  · simp only [ev, updo, upd]
    rw [if_neg (by omega), if_neg (by omega), hfr 0 (by omega)]
    simp
  have hm23 : Mod [] w w3 := Mod.drop (b := w.heap.size) (S := []) (((hm0.trans hm1).trans hm2).nil.trans hm3) (Nat.le_refl _)
  refine wpR_done (retN (cs := [.slice (some ⟨w1.heap.size, 0, none⟩) l.length l.length, .int .i64 flex]) (b := w.heap.size) ?_ (by simpa using hb3) rfl ⟨_, rfl, ?_, hm23⟩)
  · simp only [updo, upd]
    rw [if_neg (by omega), if_neg (by omega), hfr 0 (by omega)]
    simp
  · have hlt := hb0.lt
    exact .mk (h1.mod hm3 (by simp; omega) fun _ _ _ => trivial) (h2.mod hm3 (by simp; omega) fun _ _ _ => trivial)
end
end Go.Msk

namespace Go.Msk
open Go.RowKit
set_option maxRecDepth 100000
structure KunsFs where
  newv : FuncId
  rf : FuncId
  urf : FuncId
  rd : FuncId
  tell : FuncId
  tellD : FuncId
  unsD : FuncId
  sm : FuncId
structure KunsOk (P : Program) (F : Nat → Nat) (has : Nat → Bool) (M : KunsFs) (T : Top) (tl : Tl) (fx : List FX) (flex : Int) (z : List Value) : Prop where
  newv : liftF P M.newv = some (newvCode z T.dfl)
  rf : liftF P M.rf = some (rfCode M.rd false)
  urf : liftF P M.urf = some (rfCode M.rd true)
  rd : liftF P M.rd = some T.gen
  tell : liftF P M.tell = some (tl.code 1)
  tellD : liftF P M.tellD = some (keptCode M.newv M.rf M.tell z)
  unsD : liftF P M.unsD = some (keptCode M.newv M.urf M.tell z)
  sm : liftF P M.sm = some (FX.genMsg fx flex)
  fxs : FX.OkL P fx
  cnt : Nat.blt fx.length 1000 = true
  dfl : ∃ l, liftF P T.dfl = some (dfGen l) ∧ dfOk l (T.sc.dcs.flatten.length + 1) ∧ z.length = T.sc.dcs.flatten.length + 1 ∧ dfRes l z = .int .i16 0 :: T.sc.dcs.flatten ∧ ∀ ver, dfRes l (.int .i16 ver :: T.sc.dcs.flatten) = .int .i16 ver :: T.sc.dcs.flatten
  dfs : DfsOk P T.sc.dfs
  okT : T.okB F has = true
  okL : tl.okB F has = true
  subs : SubsOk P tl.subs
  cbs : CbsOk P tl.cbs
  fits : fit T.sc tl = true
  small : T.sc.smallB = true
  len : T.sc.len ≤ 1000
  tlen : tl.len ≤ 1000
  rv : T.rv.isSome = true
  plain : FD.plainL (FX.fds fx) = true
  can : (T.tellsK decStd (keptP ⟨FX.fds fx, flex⟩ 0 .zero)).isSome = true
  clen : Nat.ble (keptP ⟨FX.fds fx, flex⟩ 0 .zero).length 1000 = true
theorem TR.setN_small' {t : TR} {n : Int} (h : t.small) : (t.setN n).small := by
  cases t; simpa [TR.setN, TR.small] using h
section
variable {P : Program} {F : Nat → Nat} {has : Nat → Bool} {M : KunsFs} {T : Top} {tl : Tl} {fx : List FX} {flex : Int} {z : List Value}
theorem KunsOk.ty (h : KunsOk P F has M T tl fx flex z) {ver vr : Int} {src : List UInt8} {gs : List GV} {s : RS} (hl : src.length ≤ 2147483647) (hd : T.dec decStd ver ⟨src, false, src.isEmpty⟩ = some ((vr, gs), s)) : tl.ty gs := by
  obtain ⟨s1, h1, h2⟩ := Top.dec_src hd
  exact (fit_ty decStd_ok T.sc tl s1 s gs h.fits (by omega) h2).1
theorem KunsOk.i64 (h : KunsOk P F has M T tl fx flex z) {vr : Int} {src : List UInt8} {gs : List GV} {s : RS} (hd : T.dec decStd 0 ⟨src, false, src.isEmpty⟩ = some ((vr, gs), s)) : IntKind.i64.wrap vr = vr := by
  unfold Top.dec at hd
  rw [h.rv] at hd
  simp only [if_true] at hd
  split at hd
  · simp at hd
  · simp only [Option.some.injEq, Prod.mk.injEq] at hd
    obtain ⟨⟨rfl, -⟩, -⟩ := hd
    simp only [IntKind.wrap, IntKind.bits, IntKind.signed]; simp; omega
theorem KunsOk.small' (h : KunsOk P F has M T tl fx flex z) {src : List UInt8} {t : TR} (hl : src.length ≤ 1000) (ht : T.tellsK decStd src = some t) : t.small := by
  unfold Top.tellsK at ht
  cases hd : T.dec decStd 0 ⟨src, false, src.isEmpty⟩ with
  | none => rw [hd] at ht; simp at ht
  | some q =>
    obtain ⟨⟨v, gs⟩, s⟩ := q
    rw [hd] at ht
    simp only at ht
    split at ht
    · simp at ht
    · simp only [Option.some.injEq] at ht
      subst ht
      obtain ⟨s1, h1, h2⟩ := Top.dec_src hd
      obtain ⟨k1, k2, -⟩ := dec_small decStd_ok decStd_small T.sc s1 s gs h.small (by omega) h2
      exact TR.setN_small' (rcd_small (by have := h.len; omega) k2).1
theorem KunsOk.tellOf (L : Lib P F has) (LI : LibI P F has) (h : KunsOk P F has M T tl fx flex z) {Te : TypeId} {ve : Value} :
    TellOfK P M.tellD (F gErr) Te ve (fun src => T.tellsK decStd src) ∧ TellOfK P M.unsD (F gErr) Te ve (fun src => T.tellsK decStd src) := by
  obtain ⟨l, e1, e2, e3, e4, e5⟩ := h.dfl
  have hz : DfC P T.dfl z (.int .i16 0 :: T.sc.dcs.flatten) := df_call L.mixed e1 (by rw [e3]; exact e2) e4
  have hT : ∀ u, T.Ok P decStd (F gErr) u := Top.ok_of L h.okT h.dfs e1 e2 e5
  have htl : TellAt P M.tell 1 tl.ty := Tl.call L.mixed h.tell (Tl.ok_of L.mixed LI tl h.okL h.subs h.cbs) h.tlen
  refine ⟨fun w v src h3 h4 h5 => ?_, fun w v src h3 h4 h5 => ?_⟩
  · exact kept_call L.mixed h.tellD h.newv hz e3.symm h.rf h.rd (hT false) htl (fun vr gs s hd => h.ty (by omega) hd) h4 (by omega) h5 (fun vr gs s hd => h.i64 hd)
  · exact kept_call L.mixed h.unsD h.newv hz e3.symm h.urf h.rd (hT true) htl (fun vr gs s hd => h.ty (by omega) hd) h4 (by omega) h5 (fun vr gs s hd => h.i64 hd)
theorem kuns_msg (L : Lib P F has) (LI : LibI P F has) (SL : SLib P F) (h : KunsOk P F has M T tl fx flex z) {f : FuncId} (hf : liftF P f = some (unsK M.sm (F sKept) M.tellD M.unsD (F lGot) (F sSameTree))) (hks : liftF P (F sKept) = some (ir_sKept F)) (hfx : liftF P (F sFixed) = some (ir_sFixed F))
    (hg : liftF P (F lGot) = some (ir_lGot F)) (hst : liftF P (F sSameTree) = some (ir_sSameTree F)) (hs : liftF P (F sSame) = some (ir_sSame F)) {Te : TypeId} {ve : Value} {w : World} {v : Value} {src : List UInt8}
    (hsl : SlC (fun _ => True) w v src.length (u8s src)) (hge : GErr (F gErr) w Te ve) : Calls P f [v].toArray w fun e w' => e = .returned (.bool true) ∧ Mod [] w w' := by
  obtain ⟨t1, t2⟩ := h.tellOf L LI (Te := Te) (ve := ve)
  have hcnt : (FX.fds fx).length < 1000 := by
    rw [FX.fds_length]
    have := h.cnt
    exact Nat.lt_of_succ_le (Nat.le_of_ble_eq_true this)
  have hcl := Nat.le_of_ble_eq_true h.clen
  have hkl := keptP_length ⟨FX.fds fx, flex⟩ 0 .zero
  exact unsK_call L.mixed hf (fun w => msg_call L.mixed h.sm h.fxs)
    (fun w ms hms => skept_call L.mixed hks hfx (writeC_plain SL (m := ⟨FX.fds fx, flex⟩) (ver := 0) h.plain hcnt) hms RepT.zero (by simp [TR.zero, TR.kok, TR.kokL]) (by unfold lim; omega)) hcl h.can t1 t2
    (fun src t hl ht => h.small' hl ht) (got_call L.mixed hg) (sameTree_call L.mixed hst hs) hsl hge
end
end Go.Msk
