/- A small language of resolved operations, and what the generic and the generated functions do in it (part 6). -/
import Derived.Test.YtolcohnlcakchaaDoorFe

namespace Go.Msk
open Go.RowKit
set_option maxRecDepth 100000
structure Top where
  rv : Option FuncId
  flex : Option Int
  dfl : FuncId
  ok : FuncId
  cpl : FuncId
  sc : Sc
  deriving Inhabited
def Top.env (T : Top) : RE := ⟨7, 8, 9, 2, 6, T.flex.isSome, T.ok, T.cpl⟩
def Top.nv (T : Top) : Nat := if T.flex.isSome then 11 else 10
def Top.t0 (T : Top) : Nat := T.nv + T.sc.nv
def Top.t1 (T : Top) : Nat := T.t0 + (if T.rv.isSome then 8 else 4)
def Top.t2 (T : Top) : Nat := T.t1 + (if T.flex.isSome then 8 else 5)
def Top.flexF (T : Top) : List IC :=
  match T.flex with
  | some n => [.blk [⟨some (T.t1 + 5), .mv (.tmp 8), none⟩, ⟨some (T.t1 + 6), .bin .geq (.tmp (T.t1 + 5)) (.const (.int .i16 n)), none⟩, ⟨some 9, .mv (.tmp (T.t1 + 6)), none⟩], .blk [⟨some (T.t1 + 7), .mv (.tmp 9), none⟩]]
  | none => []
def Top.verF (T : Top) : List IC :=
  match T.rv with
  | some f => [rdF 0 7 (T.t0 + 4) 0 f]
  | none => []
def Top.gen (T : Top) : IC × List RV × Nat :=
  (seqs ([cF 6 .nilIface, .blk [⟨some T.t0, .mv (.tmp 0), none⟩, ⟨some (T.t0 + 1), .call T.dfl [.tmp T.t0], none⟩],
     .blk [⟨some (T.t0 + 2), .mv (.tmp 1), none⟩, ⟨some (T.t0 + 3), .build [.slice none 0 0, .bool false] [(0, 1, .tmp (T.t0 + 2))], none⟩, ⟨some 7, .alloc [.slice none 0 0, .bool false], none⟩, ⟨none, .st (.tmp 7) 2 (.tmp (T.t0 + 3)), none⟩]] ++
    (T.verF ++ ([ldF 0 8 T.t1 0, .blk [⟨some (T.t1 + 4), .mv (.tmp 8), none⟩]] ++ (T.flexF ++ ([cpF 0 (T.nv - 1) T.t2] ++
    (T.sc.gen T.env (T.nv - 1) 1 T.nv (T.t2 + 1) 0 ++
     [.blk [⟨some (T.t2 + 1 + T.sc.nt T.flex.isSome), .call T.cpl [.tmp 7], none⟩, ⟨some 6, .mv (.tmp (T.t2 + 1 + T.sc.nt T.flex.isSome)), none⟩], .ret])))))),
   [.tmp 6], T.t2 + 2 + T.sc.nt T.flex.isSome)
def Top.x (T : Top) (ver : Int) : Bool := match T.flex with | some n => decide (ver ≥ n) | none => false
def Top.dec (T : Top) (D : Dec) (ver : Int) (s : RS) : Option ((Int × List GV) × RS) :=
  let (v, s1) := if T.rv.isSome then (IntKind.i16.wrap (rdN 2 s).1, (rdN 2 s).2) else (ver, s)
  match T.sc.dec D v (T.x v) s1 with
  | none => none
  | some (l, s2) => some ((v, l), s2)
section
variable {P : Program} {D : Dec}
structure Top.Ok (T : Top) (P : Program) (D : Dec) (g : Nat) (u : Bool) : Prop where
  rv : ∀ f, T.rv = some f → RdC P f fun s => (.int .i16 (IntKind.i16.wrap (rdN 2 s).1), (rdN 2 s).2)
  ok : T.sc.lists = true → OkC P T.ok
  cpl : CplC P T.cpl g
  short : D.Short
  dfl : ∀ ver, DfC P T.dfl (.int .i16 ver :: T.sc.dcs.flatten) (.int .i16 ver :: T.sc.dcs.flatten)
  sc : ∀ x, (T.flex = none → x = false) → T.sc.Ok P D u x
theorem RdC.v {f : FuncId} {val : RS → Value × RS} (h : RdC P f val) : RdV P f (fun _ s v _ => v = (val s).1) fun s => (val s).2 :=
  fun S w rb s hr hrb _ => (h S w rb s hr hrb).mono fun _e _w' ⟨h1, h2, h3⟩ => ⟨_, h1, rfl, h2, h3⟩
theorem mkRd_wp {t : Nat} {σ : Sl} {w : World} {v : Value} {Q : Exit → Sl → World → Prop} (hv : σ 1 = v) (h1 : v.cells.size = 1) (h2 : ∀ y ∈ v.cells.toList, y.oneCell' = true) (lt : 8 ≤ t)
    (hQ : ∀ σ' w', (∀ j, j < t → j ≠ 7 → σ' j = σ j) → σ' 7 = .pointer (some ⟨w.heap.size, 0, none⟩) → Blk w' w.heap.size (v.cells.toList ++ [.bool false]) → Mod [] w w' → Q .normal σ' w') :
    wpC P (.blk [⟨some t, .mv (.tmp 1), none⟩, ⟨some (t + 1), .build [.slice none 0 0, .bool false] [(0, 1, .tmp t)], none⟩, ⟨some 7, .alloc [.slice none 0 0, .bool false], none⟩, ⟨none, .st (.tmp 7) 2 (.tmp (t + 1)), none⟩]) Q σ w := by
  have hl : v.cells.toList.length = 1 := by simpa using h1
  simp only [wpC, wpR, RI.wp, gOk, if_true, RK.run, ev, updo, List.map_cons, List.map_nil, fillL, upd_same, hv]
  rw [if_pos ⟨h1, by simp⟩]
  have e1 : splice [Value.slice none 0 0, .bool false] 0 v.cells.toList = v.cells.toList ++ [.bool false] := by
    simp [splice, hl]
  simp only [e1]
  intro T
  have ec : ∀ cs, (Value.agg cs).cells = cs := fun _ => rfl
  simp only [upd, if_true, show t + 1 ≠ 7 by omega, if_false, ec]
  obtain ⟨k1, k2, k3⟩ := new_put w [.slice none 0 0, .bool false] (v.cells.toList ++ [.bool false]) T (by simp [hl]) (by
    intro y hy
    rcases List.mem_append.1 hy with hy | hy
    · exact h2 y hy
    · simp only [List.mem_singleton] at hy; subst hy; rfl)
  refine ⟨by simp [h1], k1, hQ _ _ ?_ ?_ k2 k3⟩
  · intro j hj hne
    simp only [upd, hne, show j ≠ t by omega, show j ≠ t + 1 by omega, if_false]
  · simp only [upd, if_true]
theorem callF_wp {t x : Nat} {f : FuncId} {σ : Sl} {w : World} {v : Value} {R : Ending → World → Prop} {Q : Exit → Sl → World → Prop} (hx : σ x = v) (hc : Calls P f [v].toArray w R)
    (hQ : ∀ e w', R e w' → ∃ u, e = .returned u ∧ ∀ σ', Ag t σ σ' → Q .normal σ' w') : wpC P (.blk [⟨some t, .mv (.tmp x), none⟩, ⟨some (t + 1), .call f [.tmp t], none⟩]) Q σ w := by
  simp only [wpC, wpR, RI.wp, gOk, if_true, RK.run, ev, updo, List.map_cons, List.map_nil, upd_same, hx]
  refine hc.mono fun e w' hR => ?_
  obtain ⟨u, rfl, h⟩ := hQ e w' hR
  refine ⟨u, rfl, h _ fun j hj => ?_⟩
  simp only [upd, show j ≠ t by omega, show j ≠ t + 1 by omega, if_false]
theorem mvF_wp {t x : Nat} {σ : Sl} {w : World} {Q : Exit → Sl → World → Prop} (hQ : ∀ σ', Ag t σ σ' → Q .normal σ' w) : wpC P (.blk [⟨some t, .mv (.tmp x), none⟩]) Q σ w := by
  simp only [wpC, wpR, RI.wp, gOk, if_true, RK.run, ev, updo]
  exact hQ _ fun j hj => by simp only [upd, show j ≠ t by omega, if_false]
def Top.rest (T : Top) : List IC :=
  T.flexF ++ ([cpF 0 (T.nv - 1) T.t2] ++ (T.sc.gen T.env (T.nv - 1) 1 T.nv (T.t2 + 1) 0 ++
     [.blk [⟨some (T.t2 + 1 + T.sc.nt T.flex.isSome), .call T.cpl [.tmp 7], none⟩, ⟨some 6, .mv (.tmp (T.t2 + 1 + T.sc.nt T.flex.isSome)), none⟩], .ret]))
theorem Top.rest_wp {T : Top} {g : Nat} {u : Bool} (hT : T.Ok P D g u) {σ : Sl} {w w0 : World} {b0 rb : Nat} {ver : Int} {s : RS} {Te : TypeId} {ve : Value}
    (hb : Blk w b0 (.int .i16 ver :: T.sc.dcs.flatten)) (hr : IsRd [b0] w rb s) (hrb : rb ≠ b0) (hg : GErr g w Te ve) (hgb : g ≠ b0) (hgr : g ≠ rb) (hw0 : Mod [b0] w0 w) (hfr : w0.heap.size ≤ rb)
    (h0 : σ 0 = .pointer (some ⟨b0, 0, none⟩)) (h2 : σ 2 = .bool u) (h7 : σ 7 = .pointer (some ⟨rb, 0, none⟩)) (h8 : σ 8 = .int .i16 ver) :
    wpL P T.rest (postC [.tmp 6] fun e w' => Mod [b0] w0 w' ∧
      match T.sc.dec D ver (T.x ver) s with
      | none => e = .returned (.iface Te ve)
      | some (gs, s) => e = .returned (errVal s.bad Te ve) ∧ ∃ css, RepL [b0] w' gs css ∧ css.flatten.length = T.sc.dcs.flatten.length ∧ Blk w' b0 (.int .i16 ver :: css.flatten)) σ w := by
  have hnv10 : 10 ≤ T.nv := by unfold Top.nv; split <;> omega
  have ht0 : T.t0 = T.nv + T.sc.nv := rfl
  have ht1 : T.t0 + 4 ≤ T.t1 := by unfold Top.t1; split <;> omega
  have ht2 : T.t1 + 5 ≤ T.t2 := by unfold Top.t2; split <;> omega
  unfold Top.rest
  rw [wpL_append]
  have key : ∀ σ', (∀ j, j < T.t0 → j ≠ 9 → σ' j = σ j) → (T.flex.isSome = true → σ' 9 = .bool (T.x ver)) → wpL P ([cpF 0 (T.nv - 1) T.t2] ++ (T.sc.gen T.env (T.nv - 1) 1 T.nv (T.t2 + 1) 0 ++
     [.blk [⟨some (T.t2 + 1 + T.sc.nt T.flex.isSome), .call T.cpl [.tmp 7], none⟩, ⟨some 6, .mv (.tmp (T.t2 + 1 + T.sc.nt T.flex.isSome)), none⟩], .ret])) (postC [.tmp 6] fun e w' => Mod [b0] w0 w' ∧
      match T.sc.dec D ver (T.x ver) s with
      | none => e = .returned (.iface Te ve)
      | some (gs, s) => e = .returned (errVal s.bad Te ve) ∧ ∃ css, RepL [b0] w' gs css ∧ css.flatten.length = T.sc.dcs.flatten.length ∧ Blk w' b0 (.int .i16 ver :: css.flatten)) σ' w := by
    intro σ1 a1 h9
    simp only [List.cons_append, List.nil_append, wpL]
    refine cpF_wp (by omega) fun σ2 a2 v2 => ?_
    simp only [thenC]
    have a2' : ∀ j, j < T.nv - 1 → j ≠ 9 → σ2 j = σ j := fun j hj hne => by rw [a2 j (by omega) (by omega), a1 j (by omega) hne]
    have hE : RV.Env T.env T.nv rb u (T.x ver) ver σ2 := by
      refine ⟨by simp only [Top.env]; omega, by simp only [Top.env]; omega, fun hf => ?_, by simp only [Top.env]; omega, ?_, ?_, ?_, fun hf => ?_, fun hf => ?_⟩
      · simp only [Top.env] at hf ⊢; unfold Top.nv; rw [if_pos hf]; omega
      · exact (a2' 7 (by omega) (by omega)).trans h7
      · exact (a2' 8 (by omega) (by omega)).trans h8
      · exact (a2' 2 (by omega) (by omega)).trans h2
      · have hn : T.nv = 11 := by unfold Top.nv; rw [if_pos (show T.flex.isSome = true from hf)]
        show σ2 9 = _
        rw [a2 9 (by omega) (by omega)]; exact h9 hf
      · unfold Top.x; cases hfl : T.flex with
        | none => rfl
        | some n => simp only [Top.env, hfl, Option.isSome_some] at hf; exact absurd hf (by simp)
    rw [wpL_append]
    have hs := Sc.sound (E := T.env) (g := g) (rb := rb) (Te := Te) (ve := ve) (u := u) (x := T.x ver) (ver := ver) hT.cpl hT.short T.sc hT.ok
    refine hs (T.nv - 1) 1 T.nv (T.t2 + 1) 0 b0 0 [b0] s [.int .i16 ver] [] σ2 w _ (hT.sc _ fun hf => by unfold Top.x; rw [hf]) hE (by omega) (by omega) ?_ (by simp) hr (by simpa using hrb) (by simp)
      (fun y hy => by simp only [List.mem_singleton] at hy; subst hy; exact hb.lt) hg (by simp [hgb, hgr]) (by simpa using hb) ?_
    · rw [v2, a1 _ (by omega) (by omega)]; exact h0
    · have hdrop : ∀ {w'}, Mod [rb, b0] w w' → Mod [b0] w0 w' := fun h => Mod.drop (b := rb) ((hw0.mono (by simp)).trans h) hfr
      cases hd : T.sc.dec D ver (T.x ver) s with
      | none =>
        intro σ' w' hm' hret
        have hret : σ' 6 = .iface Te ve := hret
        simp only [thenC, postC, rvals, List.mapM_cons, List.mapM_nil, RV.val, hret, Option.bind_eq_bind, Option.bind_some, Option.pure_def, tup_one]
        exact ⟨hdrop hm', trivial⟩
      | some q =>
        obtain ⟨gs, s'⟩ := q
        intro σ' w' css a' hm' hr' hrep hl' hb'
        have h7' : σ' 7 = .pointer (some ⟨rb, 0, none⟩) := (a' 7 (by omega)).trans ((a2' 7 (by omega) (by omega)).trans h7)
        have hg' : GErr g w' Te ve := cell_mod hg hm' (by simp [hgb, hgr])
        simp only [thenC, wpL, wpC, wpR, RI.wp, gOk, if_true, RK.run, ev, updo, List.map_cons, List.map_nil, h7']
        refine (hT.cpl [b0] w' rb s' Te ve hr' hg').mono ?_
        rintro e w2 ⟨rfl, rfl⟩
        refine ⟨_, rfl, ?_⟩
        simp only [postC, rvals, List.mapM_cons, List.mapM_nil, RV.val, upd, if_true, Option.bind_eq_bind, Option.bind_some, Option.pure_def, tup_one]
        refine ⟨hdrop hm', trivial, css, hrep.weaken (by simp), hl', by simpa using hb'⟩
  unfold Top.flexF
  cases hf : T.flex with
  | none =>
    rw [hf] at key
    exact key σ (fun _ _ _ => rfl) (fun h => by simp at h)
  | some n =>
    rw [hf] at key
    simp only [wpL, wpC, wpR, RI.wp, gOk, if_true, RK.run, ev, updo, thenC, upd_same]
    have hx : T.x ver = decide (ver ≥ n) := by unfold Top.x; rw [hf]
    simp only [if_true, h8, isShift, decide_true, Bool.or_true, intBin]
    refine key _ ?_ ?_
    · intro j hj hne
      simp only [upd, hne, show j ≠ T.t1 + 5 by omega, show j ≠ T.t1 + 6 by omega, show j ≠ T.t1 + 7 by omega, if_false]
    · intro _
      simp only [upd, show (9 : Nat) ≠ T.t1 + 7 by omega, if_false, if_true, hx]
theorem Top.read_call {T : Top} {g : Nat} {u : Bool} (hm : P.follows .mixedOrders = true) {f : FuncId} (h : liftF P f = some T.gen) (hT : T.Ok P D g u) {w : World} {b0 : Nat} {ver : Int} {base : Option Addr} {len cap : Nat} {src : List UInt8}
    {Te : TypeId} {ve : Value} (hb : Blk w b0 (.int .i16 ver :: T.sc.dcs.flatten)) (hsrc : IsBytes w base len cap src) (hbase : ∀ a, base = some a → a.block ≠ b0 ∧ a.block < w.heap.size) (hshort : src.length ≤ 1152921504606846976)
    (hg : GErr g w Te ve) (hgb : g ≠ b0) :
    Calls P f [.pointer (some ⟨b0, 0, none⟩), .slice base len cap, .bool u].toArray w fun e w' => Mod [b0] w w' ∧
      match T.dec D ver ⟨src, false, base.isNone⟩ with
      | none => e = .returned (.iface Te ve)
      | some ((v, gs), s) => e = .returned (errVal s.bad Te ve) ∧ ∃ css, RepL [b0] w' gs css ∧ css.flatten.length = T.sc.dcs.flatten.length ∧ Blk w' b0 (.int .i16 v :: css.flatten) := by
  have hnv10 : 10 ≤ T.nv := by unfold Top.nv; split <;> omega
  have ht0 : T.t0 = T.nv + T.sc.nv := rfl
  have ht1 : T.t0 + 4 ≤ T.t1 := by unfold Top.t1; split <;> omega
  have ht2 : T.t1 + 5 ≤ T.t2 := by unfold Top.t2; split <;> omega
  unfold Top.gen at h
  refine call_of h hm (by simp only [List.length_cons, List.length_nil]; omega) ?_
  rw [wpC_seqs]
  have s0 : args0 [.pointer (some ⟨b0, 0, none⟩), .slice base len cap, .bool u] 0 = .pointer (some ⟨b0, 0, none⟩) := rfl
  have s1 : args0 [.pointer (some ⟨b0, 0, none⟩), .slice base len cap, .bool u] 1 = .slice base len cap := rfl
  have s2 : args0 [.pointer (some ⟨b0, 0, none⟩), .slice base len cap, .bool u] 2 = .bool u := rfl
  generalize args0 [.pointer (some ⟨b0, 0, none⟩), .slice base len cap, .bool u] = σ0 at s0 s1 s2
  simp only [List.cons_append, List.nil_append, wpL]
  refine cF_wp ?_
  simp only [thenC]
  have hd := hT.dfl ver w b0 [] [] (by simpa using hb)
  refine callF_wp (v := .pointer (some ⟨b0, 0, none⟩)) (by rw [upd_ne _ _ (by omega)]; exact s0) hd ?_
  rintro e w1 ⟨rfl, hb1, hm1⟩
  refine ⟨_, rfl, fun σ1 a1 => ?_⟩
  simp only [List.nil_append, List.append_nil] at hb1
  simp only [thenC]
  refine mkRd_wp (v := .slice base len cap) (by rw [a1 _ (by omega), upd_ne _ _ (by omega)]; exact s1) rfl (by simp [Value.cells, Value.oneCell']) (by omega) fun σ2 w2 a2 v2 hb2 hm2 => ?_
  simp only [thenC]
  have a2' : ∀ j, j < T.t0 → j ≠ 6 → j ≠ 7 → σ2 j = σ0 j := fun j hj h6 h7 => by rw [a2 j (by omega) h7, a1 j (by omega), upd_ne _ _ h6]
  have hb12 : Blk w2 b0 (.int .i16 ver :: T.sc.dcs.flatten) := hb1.mod hm2 (by simp)
  have hr2 : IsRd [b0] w2 w1.heap.size ⟨src, false, base.isNone⟩ := by
    refine ⟨⟨base, len, cap, hb2, ((hsrc.mod hm1 (fun a ha => by simpa using (hbase a ha).1)).mod hm2 (by simp)), rfl, fun a ha => ⟨?_, by simpa using (hbase a ha).1, Nat.lt_of_lt_of_le (hbase a ha).2 (Nat.le_trans hm1.size hm2.size)⟩⟩, hshort⟩
    have := (hbase a ha).2; have := hm1.size; omega
  have hgl : g < w.heap.size := World.block_lt_of_cell? w ⟨g, 0, none⟩ hg
  have hg2 : GErr g w2 Te ve := cell_mod (cell_mod hg hm1 (by simpa using hgb)) hm2 (by simp)
  have hgr : g ≠ w1.heap.size := by have := hm1.size; omega
  have hbr : w1.heap.size ≠ b0 := by have := hb1.lt; omega
  rw [wpL_append]
  -- from the version on
  have key : ∀ σ3 w3 v s, (∀ j, j < T.t0 → j ≠ 6 → j ≠ 7 → σ3 j = σ0 j) → σ3 7 = .pointer (some ⟨w1.heap.size, 0, none⟩) → Blk w3 b0 (.int .i16 v :: T.sc.dcs.flatten) → IsRd [b0] w3 w1.heap.size s → GErr g w3 Te ve → Mod [b0] w w3 →
      wpL P (ldF 0 8 T.t1 0 :: .blk [⟨some (T.t1 + 4), .mv (.tmp 8), none⟩] :: T.rest) (postC [.tmp 6] fun e w' => Mod [b0] w w' ∧
        match T.sc.dec D v (T.x v) s with
        | none => e = .returned (.iface Te ve)
        | some (gs, s) => e = .returned (errVal s.bad Te ve) ∧ ∃ css, RepL [b0] w' gs css ∧ css.flatten.length = T.sc.dcs.flatten.length ∧ Blk w' b0 (.int .i16 v :: css.flatten)) σ3 w3 := by
    intro σ3 w3 v s a3 h7 hb3 hr3 hg3 hm3
    simp only [wpL]
    refine ldF_wp (v := .int .i16 v) (by rw [a3 0 (by omega) (by omega) (by omega)]; exact s0) hb3 rfl (by omega) (by omega) fun σ4 a4 v4 => ?_
    simp only [thenC]
    refine mvF_wp fun σ5 a5 => ?_
    simp only [thenC]
    have a5' : ∀ j, j < T.t0 → j ≠ 6 → j ≠ 7 → j ≠ 8 → σ5 j = σ0 j := fun j hj h6 h7 h8 => by rw [a5 j (by omega), a4 j (by omega) h8, a3 j hj h6 h7]
    refine Top.rest_wp hT hb3 hr3 hbr hg3 hgb hgr hm3 hm1.size ?_ ?_ ?_ ?_
    · rw [a5' 0 (by omega) (by omega) (by omega) (by omega)]; exact s0
    · rw [a5' 2 (by omega) (by omega) (by omega) (by omega)]; exact s2
    · rw [a5 7 (by omega), a4 7 (by omega) (by omega)]; exact h7
    · rw [a5 8 (by omega)]; exact v4
  have eQ : ∀ v s, (T.dec D ver ⟨src, false, base.isNone⟩ = match T.sc.dec D v (T.x v) s with | none => none | some (l, s2) => some ((v, l), s2)) →
      (fun (e : Ending) (w' : World) => Mod [b0] w w' ∧ match T.dec D ver ⟨src, false, base.isNone⟩ with
        | none => e = .returned (.iface Te ve)
        | some ((v, gs), s) => e = .returned (errVal s.bad Te ve) ∧ ∃ css, RepL [b0] w' gs css ∧ css.flatten.length = T.sc.dcs.flatten.length ∧ Blk w' b0 (.int .i16 v :: css.flatten)) =
      (fun e w' => Mod [b0] w w' ∧ match T.sc.dec D v (T.x v) s with
        | none => e = .returned (.iface Te ve)
        | some (gs, s) => e = .returned (errVal s.bad Te ve) ∧ ∃ css, RepL [b0] w' gs css ∧ css.flatten.length = T.sc.dcs.flatten.length ∧ Blk w' b0 (.int .i16 v :: css.flatten)) := by
    intro v s h
    funext e w'
    rw [h]
    cases T.sc.dec D v (T.x v) s <;> rfl
  cases hrv : T.rv with
  | none =>
    rw [eQ ver ⟨src, false, base.isNone⟩ (by unfold Top.dec; rw [hrv]; rfl)]
    have hv0 : T.verF = [] := by unfold Top.verF; rw [hrv]
    rw [hv0]
    simp only [wpL, thenC]
    exact key σ2 w2 ver ⟨src, false, base.isNone⟩ a2' v2 hb12 hr2 hg2 (hm1.trans hm2.nil)
  | some f =>
    rw [eQ (IntKind.i16.wrap (rdN 2 ⟨src, false, base.isNone⟩).1) (rdN 2 ⟨src, false, base.isNone⟩).2 (by unfold Top.dec; rw [hrv]; rfl)]
    have hv0 : T.verF = [rdF 0 7 (T.t0 + 4) 0 f] := by unfold Top.verF; rw [hrv]
    rw [hv0]
    simp only [wpL]
    have ht1' : T.t0 + 8 = T.t1 := by unfold Top.t1; rw [hrv]; rfl
    refine rdF_wp (S := [b0]) (pre := []) (old := [.int .i16 ver]) (post := T.sc.dcs.flatten) (hT.rv f hrv).v (by rw [a2' 0 (by omega) (by omega) (by omega)]; exact s0) v2 (by omega) (by omega) hr2 (by simpa using hbr) (by simp)
      (fun y hy => by simp only [List.mem_singleton] at hy; subst hy; exact hb12.lt) (by simpa using hb12) rfl rfl (fun O v w h => by rw [h]; exact ⟨rfl, by simp [Value.cells, Value.oneCell']⟩) fun σ3 wm w3 v a3 hv hm3 hm4 hr3 hb3 => ?_
    subst hv
    simp only [thenC]
    exact key σ3 w3 _ _ (fun j hj h6 h7 => by rw [a3 j (by omega)]; exact a2' j hj h6 h7) (by rw [a3 7 (by omega)]; exact v2) (by simpa [Value.cells] using hb3) hr3 (cell_mod (cell_mod hg2 hm3 (by simpa using hgr)) hm4 (by simpa using hgb))
      (Mod.drop (b := w1.heap.size) (S := [b0]) (((hm1.trans hm2.nil).mono (by simp)).trans ((hm3.mono (by simp)).trans (hm4.mono (by simp)))) hm1.size)
end
end Go.Msk

namespace Go.Msk
def ir_rBool (_F : Nat → Nat) : IC × List RV × Nat := (.seq (.blk [⟨some 2, .mv (.const (.bool false)), none⟩])
 (.seq (.seq (.blk [⟨some 4, .mv (.tmp 0), none⟩,
 ⟨some 5, .nilc (.tmp 4), none⟩,
 ⟨some 6, .fad (.tmp 5) 0, none⟩,
 ⟨some 7, .ld (.tmp 6), none⟩,
 ⟨some 8, .len (.tmp 7), none⟩,
 ⟨some 9, .bin .lss (.tmp 8) (.const (.int .i64 1)), none⟩])
 (.cond (.tmp 9)
 (.seq (.blk [⟨some 10, .mv (.tmp 0), none⟩,
 ⟨some 11, .nilc (.tmp 10), none⟩,
 ⟨some 12, .fad (.tmp 11) 1, none⟩,
 ⟨none, .st (.tmp 12) 1 (.const (.bool true)), none⟩])
 (.seq (.blk [⟨some 13, .mv (.tmp 0), none⟩,
 ⟨some 14, .nilc (.tmp 13), none⟩,
 ⟨some 15, .fad (.tmp 14) 0, none⟩,
 ⟨none, .st (.tmp 15) 1 (.const (.slice none 0 0)), none⟩])
 (.seq (.blk [⟨some 2, .mv (.const (.bool false)), none⟩])
 (.ret))))
 (.skip)))
 (.seq (.blk [⟨some 16, .mv (.tmp 0), none⟩,
 ⟨some 17, .nilc (.tmp 16), none⟩,
 ⟨some 18, .fad (.tmp 17) 0, none⟩,
 ⟨some 19, .ld (.tmp 18), none⟩,
 ⟨some 20, .iad (.tmp 19) (.const (.int .i64 0)) 1, none⟩,
 ⟨some 21, .ld (.tmp 20), none⟩,
 ⟨some 22, .bin .neq (.tmp 21) (.const (.int .u8 0)), none⟩,
 ⟨some 3, .mv (.tmp 22), none⟩])
 (.seq (.blk [⟨some 23, .mv (.tmp 0), none⟩,
 ⟨some 24, .mv (.tmp 0), none⟩,
 ⟨some 25, .nilc (.tmp 24), none⟩,
 ⟨some 26, .fad (.tmp 25) 0, none⟩,
 ⟨some 27, .ld (.tmp 26), none⟩,
 ⟨some 28, .slice (.tmp 27) (some (.const (.int .i64 1))) none none 1, none⟩,
 ⟨some 29, .nilc (.tmp 23), none⟩,
 ⟨some 30, .fad (.tmp 29) 0, none⟩,
 ⟨none, .st (.tmp 30) 1 (.tmp 28), none⟩])
 (.seq (.blk [⟨some 31, .mv (.tmp 3), none⟩,
 ⟨some 2, .mv (.tmp 31), none⟩])
 (.ret))))),
 [.tmp 2], 32)
def ir_rInt8 (_F : Nat → Nat) : IC × List RV × Nat := (.seq (.blk [⟨some 2, .mv (.const (.int .i8 0)), none⟩])
 (.seq (.seq (.blk [⟨some 4, .mv (.tmp 0), none⟩,
 ⟨some 5, .nilc (.tmp 4), none⟩,
 ⟨some 6, .fad (.tmp 5) 0, none⟩,
 ⟨some 7, .ld (.tmp 6), none⟩,
 ⟨some 8, .len (.tmp 7), none⟩,
 ⟨some 9, .bin .lss (.tmp 8) (.const (.int .i64 1)), none⟩])
 (.cond (.tmp 9)
 (.seq (.blk [⟨some 10, .mv (.tmp 0), none⟩,
 ⟨some 11, .nilc (.tmp 10), none⟩,
 ⟨some 12, .fad (.tmp 11) 1, none⟩,
 ⟨none, .st (.tmp 12) 1 (.const (.bool true)), none⟩])
 (.seq (.blk [⟨some 13, .mv (.tmp 0), none⟩,
 ⟨some 14, .nilc (.tmp 13), none⟩,
 ⟨some 15, .fad (.tmp 14) 0, none⟩,
 ⟨none, .st (.tmp 15) 1 (.const (.slice none 0 0)), none⟩])
 (.seq (.blk [⟨some 2, .mv (.const (.int .i8 0)), none⟩])
 (.ret))))
 (.skip)))
 (.seq (.blk [⟨some 16, .mv (.tmp 0), none⟩,
 ⟨some 17, .nilc (.tmp 16), none⟩,
 ⟨some 18, .fad (.tmp 17) 0, none⟩,
 ⟨some 19, .ld (.tmp 18), none⟩,
 ⟨some 20, .iad (.tmp 19) (.const (.int .i64 0)) 1, none⟩,
 ⟨some 21, .ld (.tmp 20), none⟩,
 ⟨some 3, .mv (.tmp 21), none⟩])
 (.seq (.blk [⟨some 22, .mv (.tmp 0), none⟩,
 ⟨some 23, .mv (.tmp 0), none⟩,
 ⟨some 24, .nilc (.tmp 23), none⟩,
 ⟨some 25, .fad (.tmp 24) 0, none⟩,
 ⟨some 26, .ld (.tmp 25), none⟩,
 ⟨some 27, .slice (.tmp 26) (some (.const (.int .i64 1))) none none 1, none⟩,
 ⟨some 28, .nilc (.tmp 22), none⟩,
 ⟨some 29, .fad (.tmp 28) 0, none⟩,
 ⟨none, .st (.tmp 29) 1 (.tmp 27), none⟩])
 (.seq (.blk [⟨some 30, .mv (.tmp 3), none⟩,
 ⟨some 31, .conv .i8 (.tmp 30), none⟩,
 ⟨some 2, .mv (.tmp 31), none⟩])
 (.ret))))),
 [.tmp 2], 32)
def ir_rUint16 (F : Nat → Nat) : IC × List RV × Nat := (.seq (.blk [⟨some 2, .mv (.const (.int .u16 0)), none⟩])
 (.seq (.seq (.blk [⟨some 4, .mv (.tmp 0), none⟩,
 ⟨some 5, .nilc (.tmp 4), none⟩,
 ⟨some 6, .fad (.tmp 5) 0, none⟩,
 ⟨some 7, .ld (.tmp 6), none⟩,
 ⟨some 8, .len (.tmp 7), none⟩,
 ⟨some 9, .bin .lss (.tmp 8) (.const (.int .i64 2)), none⟩])
 (.cond (.tmp 9)
 (.seq (.blk [⟨some 10, .mv (.tmp 0), none⟩,
 ⟨some 11, .nilc (.tmp 10), none⟩,
 ⟨some 12, .fad (.tmp 11) 1, none⟩,
 ⟨none, .st (.tmp 12) 1 (.const (.bool true)), none⟩])
 (.seq (.blk [⟨some 13, .mv (.tmp 0), none⟩,
 ⟨some 14, .nilc (.tmp 13), none⟩,
 ⟨some 15, .fad (.tmp 14) 0, none⟩,
 ⟨none, .st (.tmp 15) 1 (.const (.slice none 0 0)), none⟩])
 (.seq (.blk [⟨some 2, .mv (.const (.int .u16 0)), none⟩])
 (.ret))))
 (.skip)))
 (.seq (.drw [⟨⟨some 16, .ldn (.global (F gBig)) 0, none⟩, false, []⟩,
 ⟨⟨some 17, .mv (.tmp 0), none⟩, false, []⟩,
 ⟨⟨some 18, .nilc (.tmp 17), none⟩, false, []⟩,
 ⟨⟨some 19, .fad (.tmp 18) 0, none⟩, false, []⟩,
 ⟨⟨some 20, .ld (.tmp 19), none⟩, false, []⟩,
 ⟨⟨some 21, .call (F beUint16) [.tmp 16, .tmp 20], none⟩, true, []⟩,
 ⟨⟨some 3, .mv (.tmp 21), none⟩, false, [5]⟩]
 [])
 (.seq (.blk [⟨some 22, .mv (.tmp 0), none⟩,
 ⟨some 23, .mv (.tmp 0), none⟩,
 ⟨some 24, .nilc (.tmp 23), none⟩,
 ⟨some 25, .fad (.tmp 24) 0, none⟩,
 ⟨some 26, .ld (.tmp 25), none⟩,
 ⟨some 27, .slice (.tmp 26) (some (.const (.int .i64 2))) none none 1, none⟩,
 ⟨some 28, .nilc (.tmp 22), none⟩,
 ⟨some 29, .fad (.tmp 28) 0, none⟩,
 ⟨none, .st (.tmp 29) 1 (.tmp 27), none⟩])
 (.seq (.blk [⟨some 30, .mv (.tmp 3), none⟩,
 ⟨some 2, .mv (.tmp 30), none⟩])
 (.ret))))),
 [.tmp 2], 31)
def ir_rInt64 (F : Nat → Nat) : IC × List RV × Nat := (.seq (.blk [⟨some 2, .mv (.const (.int .i64 0)), none⟩])
 (.seq (.blk [⟨some 3, .mv (.tmp 0), none⟩,
 ⟨some 4, .call (F rReadUint64) [.tmp 3], none⟩,
 ⟨some 5, .conv .i64 (.tmp 4), none⟩,
 ⟨some 2, .mv (.tmp 5), none⟩])
 (.ret)),
 [.tmp 2], 6)
def ir_rReadUint64 (F : Nat → Nat) : IC × List RV × Nat := (.seq (.blk [⟨some 2, .mv (.const (.int .u64 0)), none⟩])
 (.seq (.seq (.blk [⟨some 4, .mv (.tmp 0), none⟩,
 ⟨some 5, .nilc (.tmp 4), none⟩,
 ⟨some 6, .fad (.tmp 5) 0, none⟩,
 ⟨some 7, .ld (.tmp 6), none⟩,
 ⟨some 8, .len (.tmp 7), none⟩,
 ⟨some 9, .bin .lss (.tmp 8) (.const (.int .i64 8)), none⟩])
 (.cond (.tmp 9)
 (.seq (.blk [⟨some 10, .mv (.tmp 0), none⟩,
 ⟨some 11, .nilc (.tmp 10), none⟩,
 ⟨some 12, .fad (.tmp 11) 1, none⟩,
 ⟨none, .st (.tmp 12) 1 (.const (.bool true)), none⟩])
 (.seq (.blk [⟨some 13, .mv (.tmp 0), none⟩,
 ⟨some 14, .nilc (.tmp 13), none⟩,
 ⟨some 15, .fad (.tmp 14) 0, none⟩,
 ⟨none, .st (.tmp 15) 1 (.const (.slice none 0 0)), none⟩])
 (.seq (.blk [⟨some 2, .mv (.const (.int .u64 0)), none⟩])
 (.ret))))
 (.skip)))
 (.seq (.drw [⟨⟨some 16, .ldn (.global (F gBig)) 0, none⟩, false, []⟩,
 ⟨⟨some 17, .mv (.tmp 0), none⟩, false, []⟩,
 ⟨⟨some 18, .nilc (.tmp 17), none⟩, false, []⟩,
 ⟨⟨some 19, .fad (.tmp 18) 0, none⟩, false, []⟩,
 ⟨⟨some 20, .ld (.tmp 19), none⟩, false, []⟩,
 ⟨⟨some 21, .call (F beUint64) [.tmp 16, .tmp 20], none⟩, true, []⟩,
 ⟨⟨some 3, .mv (.tmp 21), none⟩, false, [5]⟩]
 [])
 (.seq (.blk [⟨some 22, .mv (.tmp 0), none⟩,
 ⟨some 23, .mv (.tmp 0), none⟩,
 ⟨some 24, .nilc (.tmp 23), none⟩,
 ⟨some 25, .fad (.tmp 24) 0, none⟩,
 ⟨some 26, .ld (.tmp 25), none⟩,
 ⟨some 27, .slice (.tmp 26) (some (.const (.int .i64 8))) none none 1, none⟩,
 ⟨some 28, .nilc (.tmp 22), none⟩,
 ⟨some 29, .fad (.tmp 28) 0, none⟩,
 ⟨none, .st (.tmp 29) 1 (.tmp 27), none⟩])
 (.seq (.blk [⟨some 30, .mv (.tmp 3), none⟩,
 ⟨some 2, .mv (.tmp 30), none⟩])
 (.ret))))),
 [.tmp 2], 31)
def ir_beUint64 (_F : Nat → Nat) : IC × List RV × Nat := (.seq (.blk [⟨some 2, .box (.tmp 0), none⟩,
 ⟨some 4, .mv (.const (.int .u64 0)), none⟩])
 (.seq (.blk [⟨some 5, .mv (.tmp 1), none⟩,
 ⟨some 6, .iad (.tmp 5) (.const (.int .i64 7)) 1, none⟩,
 ⟨some 7, .ld (.tmp 6), none⟩])
 (.seq (.drw [⟨⟨some 8, .mv (.tmp 1), none⟩, false, []⟩,
 ⟨⟨some 9, .iad (.tmp 8) (.const (.int .i64 7)) 1, none⟩, false, []⟩,
 ⟨⟨some 10, .ld (.tmp 9), none⟩, false, []⟩,
 ⟨⟨some 11, .conv .u64 (.tmp 10), none⟩, false, []⟩,
 ⟨⟨some 12, .mv (.tmp 1), none⟩, false, []⟩,
 ⟨⟨some 13, .iad (.tmp 12) (.const (.int .i64 6)) 1, none⟩, false, []⟩,
 ⟨⟨some 14, .ld (.tmp 13), none⟩, false, []⟩,
 ⟨⟨some 15, .conv .u64 (.tmp 14), none⟩, false, []⟩,
 ⟨⟨some 16, .bin .shl (.tmp 15) (.const (.int .u64 8)), none⟩, false, []⟩,
 ⟨⟨some 17, .bin .or (.tmp 11) (.tmp 16), none⟩, false, []⟩,
 ⟨⟨some 18, .mv (.tmp 1), none⟩, false, []⟩,
 ⟨⟨some 19, .iad (.tmp 18) (.const (.int .i64 5)) 1, none⟩, false, []⟩,
 ⟨⟨some 20, .ld (.tmp 19), none⟩, false, []⟩,
 ⟨⟨some 21, .conv .u64 (.tmp 20), none⟩, false, []⟩,
 ⟨⟨some 22, .bin .shl (.tmp 21) (.const (.int .u64 16)), none⟩, false, []⟩,
 ⟨⟨some 23, .bin .or (.tmp 17) (.tmp 22), none⟩, false, []⟩,
 ⟨⟨some 24, .mv (.tmp 1), none⟩, false, []⟩,
 ⟨⟨some 25, .iad (.tmp 24) (.const (.int .i64 4)) 1, none⟩, false, []⟩,
 ⟨⟨some 26, .ld (.tmp 25), none⟩, false, []⟩,
 ⟨⟨some 27, .conv .u64 (.tmp 26), none⟩, false, []⟩,
 ⟨⟨some 28, .bin .shl (.tmp 27) (.const (.int .u64 24)), none⟩, false, []⟩,
 ⟨⟨some 29, .bin .or (.tmp 23) (.tmp 28), none⟩, false, []⟩,
 ⟨⟨some 30, .mv (.tmp 1), none⟩, false, []⟩,
 ⟨⟨some 31, .iad (.tmp 30) (.const (.int .i64 3)) 1, none⟩, false, []⟩,
 ⟨⟨some 32, .ld (.tmp 31), none⟩, false, []⟩,
 ⟨⟨some 33, .conv .u64 (.tmp 32), none⟩, false, []⟩,
 ⟨⟨some 34, .bin .shl (.tmp 33) (.const (.int .u64 32)), none⟩, false, []⟩,
 ⟨⟨some 35, .bin .or (.tmp 29) (.tmp 34), none⟩, false, []⟩,
 ⟨⟨some 36, .mv (.tmp 1), none⟩, false, []⟩,
 ⟨⟨some 37, .iad (.tmp 36) (.const (.int .i64 2)) 1, none⟩, false, []⟩,
 ⟨⟨some 38, .ld (.tmp 37), none⟩, false, []⟩,
 ⟨⟨some 39, .conv .u64 (.tmp 38), none⟩, false, []⟩,
 ⟨⟨some 40, .bin .shl (.tmp 39) (.const (.int .u64 40)), none⟩, false, []⟩,
 ⟨⟨some 41, .bin .or (.tmp 35) (.tmp 40), none⟩, false, []⟩,
 ⟨⟨some 42, .mv (.tmp 1), none⟩, false, []⟩,
 ⟨⟨some 43, .iad (.tmp 42) (.const (.int .i64 1)) 1, none⟩, false, []⟩,
 ⟨⟨some 44, .ld (.tmp 43), none⟩, false, []⟩,
 ⟨⟨some 45, .conv .u64 (.tmp 44), none⟩, false, []⟩,
 ⟨⟨some 46, .bin .shl (.tmp 45) (.const (.int .u64 48)), none⟩, false, []⟩,
 ⟨⟨some 47, .bin .or (.tmp 41) (.tmp 46), none⟩, false, []⟩,
 ⟨⟨some 48, .mv (.tmp 1), none⟩, false, []⟩,
 ⟨⟨some 49, .iad (.tmp 48) (.const (.int .i64 0)) 1, none⟩, false, []⟩,
 ⟨⟨some 50, .ld (.tmp 49), none⟩, false, []⟩,
 ⟨⟨some 51, .conv .u64 (.tmp 50), none⟩, false, []⟩,
 ⟨⟨some 52, .bin .shl (.tmp 51) (.const (.int .u64 56)), none⟩, false, []⟩,
 ⟨⟨some 53, .bin .or (.tmp 47) (.tmp 52), none⟩, false, []⟩,
 ⟨⟨some 4, .mv (.tmp 53), none⟩, false, []⟩]
 [])
 (.ret))),
 [.tmp 4], 54)
def ir_rUuid (F : Nat → Nat) : IC × List RV × Nat := (.seq (.blk [⟨some 2, .alloc [.int .u8 0, .int .u8 0, .int .u8 0, .int .u8 0, .int .u8 0, .int .u8 0, .int .u8 0, .int .u8 0, .int .u8 0, .int .u8 0, .int .u8 0, .int .u8 0, .int .u8 0, .int .u8 0, .int .u8 0, .int .u8 0], none⟩])
 (.seq (.blk [⟨some 3, .alloc [.int .u8 0, .int .u8 0, .int .u8 0, .int .u8 0, .int .u8 0, .int .u8 0, .int .u8 0, .int .u8 0, .int .u8 0, .int .u8 0, .int .u8 0, .int .u8 0, .int .u8 0, .int .u8 0, .int .u8 0, .int .u8 0], none⟩])
 (.seq (.drw [⟨⟨some 4, .slicea (.tmp 3) 16, none⟩, false, []⟩,
 ⟨⟨some 5, .mv (.tmp 0), none⟩, false, []⟩,
 ⟨⟨some 6, .call (F rSpan) [.tmp 5, .const (.int .i64 16)], none⟩, true, []⟩]
 [⟨some 7, .copy (.tmp 4) (.tmp 6) 1, none⟩])
 (.seq (.blk [⟨some 8, .ldn (.tmp 3) 16, none⟩,
 ⟨none, .st (.tmp 2) 16 (.tmp 8), none⟩])
 (.ret)))),
 [.cells 2 16], 9)
def ir_rUvarint (F : Nat → Nat) : IC × List RV × Nat := (.seq (.blk [⟨some 2, .mv (.const (.int .u32 0)), none⟩])
 (.seq (.blk [⟨some 6, .mv (.tmp 0), none⟩,
 ⟨some 7, .nilc (.tmp 6), none⟩,
 ⟨some 8, .fad (.tmp 7) 0, none⟩,
 ⟨some 9, .ld (.tmp 8), none⟩,
 ⟨some 10, .call (F kUvarint) [.tmp 9], none⟩,
 ⟨some 5, .mv (.tmp 10), none⟩,
 ⟨some 11, .ext (.tmp 5) 0, none⟩,
 ⟨some 12, .ext (.tmp 5) 1, none⟩,
 ⟨some 3, .mv (.tmp 11), none⟩,
 ⟨some 4, .mv (.tmp 12), none⟩])
 (.seq (.seq (.blk [⟨some 13, .mv (.tmp 4), none⟩,
 ⟨some 14, .bin .leq (.tmp 13) (.const (.int .i64 0)), none⟩])
 (.cond (.tmp 14)
 (.seq (.blk [⟨some 15, .mv (.tmp 0), none⟩,
 ⟨some 16, .nilc (.tmp 15), none⟩,
 ⟨some 17, .fad (.tmp 16) 1, none⟩,
 ⟨none, .st (.tmp 17) 1 (.const (.bool true)), none⟩])
 (.seq (.blk [⟨some 18, .mv (.tmp 0), none⟩,
 ⟨some 19, .nilc (.tmp 18), none⟩,
 ⟨some 20, .fad (.tmp 19) 0, none⟩,
 ⟨none, .st (.tmp 20) 1 (.const (.slice none 0 0)), none⟩])
 (.seq (.blk [⟨some 2, .mv (.const (.int .u32 0)), none⟩])
 (.ret))))
 (.skip)))
 (.seq (.blk [⟨some 21, .mv (.tmp 0), none⟩,
 ⟨some 22, .mv (.tmp 0), none⟩,
 ⟨some 23, .nilc (.tmp 22), none⟩,
 ⟨some 24, .fad (.tmp 23) 0, none⟩,
 ⟨some 25, .ld (.tmp 24), none⟩,
 ⟨some 26, .mv (.tmp 4), none⟩,
 ⟨some 27, .slice (.tmp 25) (some (.tmp 26)) none none 1, none⟩,
 ⟨some 28, .nilc (.tmp 21), none⟩,
 ⟨some 29, .fad (.tmp 28) 0, none⟩,
 ⟨none, .st (.tmp 29) 1 (.tmp 27), none⟩])
 (.seq (.blk [⟨some 30, .mv (.tmp 3), none⟩,
 ⟨some 2, .mv (.tmp 30), none⟩])
 (.ret))))),
 [.tmp 2], 31)
def ir_kUvarint (_F : Nat → Nat) : IC × List RV × Nat := (.seq (.blk [⟨some 2, .mv (.const (.int .u32 0)), none⟩,
 ⟨some 3, .mv (.const (.int .i64 0)), none⟩])
 (.scopeTo (.seq (.blk [⟨some 4, .mv (.const (.int .u32 0)), none⟩])
 (.seq (.blk [⟨some 5, .mv (.const (.int .i64 0)), none⟩])
 (.seq (.seq (.blk [⟨some 6, .mv (.tmp 0), none⟩,
 ⟨some 7, .len (.tmp 6), none⟩,
 ⟨some 8, .bin .lss (.tmp 7) (.const (.int .i64 1)), none⟩])
 (.cond (.tmp 8)
 (.goto 0)
 (.skip)))
 (.seq (.blk [⟨some 9, .mv (.tmp 0), none⟩,
 ⟨some 10, .iad (.tmp 9) (.const (.int .i64 0)) 1, none⟩,
 ⟨some 11, .ld (.tmp 10), none⟩,
 ⟨some 12, .bin .and (.tmp 11) (.const (.int .u8 127)), none⟩,
 ⟨some 13, .conv .u32 (.tmp 12), none⟩,
 ⟨some 4, .mv (.tmp 13), none⟩])
 (.seq (.seq (.blk [⟨some 14, .mv (.tmp 0), none⟩,
 ⟨some 15, .iad (.tmp 14) (.const (.int .i64 0)) 1, none⟩,
 ⟨some 16, .ld (.tmp 15), none⟩,
 ⟨some 17, .bin .and (.tmp 16) (.const (.int .u8 128)), none⟩,
 ⟨some 18, .bin .eql (.tmp 17) (.const (.int .u8 0)), none⟩])
 (.cond (.tmp 18)
 (.seq (.blk [⟨some 19, .mv (.tmp 4), none⟩,
 ⟨some 2, .mv (.tmp 19), none⟩,
 ⟨some 3, .mv (.const (.int .i64 1)), none⟩])
 (.ret))
 (.seq (.blk [⟨some 20, .mv (.tmp 0), none⟩,
 ⟨some 21, .len (.tmp 20), none⟩,
 ⟨some 22, .bin .lss (.tmp 21) (.const (.int .i64 2)), none⟩])
 (.cond (.tmp 22)
 (.goto 0)
 (.skip)))))
 (.seq (.blk [⟨some 23, .mv (.tmp 4), none⟩,
 ⟨some 24, .mv (.tmp 0), none⟩,
 ⟨some 25, .iad (.tmp 24) (.const (.int .i64 1)) 1, none⟩,
 ⟨some 26, .ld (.tmp 25), none⟩,
 ⟨some 27, .bin .and (.tmp 26) (.const (.int .u8 127)), none⟩,
 ⟨some 28, .conv .u32 (.tmp 27), none⟩,
 ⟨some 29, .bin .shl (.tmp 28) (.const (.int .u64 7)), none⟩,
 ⟨some 30, .bin .or (.tmp 23) (.tmp 29), none⟩,
 ⟨some 4, .mv (.tmp 30), none⟩])
 (.seq (.seq (.blk [⟨some 31, .mv (.tmp 0), none⟩,
 ⟨some 32, .iad (.tmp 31) (.const (.int .i64 1)) 1, none⟩,
 ⟨some 33, .ld (.tmp 32), none⟩,
 ⟨some 34, .bin .and (.tmp 33) (.const (.int .u8 128)), none⟩,
 ⟨some 35, .bin .eql (.tmp 34) (.const (.int .u8 0)), none⟩])
 (.cond (.tmp 35)
 (.seq (.blk [⟨some 36, .mv (.tmp 4), none⟩,
 ⟨some 2, .mv (.tmp 36), none⟩,
 ⟨some 3, .mv (.const (.int .i64 2)), none⟩])
 (.ret))
 (.seq (.blk [⟨some 37, .mv (.tmp 0), none⟩,
 ⟨some 38, .len (.tmp 37), none⟩,
 ⟨some 39, .bin .lss (.tmp 38) (.const (.int .i64 3)), none⟩])
 (.cond (.tmp 39)
 (.goto 0)
 (.skip)))))
 (.seq (.blk [⟨some 40, .mv (.tmp 4), none⟩,
 ⟨some 41, .mv (.tmp 0), none⟩,
 ⟨some 42, .iad (.tmp 41) (.const (.int .i64 2)) 1, none⟩,
 ⟨some 43, .ld (.tmp 42), none⟩,
 ⟨some 44, .bin .and (.tmp 43) (.const (.int .u8 127)), none⟩,
 ⟨some 45, .conv .u32 (.tmp 44), none⟩,
 ⟨some 46, .bin .shl (.tmp 45) (.const (.int .u64 14)), none⟩,
 ⟨some 47, .bin .or (.tmp 40) (.tmp 46), none⟩,
 ⟨some 4, .mv (.tmp 47), none⟩])
 (.seq (.seq (.blk [⟨some 48, .mv (.tmp 0), none⟩,
 ⟨some 49, .iad (.tmp 48) (.const (.int .i64 2)) 1, none⟩,
 ⟨some 50, .ld (.tmp 49), none⟩,
 ⟨some 51, .bin .and (.tmp 50) (.const (.int .u8 128)), none⟩,
 ⟨some 52, .bin .eql (.tmp 51) (.const (.int .u8 0)), none⟩])
 (.cond (.tmp 52)
 (.seq (.blk [⟨some 53, .mv (.tmp 4), none⟩,
 ⟨some 2, .mv (.tmp 53), none⟩,
 ⟨some 3, .mv (.const (.int .i64 3)), none⟩])
 (.ret))
 (.seq (.blk [⟨some 54, .mv (.tmp 0), none⟩,
 ⟨some 55, .len (.tmp 54), none⟩,
 ⟨some 56, .bin .lss (.tmp 55) (.const (.int .i64 4)), none⟩])
 (.cond (.tmp 56)
 (.goto 0)
 (.skip)))))
 (.seq (.blk [⟨some 57, .mv (.tmp 4), none⟩,
 ⟨some 58, .mv (.tmp 0), none⟩,
 ⟨some 59, .iad (.tmp 58) (.const (.int .i64 3)) 1, none⟩,
 ⟨some 60, .ld (.tmp 59), none⟩,
 ⟨some 61, .bin .and (.tmp 60) (.const (.int .u8 127)), none⟩,
 ⟨some 62, .conv .u32 (.tmp 61), none⟩,
 ⟨some 63, .bin .shl (.tmp 62) (.const (.int .u64 21)), none⟩,
 ⟨some 64, .bin .or (.tmp 57) (.tmp 63), none⟩,
 ⟨some 4, .mv (.tmp 64), none⟩])
 (.seq (.seq (.blk [⟨some 65, .mv (.tmp 0), none⟩,
 ⟨some 66, .iad (.tmp 65) (.const (.int .i64 3)) 1, none⟩,
 ⟨some 67, .ld (.tmp 66), none⟩,
 ⟨some 68, .bin .and (.tmp 67) (.const (.int .u8 128)), none⟩,
 ⟨some 69, .bin .eql (.tmp 68) (.const (.int .u8 0)), none⟩])
 (.cond (.tmp 69)
 (.seq (.blk [⟨some 70, .mv (.tmp 4), none⟩,
 ⟨some 2, .mv (.tmp 70), none⟩,
 ⟨some 3, .mv (.const (.int .i64 4)), none⟩])
 (.ret))
 (.seq (.blk [⟨some 71, .mv (.tmp 0), none⟩,
 ⟨some 72, .len (.tmp 71), none⟩,
 ⟨some 73, .bin .lss (.tmp 72) (.const (.int .i64 5)), none⟩])
 (.cond (.tmp 73)
 (.goto 0)
 (.skip)))))
 (.seq (.blk [⟨some 74, .mv (.tmp 4), none⟩,
 ⟨some 75, .mv (.tmp 0), none⟩,
 ⟨some 76, .iad (.tmp 75) (.const (.int .i64 4)) 1, none⟩,
 ⟨some 77, .ld (.tmp 76), none⟩,
 ⟨some 78, .conv .u32 (.tmp 77), none⟩,
 ⟨some 79, .bin .shl (.tmp 78) (.const (.int .u64 28)), none⟩,
 ⟨some 80, .bin .or (.tmp 74) (.tmp 79), none⟩,
 ⟨some 4, .mv (.tmp 80), none⟩])
 (.seq (.seq (.blk [⟨some 81, .mv (.tmp 0), none⟩,
 ⟨some 82, .iad (.tmp 81) (.const (.int .i64 4)) 1, none⟩,
 ⟨some 83, .ld (.tmp 82), none⟩,
 ⟨some 84, .bin .leq (.tmp 83) (.const (.int .u8 15)), none⟩])
 (.cond (.tmp 84)
 (.seq (.blk [⟨some 85, .mv (.tmp 4), none⟩,
 ⟨some 2, .mv (.tmp 85), none⟩,
 ⟨some 3, .mv (.const (.int .i64 5)), none⟩])
 (.ret))
 (.skip)))
 (.seq (.blk [⟨some 5, .mv (.const (.int .i64 (-5))), none⟩])
 (.seq (.skip)
 (.seq (.blk [⟨some 86, .mv (.tmp 5), none⟩,
 ⟨some 2, .mv (.const (.int .u32 0)), none⟩,
 ⟨some 3, .mv (.tmp 86), none⟩])
 (.ret))))))))))))))))) 0
 (.seq (.skip)
 (.seq (.blk [⟨some 86, .mv (.tmp 5), none⟩,
 ⟨some 2, .mv (.const (.int .u32 0)), none⟩,
 ⟨some 3, .mv (.tmp 86), none⟩])
 (.ret)))),
 [.tmp 2, .tmp 3], 87)
def ir_rCompactString (F : Nat → Nat) : IC × List RV × Nat := (.seq (.blk [⟨some 2, .mv (.const (.string .empty)), none⟩])
 (.seq (.blk [⟨some 4, .mv (.tmp 0), none⟩,
 ⟨some 5, .call (F rUvarint) [.tmp 4], none⟩,
 ⟨some 6, .conv .i64 (.tmp 5), none⟩,
 ⟨some 7, .bin .sub (.tmp 6) (.const (.int .i64 1)), none⟩,
 ⟨some 3, .mv (.tmp 7), none⟩])
 (.seq (.blk [⟨some 8, .mv (.tmp 0), none⟩,
 ⟨some 9, .mv (.tmp 3), none⟩,
 ⟨some 10, .call (F rSpan) [.tmp 8, .tmp 9], none⟩,
 ⟨some 11, .b2s (.tmp 10), none⟩,
 ⟨some 2, .mv (.tmp 11), none⟩])
 (.ret))),
 [.tmp 2], 12)
def ir_rUnsafeCompactString (F : Nat → Nat) : IC × List RV × Nat := (.seq (.blk [⟨some 2, .mv (.const (.string .empty)), none⟩])
 (.seq (.blk [⟨some 4, .mv (.tmp 0), none⟩,
 ⟨some 5, .call (F rUvarint) [.tmp 4], none⟩,
 ⟨some 6, .conv .i64 (.tmp 5), none⟩,
 ⟨some 7, .bin .sub (.tmp 6) (.const (.int .i64 1)), none⟩,
 ⟨some 3, .mv (.tmp 7), none⟩])
 (.seq (.blk [⟨some 8, .mv (.tmp 0), none⟩,
 ⟨some 9, .mv (.tmp 3), none⟩,
 ⟨some 10, .call (F rSpan) [.tmp 8, .tmp 9], none⟩,
 ⟨some 11, .call (F kUnsafeString) [.tmp 10], none⟩,
 ⟨some 2, .mv (.tmp 11), none⟩])
 (.ret))),
 [.tmp 2], 12)
def ir_rCompactNullableString (F : Nat → Nat) : IC × List RV × Nat := (.seq (.blk [⟨some 2, .mv (.const (.pointer none)), none⟩])
 (.seq (.blk [⟨some 5, .mv (.tmp 0), none⟩,
 ⟨some 6, .call (F rUvarint) [.tmp 5], none⟩,
 ⟨some 7, .conv .i64 (.tmp 6), none⟩,
 ⟨some 8, .bin .sub (.tmp 7) (.const (.int .i64 1)), none⟩,
 ⟨some 3, .mv (.tmp 8), none⟩])
 (.seq (.seq (.blk [⟨some 9, .mv (.tmp 3), none⟩,
 ⟨some 10, .bin .lss (.tmp 9) (.const (.int .i64 0)), none⟩])
 (.cond (.tmp 10)
 (.seq (.blk [⟨some 2, .mv (.const (.pointer none)), none⟩])
 (.ret))
 (.skip)))
 (.seq (.blk [⟨some 11, .mv (.tmp 0), none⟩,
 ⟨some 12, .mv (.tmp 3), none⟩,
 ⟨some 13, .call (F rSpan) [.tmp 11, .tmp 12], none⟩,
 ⟨some 14, .b2s (.tmp 13), none⟩,
 ⟨some 4, .alloc [.string .empty], none⟩,
 ⟨none, .st (.tmp 4) 1 (.tmp 14), none⟩])
 (.seq (.blk [⟨some 2, .mv (.tmp 4), none⟩])
 (.ret))))),
 [.tmp 2], 15)
def ir_rUnsafeCompactNullableString (F : Nat → Nat) : IC × List RV × Nat := (.seq (.blk [⟨some 2, .mv (.const (.pointer none)), none⟩])
 (.seq (.blk [⟨some 5, .mv (.tmp 0), none⟩,
 ⟨some 6, .call (F rUvarint) [.tmp 5], none⟩,
 ⟨some 7, .conv .i64 (.tmp 6), none⟩,
 ⟨some 8, .bin .sub (.tmp 7) (.const (.int .i64 1)), none⟩,
 ⟨some 3, .mv (.tmp 8), none⟩])
 (.seq (.seq (.blk [⟨some 9, .mv (.tmp 3), none⟩,
 ⟨some 10, .bin .lss (.tmp 9) (.const (.int .i64 0)), none⟩])
 (.cond (.tmp 10)
 (.seq (.blk [⟨some 2, .mv (.const (.pointer none)), none⟩])
 (.ret))
 (.skip)))
 (.seq (.blk [⟨some 11, .mv (.tmp 0), none⟩,
 ⟨some 12, .mv (.tmp 3), none⟩,
 ⟨some 13, .call (F rSpan) [.tmp 11, .tmp 12], none⟩,
 ⟨some 14, .call (F kUnsafeString) [.tmp 13], none⟩,
 ⟨some 4, .alloc [.string .empty], none⟩,
 ⟨none, .st (.tmp 4) 1 (.tmp 14), none⟩])
 (.seq (.blk [⟨some 2, .mv (.tmp 4), none⟩])
 (.ret))))),
 [.tmp 2], 15)
def ir_rBytes (F : Nat → Nat) : IC × List RV × Nat := (.seq (.blk [⟨some 2, .mv (.const (.slice none 0 0)), none⟩])
 (.seq (.blk [⟨some 4, .mv (.tmp 0), none⟩,
 ⟨some 5, .call (F rInt32) [.tmp 4], none⟩,
 ⟨some 3, .mv (.tmp 5), none⟩])
 (.seq (.seq (.blk [⟨some 6, .mv (.tmp 3), none⟩,
 ⟨some 7, .bin .eql (.tmp 6) (.const (.int .i32 (-1))), none⟩])
 (.cond (.tmp 7)
 (.seq (.blk [⟨some 8, .bslice 0 [.int .u8 0] [], none⟩,
 ⟨some 2, .mv (.tmp 8), none⟩])
 (.ret))
 (.skip)))
 (.seq (.blk [⟨some 9, .mv (.tmp 0), none⟩,
 ⟨some 10, .mv (.tmp 3), none⟩,
 ⟨some 11, .conv .i64 (.tmp 10), none⟩,
 ⟨some 12, .call (F rSpan) [.tmp 9, .tmp 11], none⟩,
 ⟨some 2, .mv (.tmp 12), none⟩])
 (.ret)))),
 [.tmp 2], 13)
def ir_rCompactBytes (F : Nat → Nat) : IC × List RV × Nat := (.seq (.blk [⟨some 2, .mv (.const (.slice none 0 0)), none⟩])
 (.seq (.blk [⟨some 4, .mv (.tmp 0), none⟩,
 ⟨some 5, .call (F rUvarint) [.tmp 4], none⟩,
 ⟨some 6, .conv .i64 (.tmp 5), none⟩,
 ⟨some 7, .bin .sub (.tmp 6) (.const (.int .i64 1)), none⟩,
 ⟨some 3, .mv (.tmp 7), none⟩])
 (.seq (.seq (.blk [⟨some 8, .mv (.tmp 3), none⟩,
 ⟨some 9, .bin .eql (.tmp 8) (.const (.int .i64 (-1))), none⟩])
 (.cond (.tmp 9)
 (.seq (.blk [⟨some 10, .bslice 0 [.int .u8 0] [], none⟩,
 ⟨some 2, .mv (.tmp 10), none⟩])
 (.ret))
 (.skip)))
 (.seq (.blk [⟨some 11, .mv (.tmp 0), none⟩,
 ⟨some 12, .mv (.tmp 3), none⟩,
 ⟨some 13, .call (F rSpan) [.tmp 11, .tmp 12], none⟩,
 ⟨some 2, .mv (.tmp 13), none⟩])
 (.ret)))),
 [.tmp 2], 14)
def ir_rCompactNullableBytes (F : Nat → Nat) : IC × List RV × Nat := (.seq (.blk [⟨some 2, .mv (.const (.slice none 0 0)), none⟩])
 (.seq (.blk [⟨some 5, .mv (.tmp 0), none⟩,
 ⟨some 6, .call (F rUvarint) [.tmp 5], none⟩,
 ⟨some 7, .conv .i64 (.tmp 6), none⟩,
 ⟨some 8, .bin .sub (.tmp 7) (.const (.int .i64 1)), none⟩,
 ⟨some 3, .mv (.tmp 8), none⟩])
 (.seq (.seq (.blk [⟨some 9, .mv (.tmp 3), none⟩,
 ⟨some 10, .bin .lss (.tmp 9) (.const (.int .i64 0)), none⟩])
 (.cond (.tmp 10)
 (.seq (.blk [⟨some 2, .mv (.const (.slice none 0 0)), none⟩])
 (.ret))
 (.skip)))
 (.seq (.blk [⟨some 11, .mv (.tmp 0), none⟩,
 ⟨some 12, .mv (.tmp 3), none⟩,
 ⟨some 13, .call (F rSpan) [.tmp 11, .tmp 12], none⟩,
 ⟨some 4, .mv (.tmp 13), none⟩])
 (.seq (.blk [⟨some 14, .mv (.tmp 4), none⟩,
 ⟨some 2, .mv (.tmp 14), none⟩])
 (.ret))))),
 [.tmp 2], 15)
def ir_rCompactArrayLen (F : Nat → Nat) : IC × List RV × Nat := (.seq (.blk [⟨some 2, .mv (.const (.int .i32 0)), none⟩])
 (.seq (.blk [⟨some 4, .mv (.tmp 0), none⟩,
 ⟨some 5, .call (F rUvarint) [.tmp 4], none⟩,
 ⟨some 6, .conv .i32 (.tmp 5), none⟩,
 ⟨some 7, .bin .sub (.tmp 6) (.const (.int .i32 1)), none⟩,
 ⟨some 3, .mv (.tmp 7), none⟩])
 (.seq (.seq (.blk [⟨some 8, .mv (.tmp 0), none⟩,
 ⟨some 9, .nilc (.tmp 8), none⟩,
 ⟨some 10, .fad (.tmp 9) 0, none⟩,
 ⟨some 11, .ld (.tmp 10), none⟩,
 ⟨some 12, .len (.tmp 11), none⟩,
 ⟨some 13, .mv (.tmp 3), none⟩,
 ⟨some 14, .conv .i64 (.tmp 13), none⟩,
 ⟨some 15, .bin .lss (.tmp 12) (.tmp 14), none⟩])
 (.cond (.tmp 15)
 (.seq (.blk [⟨some 16, .mv (.tmp 0), none⟩,
 ⟨some 17, .nilc (.tmp 16), none⟩,
 ⟨some 18, .fad (.tmp 17) 1, none⟩,
 ⟨none, .st (.tmp 18) 1 (.const (.bool true)), none⟩])
 (.seq (.blk [⟨some 19, .mv (.tmp 0), none⟩,
 ⟨some 20, .nilc (.tmp 19), none⟩,
 ⟨some 21, .fad (.tmp 20) 0, none⟩,
 ⟨none, .st (.tmp 21) 1 (.const (.slice none 0 0)), none⟩])
 (.seq (.blk [⟨some 2, .mv (.const (.int .i32 0)), none⟩])
 (.ret))))
 (.skip)))
 (.seq (.blk [⟨some 22, .mv (.tmp 3), none⟩,
 ⟨some 2, .mv (.tmp 22), none⟩])
 (.ret)))),
 [.tmp 2], 23)
end Go.Msk

namespace Go.Msk
open Go.RowKit
set_option maxRecDepth 100000
def uvR : Nat → List UInt8 → Option (Nat × Nat)
  | 0, _ => none
  | _ + 1, [] => none
  | n + 1, b :: r =>
    if b.toNat < 128 then (if n = 0 ∧ 15 < b.toNat then none else some (b.toNat, 1))
    else match uvR n r with
      | some (v, k) => some (b.toNat % 128 + 128 * v, k + 1)
      | none => none
theorem and127 (b : UInt8) : intBin .and .u8 (b.toNat : Int) 127 = some (.int .u8 ((b.toNat % 128 : Nat) : Int)) := by
  have key : ∀ n, n < 256 → intBin .and .u8 (n : Nat) 127 = some (.int .u8 ((n % 128 : Nat) : Int)) := by
    intro n hn
    simp only [intBin]
    congr 2
    have h : ∀ n : Fin 256, IntKind.u8.wrap ((BitVec.ofInt IntKind.u8.bits (n.val : Int) &&& BitVec.ofInt IntKind.u8.bits 127).toNat : Int) = ((n.val % 128 : Nat) : Int) := by decide +kernel
    exact h ⟨n, hn⟩
  exact key _ (byte_lt b)
theorem and128 (b : UInt8) : intBin .and .u8 (b.toNat : Int) 128 = some (.int .u8 (if b.toNat < 128 then 0 else 128)) := by
  have key : ∀ n, n < 256 → intBin .and .u8 (n : Nat) 128 = some (.int .u8 (if n < 128 then 0 else 128)) := by
    intro n hn
    simp only [intBin]
    congr 2
    have h : ∀ n : Fin 256, IntKind.u8.wrap ((BitVec.ofInt IntKind.u8.bits (n.val : Int) &&& BitVec.ofInt IntKind.u8.bits 128).toNat : Int) = (if n.val < 128 then 0 else 128) := by decide +kernel
    exact h ⟨n, hn⟩
  exact key _ (byte_lt b)
theorem u32_nat {n : Nat} (h : n < 4294967296) : IntKind.u32.wrap (n : Int) = n := by
  simp [IntKind.wrap, IntKind.bits, IntKind.signed]; omega
theorem shl_u32 {x s : Nat} (hs : s ≤ 32) (hx : x * 2 ^ s < 4294967296) : intBin .shl .u32 (x : Int) (s : Int) = some (.int .u32 ((x * 2 ^ s : Nat) : Int)) :=
  bin_shl (k := .u32) rfl (by simpa [IntKind.bits] using hs) (by simpa [IntKind.bits] using hx)
theorem or_u32 {x y s : Nat} (hx : x < 2 ^ s) (hs : s ≤ 32) (hy : y * 2 ^ s < 4294967296) : intBin .or .u32 (x : Int) ((y * 2 ^ s : Nat) : Int) = some (.int .u32 ((x + y * 2 ^ s : Nat) : Int)) := by
  have h2 : (2 : Nat) ^ s ≤ 2 ^ 32 := Nat.pow_le_pow_right (by omega) hs
  have e := bin_or (k := .u32) rfl (x := x) (y := y * 2 ^ s) (by simp only [IntKind.bits]; omega) (by simpa [IntKind.bits] using hy)
  rw [e, Nat.or_comm, Nat.or_comm, or_add y x s hx, Nat.add_comm]
section
variable {P : Program}
structure UvS (a : Addr) (len cap : Nat) (x : Nat) (σ : Sl) : Prop where
  s0 : σ 0 = .slice (some a) len cap
  s4 : σ 4 = .int .u32 x
  s5 : σ 5 = .int .i64 0
theorem uv_level {t i sh x len cap : Nat} {a : Addr} {l : List UInt8} {b : UInt8} {ii i2 ss : Int} {σ : Sl} {w : World} {rest : IC} {Q : Exit → Sl → World → Prop} (ht : 6 ≤ t) (hb : IsBytes w (some a) len cap l) (hi : l[i]? = some b) (hx : x < 2 ^ sh) (hsh : sh ≤ 21)
    (eii : ii = i) (ei2 : i2 = i + 2) (ess : ss = sh) (hS : UvS a len cap x σ)
    (hret : b.toNat < 128 → ∀ σ', σ' 2 = .int .u32 ((x + b.toNat * 2 ^ sh : Nat) : Int) → σ' 3 = .int .i64 (i + 1) → Q .ret σ' w)
    (hgo : ¬ b.toNat < 128 → len < i + 2 → ∀ σ', σ' 5 = .int .i64 0 → Q (.goto 0) σ' w)
    (hnext : ¬ b.toNat < 128 → ¬ len < i + 2 → ∀ σ', UvS a len cap (x + (b.toNat % 128) * 2 ^ sh) σ' → wpC P rest Q σ' w) :
    wpC P (.seq (.blk [⟨some t, .mv (.tmp 4), none⟩, ⟨some (t + 1), .mv (.tmp 0), none⟩, ⟨some (t + 2), .iad (.tmp (t + 1)) (.const (.int .i64 ii)) 1, none⟩, ⟨some (t + 3), .ld (.tmp (t + 2)), none⟩,
        ⟨some (t + 4), .bin .and (.tmp (t + 3)) (.const (.int .u8 127)), none⟩, ⟨some (t + 5), .conv .u32 (.tmp (t + 4)), none⟩, ⟨some (t + 6), .bin .shl (.tmp (t + 5)) (.const (.int .u64 ss)), none⟩, ⟨some (t + 7), .bin .or (.tmp t) (.tmp (t + 6)), none⟩, ⟨some 4, .mv (.tmp (t + 7)), none⟩])
      (.seq (.seq (.blk [⟨some (t + 8), .mv (.tmp 0), none⟩, ⟨some (t + 9), .iad (.tmp (t + 8)) (.const (.int .i64 ii)) 1, none⟩, ⟨some (t + 10), .ld (.tmp (t + 9)), none⟩, ⟨some (t + 11), .bin .and (.tmp (t + 10)) (.const (.int .u8 128)), none⟩, ⟨some (t + 12), .bin .eql (.tmp (t + 11)) (.const (.int .u8 0)), none⟩])
        (.cond (.tmp (t + 12)) (.seq (.blk [⟨some (t + 13), .mv (.tmp 4), none⟩, ⟨some 2, .mv (.tmp (t + 13)), none⟩, ⟨some 3, .mv (.const (.int .i64 (i + 1))), none⟩]) .ret)
          (.seq (.blk [⟨some (t + 14), .mv (.tmp 0), none⟩, ⟨some (t + 15), .len (.tmp (t + 14)), none⟩, ⟨some (t + 16), .bin .lss (.tmp (t + 15)) (.const (.int .i64 i2)), none⟩]) (.cond (.tmp (t + 16)) (.goto 0) .skip)))) rest)) Q σ w := by
  subst eii ei2 ess
  have hlt := hb.lt hi
  have hg := hb.get hi
  have hbl := byte_lt b
  have hp : (2 : Nat) ^ sh ≤ 2 ^ 21 := Nat.pow_le_pow_right (by omega) hsh
  have hm1 : (b.toNat % 128) * 2 ^ sh ≤ 127 * 2 ^ 21 := Nat.mul_le_mul (by omega) hp
  have h1 : (b.toNat % 128) * 2 ^ sh < 4294967296 := by omega
  have h2 : x + (b.toNat % 128) * 2 ^ sh < 4294967296 := by omega
  have e1 : IntKind.u32.wrap ((b.toNat % 128 : Nat) : Int) = ((b.toNat % 128 : Nat) : Int) := u32_nat (by omega)
  rw [wpC_seq, wpC_blk]
  refine wpR_step (v := .int .u32 x) (congrArg some hS.s4) ?_
  refine wpR_step (v := .slice (some a) len cap) (by simp only [RK.val?, ev, updo, upd, show (0 : Nat) ≠ t by omega, if_false, hS.s0]) ?_
  refine wpR_step (v := .pointer (some (a.add i))) (by simp only [RK.val?, ev, updo, upd, if_true]; rw [if_pos (by omega)]; simp) ?_
  refine wpR_step (v := .int .u8 b.toNat) (by simp only [RK.val?, ev, updo, upd, if_true]; exact hg) ?_
  refine wpR_step (v := .int .u8 ((b.toNat % 128 : Nat) : Int)) (by simp only [RK.val?, ev, updo, upd, if_true, decide_true, Bool.or_true]; exact and127 b) ?_
  refine wpR_step (v := .int .u32 ((b.toNat % 128 : Nat) : Int)) (by simp only [RK.val?, ev, updo, upd, if_true, e1]) ?_
  refine wpR_step (v := .int .u32 (((b.toNat % 128) * 2 ^ sh : Nat) : Int)) (by simp only [RK.val?, ev, updo, upd, if_true, isShift, Bool.true_or]; exact shl_u32 (by omega) h1) ?_
  refine wpR_step (v := .int .u32 ((x + (b.toNat % 128) * 2 ^ sh : Nat) : Int)) (by
    simp only [RK.val?, ev, updo, upd, show t ≠ t + 6 by omega, show t ≠ t + 5 by omega, show t ≠ t + 4 by omega, show t ≠ t + 3 by omega, show t ≠ t + 2 by omega, show t ≠ t + 1 by omega, if_false, if_true, decide_true, Bool.or_true]
    exact or_u32 hx (by omega) h1) ?_
  refine wpR_step (v := .int .u32 ((x + (b.toNat % 128) * 2 ^ sh : Nat) : Int)) (by simp only [RK.val?, ev, updo, upd, if_true]) ?_
  refine wpR_done ?_
  generalize hσ1 : updo _ (some 4) _ = σ1
  have k0 : σ1 0 = .slice (some a) len cap := by
    rw [← hσ1]; simp only [updo, upd, show (0 : Nat) ≠ 4 by omega, show (0 : Nat) ≠ t + 7 by omega, show (0 : Nat) ≠ t + 6 by omega, show (0 : Nat) ≠ t + 5 by omega, show (0 : Nat) ≠ t + 4 by omega, show (0 : Nat) ≠ t + 3 by omega, show (0 : Nat) ≠ t + 2 by omega, show (0 : Nat) ≠ t + 1 by omega, show (0 : Nat) ≠ t by omega, if_false, hS.s0]
  have k4 : σ1 4 = .int .u32 ((x + (b.toNat % 128) * 2 ^ sh : Nat) : Int) := by rw [← hσ1]; rfl
  have k5 : σ1 5 = .int .i64 0 := by
    rw [← hσ1]; simp only [updo, upd, show (5 : Nat) ≠ 4 by omega, show (5 : Nat) ≠ t + 7 by omega, show (5 : Nat) ≠ t + 6 by omega, show (5 : Nat) ≠ t + 5 by omega, show (5 : Nat) ≠ t + 4 by omega, show (5 : Nat) ≠ t + 3 by omega, show (5 : Nat) ≠ t + 2 by omega, show (5 : Nat) ≠ t + 1 by omega, show (5 : Nat) ≠ t by omega, if_false, hS.s5]
  clear hσ1
  rw [wpC_seq, wpC_seq, wpC_blk]
  refine wpR_step (v := .slice (some a) len cap) (congrArg some k0) ?_
  refine wpR_step (v := .pointer (some (a.add i))) (by simp only [RK.val?, ev, updo, upd, if_true]; rw [if_pos (by omega)]; simp) ?_
  refine wpR_step (v := .int .u8 b.toNat) (by simp only [RK.val?, ev, updo, upd, if_true]; exact hg) ?_
  refine wpR_step (v := .int .u8 (if b.toNat < 128 then 0 else 128)) (by simp only [RK.val?, ev, updo, upd, if_true, decide_true, Bool.or_true]; exact and128 b) ?_
  refine wpR_step (v := .bool (decide (b.toNat < 128))) (by
    simp only [RK.val?, ev, updo, upd, if_true, decide_true, Bool.or_true, intBin]
    by_cases hbb : b.toNat < 128 <;> simp [hbb]) ?_
  refine wpR_done ?_
  by_cases hbb : b.toNat < 128
  · rw [wpC_cond_t (by simp only [ev, updo, upd, if_true, hbb, decide_true]), wpC_seq, wpC_blk]
    refine wpR_step (v := .int .u32 ((x + (b.toNat % 128) * 2 ^ sh : Nat) : Int)) (by
      simp only [RK.val?, ev, updo, upd, show (4 : Nat) ≠ t + 8 by omega, show (4 : Nat) ≠ t + 9 by omega, show (4 : Nat) ≠ t + 10 by omega, show (4 : Nat) ≠ t + 11 by omega, show (4 : Nat) ≠ t + 12 by omega, if_false, k4]) ?_
    refine wpR_step (v := .int .u32 ((x + (b.toNat % 128) * 2 ^ sh : Nat) : Int)) (by simp only [RK.val?, ev, updo, upd, if_true]) ?_
    refine wpR_step (v := .int .i64 (i + 1)) rfl ?_
    refine wpR_done ?_
    refine hret hbb _ ?_ rfl
    rw [Nat.mod_eq_of_lt hbb]; rfl
  · rw [wpC_cond_f (by simp only [ev, updo, upd, if_true, hbb, decide_false]), wpC_seq, wpC_blk]
    refine wpR_step (v := .slice (some a) len cap) (by
      simp only [RK.val?, ev, updo, upd, show (0 : Nat) ≠ t + 8 by omega, show (0 : Nat) ≠ t + 9 by omega, show (0 : Nat) ≠ t + 10 by omega, show (0 : Nat) ≠ t + 11 by omega, show (0 : Nat) ≠ t + 12 by omega, if_false, k0]) ?_
    refine wpR_step (v := .int .i64 len) (by simp only [RK.val?, ev, updo, upd, if_true]) ?_
    refine wpR_step (v := .bool (decide (len < i + 2))) (by
      simp only [RK.val?, ev, updo, upd, if_true, decide_true, Bool.or_true, intBin]
      congr 2
      exact decide_eq_decide.2 (by omega)) ?_
    refine wpR_done ?_
    have g : ∀ j, j < 6 → (updo (updo (updo (updo (updo (updo (updo (updo σ1 (some (t + 8)) (.slice (some a) len cap)) (some (t + 9)) (.pointer (some (a.add i)))) (some (t + 10)) (.int .u8 b.toNat)) (some (t + 11)) (.int .u8 (if b.toNat < 128 then 0 else 128))) (some (t + 12)) (.bool (decide (b.toNat < 128)))) (some (t + 14)) (.slice (some a) len cap)) (some (t + 15)) (.int .i64 len)) (some (t + 16)) (.bool (decide (len < i + 2)))) j = σ1 j := by
      intro j hj
      simp only [updo, upd, show j ≠ t + 8 by omega, show j ≠ t + 9 by omega, show j ≠ t + 10 by omega, show j ≠ t + 11 by omega, show j ≠ t + 12 by omega, show j ≠ t + 14 by omega, show j ≠ t + 15 by omega, show j ≠ t + 16 by omega, if_false]
    by_cases hl2 : len < i + 2
    · rw [wpC_cond_t (by simp only [ev, updo, upd, if_true, hl2, decide_true])]
      exact hgo hbb hl2 _ ((g 5 (by omega)).trans k5)
    · rw [wpC_cond_f (by simp only [ev, updo, upd, if_true, hl2, decide_false]), wpC_skip]
      exact hnext hbb hl2 _ ⟨(g 0 (by omega)).trans k0, (g 4 (by omega)).trans k4, (g 5 (by omega)).trans k5⟩
end
end Go.Msk

namespace Go.Msk
open Go.RowKit
set_option maxRecDepth 100000
section
variable {P : Program} {F : Nat → Nat}
def UvRes (l : List UInt8) (e : Ending) : Prop :=
  match uvR 5 l with
  | some (v, k) => e = .returned (.tuple #[.int .u32 v, .int .i64 k])
  | none => ∃ n : Int, n ≤ 0 ∧ e = .returned (.tuple #[.int .u32 0, .int .i64 n])
theorem uv_label {w : World} {σ : Sl} {n : Int} {Q : Exit → Sl → World → Prop} (h5 : σ 5 = .int .i64 n) (hQ : ∀ σ', σ' 2 = .int .u32 0 → σ' 3 = .int .i64 n → Q .ret σ' w) :
    wpC P (.seq .skip (.seq (.blk [⟨some 86, .mv (.tmp 5), none⟩, ⟨some 2, .mv (.const (.int .u32 0)), none⟩, ⟨some 3, .mv (.tmp 86), none⟩]) .ret)) Q σ w := by
  rw [wpC_seq, wpC_skip]
  simp only [thenC]
  rw [wpC_seq, wpC_blk]
  refine wpR_step (v := .int .i64 n) (congrArg some h5) ?_
  refine wpR_step (v := .int .u32 0) rfl ?_
  refine wpR_step (v := .int .i64 n) rfl ?_
  refine wpR_done ?_
  exact hQ _ rfl rfl
theorem uv_none {l : List UInt8} {w : World} {σ : Sl} {n : Int} (hn : n ≤ 0) (h2 : σ 2 = .int .u32 0) (h3 : σ 3 = .int .i64 n) (hr : uvR 5 l = none) : postC [.tmp 2, .tmp 3] (fun e w' => UvRes l e ∧ w' = w) .ret σ w := by
  simp only [postC, rvals, List.mapM_cons, List.mapM_nil, RV.val, h2, h3, Option.bind_eq_bind, Option.bind_some, Option.pure_def, tup]
  refine ⟨?_, trivial⟩
  unfold UvRes; rw [hr]; exact ⟨n, hn, rfl⟩
theorem uv_fail {l : List UInt8} {w : World} {σ : Sl} {n : Int} (hn : n ≤ 0) (h5 : σ 5 = .int .i64 n) (hr : uvR 5 l = none) :
    wpC P (.seq .skip (.seq (.blk [⟨some 86, .mv (.tmp 5), none⟩, ⟨some 2, .mv (.const (.int .u32 0)), none⟩, ⟨some 3, .mv (.tmp 86), none⟩]) .ret)) (noGotoC (postC [.tmp 2, .tmp 3] fun e w' => UvRes l e ∧ w' = w)) σ w :=
  uv_label h5 fun _ e2 e3 => uv_none hn e2 e3 hr
def UvQ (P : Program) (l : List UInt8) (w : World) : Exit → Sl → World → Prop :=
  jumpC 0 (wpC P (.seq .skip (.seq (.blk [⟨some 86, .mv (.tmp 5), none⟩, ⟨some 2, .mv (.const (.int .u32 0)), none⟩, ⟨some 3, .mv (.tmp 86), none⟩]) .ret)) (noGotoC (postC [.tmp 2, .tmp 3] fun e w' => UvRes l e ∧ w' = w))) (postC [.tmp 2, .tmp 3] fun e w' => UvRes l e ∧ w' = w)
theorem uv_goto {l : List UInt8} {w : World} {σ : Sl} {n : Int} (hn : n ≤ 0) (h5 : σ 5 = .int .i64 n) (hr : uvR 5 l = none) : UvQ P l w (.goto 0) σ w := ⟨rfl, uv_fail hn h5 hr⟩
theorem uv_scope {l : List UInt8} {w : World} {σ : Sl} {a : IC} (h : wpC P a (UvQ P l w) σ w) :
    wpC P (.scopeTo a 0 (.seq .skip (.seq (.blk [⟨some 86, .mv (.tmp 5), none⟩, ⟨some 2, .mv (.const (.int .u32 0)), none⟩, ⟨some 3, .mv (.tmp 86), none⟩]) .ret))) (postC [.tmp 2, .tmp 3] fun e w' => UvRes l e ∧ w' = w) σ w := h
theorem uv_ret {l : List UInt8} {w : World} {σ : Sl} {v k : Nat} (h2 : σ 2 = .int .u32 v) (h3 : σ 3 = .int .i64 k) (hr : uvR 5 l = some (v, k)) : UvQ P l w .ret σ w := by
  show postC [.tmp 2, .tmp 3] (fun e w' => UvRes l e ∧ w' = w) .ret σ w
  simp only [postC, rvals, List.mapM_cons, List.mapM_nil, RV.val, h2, h3, Option.bind_eq_bind, Option.bind_some, Option.pure_def, tup]
  refine ⟨?_, trivial⟩
  unfold UvRes; rw [hr]
theorem uv_last {X len cap : Nat} {a : Addr} {l : List UInt8} {b : UInt8} {σ : Sl} {w : World} {rest : IC} {Q : Exit → Sl → World → Prop} (hb : IsBytes w (some a) len cap l) (hi : l[4]? = some b) (hX : X < 2 ^ 28) (hS : UvS a len cap X σ)
    (hret : b.toNat ≤ 15 → ∀ σ', σ' 2 = .int .u32 ((X + b.toNat * 2 ^ 28 : Nat) : Int) → σ' 3 = .int .i64 5 → Q .ret σ' w)
    (hnext : ¬ b.toNat ≤ 15 → ∀ σ', wpC P rest Q σ' w) :
    wpC P (.seq (.blk [⟨some 74, .mv (.tmp 4), none⟩, ⟨some 75, .mv (.tmp 0), none⟩, ⟨some 76, .iad (.tmp 75) (.const (.int .i64 4)) 1, none⟩, ⟨some 77, .ld (.tmp 76), none⟩, ⟨some 78, .conv .u32 (.tmp 77), none⟩, ⟨some 79, .bin .shl (.tmp 78) (.const (.int .u64 28)), none⟩, ⟨some 80, .bin .or (.tmp 74) (.tmp 79), none⟩, ⟨some 4, .mv (.tmp 80), none⟩])
      (.seq (.seq (.blk [⟨some 81, .mv (.tmp 0), none⟩, ⟨some 82, .iad (.tmp 81) (.const (.int .i64 4)) 1, none⟩, ⟨some 83, .ld (.tmp 82), none⟩, ⟨some 84, .bin .leq (.tmp 83) (.const (.int .u8 15)), none⟩])
        (.cond (.tmp 84) (.seq (.blk [⟨some 85, .mv (.tmp 4), none⟩, ⟨some 2, .mv (.tmp 85), none⟩, ⟨some 3, .mv (.const (.int .i64 5)), none⟩]) .ret) .skip)) rest)) Q σ w := by
  have hlt := hb.lt hi
  have hg := hb.get hi
  have hbl := byte_lt b
  have e4 : IntKind.u32.wrap (b.toNat : Int) = b.toNat := u32_nat (by omega)
  obtain ⟨q0, q4, q5⟩ := hS
  rw [wpC_seq, wpC_blk]
  refine wpR_step (v := .int .u32 X) (congrArg some q4) ?_
  refine wpR_step (v := .slice (some a) len cap) (by simp only [RK.val?, ev, updo, upd]; simp [q0]) ?_
  refine wpR_step (v := .pointer (some (a.add 4))) (by simp only [RK.val?, ev, updo, upd, if_true]; rw [if_pos (by omega)]; simp) ?_
  refine wpR_step (v := .int .u8 b.toNat) (by simp only [RK.val?, ev, updo, upd, if_true]; exact hg) ?_
  refine wpR_step (v := .int .u32 b.toNat) (by simp only [RK.val?, ev, updo, upd, if_true, e4]) ?_
  obtain ⟨m, hm⟩ : ∃ m : Int, intBin .shl .u32 (b.toNat : Int) 28 = some (.int .u32 m) := ⟨_, by unfold intBin; simp only; rw [if_neg (by omega)]⟩
  obtain ⟨y, hy⟩ : ∃ y : Int, intBin .or .u32 (X : Int) m = some (.int .u32 y) := ⟨_, rfl⟩
  refine wpR_step (v := .int .u32 m) (by simp only [RK.val?, ev, updo, upd, if_true, isShift, Bool.true_or]; exact hm) ?_
  refine wpR_step (v := .int .u32 y) (by
    simp only [RK.val?, ev, updo, upd, if_true, decide_true, Bool.or_true, show (74 : Nat) ≠ 75 by decide, show (74 : Nat) ≠ 76 by decide, show (74 : Nat) ≠ 77 by decide, show (74 : Nat) ≠ 78 by decide, show (74 : Nat) ≠ 79 by decide, if_false]
    exact hy) ?_
  refine wpR_step (v := .int .u32 y) (by simp only [RK.val?, ev, updo, upd, if_true]) ?_
  refine wpR_done ?_
  generalize hσ1 : updo _ (some 4) _ = σ1
  have k0 : σ1 0 = .slice (some a) len cap := by rw [← hσ1]; simp [updo, upd, q0]
  have k4 : σ1 4 = .int .u32 y := by rw [← hσ1]; simp [updo, upd]
  clear hσ1
  rw [wpC_seq, wpC_seq, wpC_blk]
  refine wpR_step (v := .slice (some a) len cap) (congrArg some k0) ?_
  refine wpR_step (v := .pointer (some (a.add 4))) (by simp only [RK.val?, ev, updo, upd, if_true]; rw [if_pos (by omega)]; simp) ?_
  refine wpR_step (v := .int .u8 b.toNat) (by simp only [RK.val?, ev, updo, upd, if_true]; exact hg) ?_
  refine wpR_step (v := .bool (decide (b.toNat ≤ 15))) (by
    simp only [RK.val?, ev, updo, upd, if_true, decide_true, Bool.or_true, intBin]
    congr 2; exact decide_eq_decide.2 (by omega)) ?_
  refine wpR_done ?_
  by_cases hb4 : b.toNat ≤ 15
  · have hs := shl_u32 (x := b.toNat) (s := 28) (by omega) (by omega)
    have ho := or_u32 (x := X) (y := b.toNat) (s := 28) hX (by omega) (by omega)
    have em : m = ((b.toNat * 2 ^ 28 : Nat) : Int) := by
      have := hm.symm.trans hs
      simpa using this
    rw [em] at hy
    have ey : y = ((X + b.toNat * 2 ^ 28 : Nat) : Int) := by
      have := hy.symm.trans ho
      simpa using this
    rw [wpC_cond_t (by simp only [ev, updo, upd, if_true, hb4, decide_true]), wpC_seq, wpC_blk]
    refine wpR_step (v := .int .u32 y) (by simp only [RK.val?, ev, updo, upd]; simp [k4]) ?_
    refine wpR_step (v := .int .u32 y) (by simp only [RK.val?, ev, updo, upd, if_true]) ?_
    refine wpR_step (v := .int .i64 5) rfl ?_
    refine wpR_done ?_
    exact hret hb4 _ (by simp only [updo, upd, show (2 : Nat) ≠ 3 by decide, if_false, if_true, ey]) rfl
  · rw [wpC_cond_f (by simp only [ev, updo, upd, if_true, hb4, decide_false]), wpC_skip]
    exact hnext hb4 _
theorem uv_first {len cap : Nat} {base : Option Addr} {l : List UInt8} {σ : Sl} {w : World} {rest : IC} {Q : Exit → Sl → World → Prop} (hb : IsBytes w base len cap l) (k0 : σ 0 = .slice base len cap)
    (hgo0 : l = [] → ∀ σ', σ' 5 = .int .i64 0 → Q (.goto 0) σ' w)
    (hret : ∀ b r, l = b :: r → b.toNat < 128 → ∀ σ', σ' 2 = .int .u32 b.toNat → σ' 3 = .int .i64 1 → Q .ret σ' w)
    (hgo1 : ∀ b, l = [b] → ¬ b.toNat < 128 → ∀ σ', σ' 5 = .int .i64 0 → Q (.goto 0) σ' w)
    (hnext : ∀ a b c r, base = some a → l = b :: c :: r → ¬ b.toNat < 128 → ∀ σ', UvS a len cap (b.toNat % 128) σ' → wpC P rest Q σ' w) :
    wpC P (.seq (.blk [⟨some 4, .mv (.const (.int .u32 0)), none⟩]) (.seq (.blk [⟨some 5, .mv (.const (.int .i64 0)), none⟩])
      (.seq (.seq (.blk [⟨some 6, .mv (.tmp 0), none⟩, ⟨some 7, .len (.tmp 6), none⟩, ⟨some 8, .bin .lss (.tmp 7) (.const (.int .i64 1)), none⟩]) (.cond (.tmp 8) (.goto 0) .skip))
      (.seq (.blk [⟨some 9, .mv (.tmp 0), none⟩, ⟨some 10, .iad (.tmp 9) (.const (.int .i64 0)) 1, none⟩, ⟨some 11, .ld (.tmp 10), none⟩, ⟨some 12, .bin .and (.tmp 11) (.const (.int .u8 127)), none⟩, ⟨some 13, .conv .u32 (.tmp 12), none⟩, ⟨some 4, .mv (.tmp 13), none⟩])
      (.seq (.seq (.blk [⟨some 14, .mv (.tmp 0), none⟩, ⟨some 15, .iad (.tmp 14) (.const (.int .i64 0)) 1, none⟩, ⟨some 16, .ld (.tmp 15), none⟩, ⟨some 17, .bin .and (.tmp 16) (.const (.int .u8 128)), none⟩, ⟨some 18, .bin .eql (.tmp 17) (.const (.int .u8 0)), none⟩])
        (.cond (.tmp 18) (.seq (.blk [⟨some 19, .mv (.tmp 4), none⟩, ⟨some 2, .mv (.tmp 19), none⟩, ⟨some 3, .mv (.const (.int .i64 1)), none⟩]) .ret)
          (.seq (.blk [⟨some 20, .mv (.tmp 0), none⟩, ⟨some 21, .len (.tmp 20), none⟩, ⟨some 22, .bin .lss (.tmp 21) (.const (.int .i64 2)), none⟩]) (.cond (.tmp 22) (.goto 0) .skip)))) rest))))) Q σ w := by
  have hlen := hb.hlen
  rw [wpC_seq, wpC_blk]
  refine wpR_step (v := .int .u32 0) rfl ?_
  refine wpR_done ?_
  rw [wpC_seq, wpC_blk]
  refine wpR_step (v := .int .i64 0) rfl ?_
  refine wpR_done ?_
  rw [wpC_seq, wpC_seq, wpC_blk]
  refine wpR_step (v := .slice base len cap) (by simp only [RK.val?, ev, updo, upd]; simp [k0]) ?_
  refine wpR_step (v := .int .i64 len) (by simp only [RK.val?, ev, updo, upd, if_true]) ?_
  refine wpR_step (v := .bool (decide (len < 1))) (by
    simp only [RK.val?, ev, updo, upd, if_true, isShift, decide_true, Bool.or_true, intBin]
    congr 2; exact decide_eq_decide.2 (by omega)) ?_
  refine wpR_done ?_
  by_cases h1 : len < 1
  · rw [wpC_cond_t (by simp only [ev, updo, upd, if_true, h1, decide_true])]
    exact hgo0 (List.length_eq_zero_iff.1 (by omega)) _ rfl
  rw [wpC_cond_f (by simp only [ev, updo, upd, if_true, h1, decide_false]), wpC_skip]
  simp only [thenC]
  obtain ⟨a, rfl⟩ : ∃ a, base = some a := by
    cases base with
    | some a => exact ⟨a, rfl⟩
    | none => have := hb.hnone rfl; have := hb.hcap; omega
  obtain ⟨b0, r0, rfl⟩ : ∃ b r, l = b :: r := by cases l with | nil => simp at hlen; omega | cons b r => exact ⟨b, r, rfl⟩
  have g0 := hb.get (i := 0) (b := b0) rfl
  have hbl := byte_lt b0
  have e0 : IntKind.u32.wrap ((b0.toNat % 128 : Nat) : Int) = ((b0.toNat % 128 : Nat) : Int) := u32_nat (by omega)
  generalize hσ : updo _ (some 8) _ = σ1
  have k0' : σ1 0 = .slice (some a) len cap := by rw [← hσ]; simp [updo, upd, k0]
  have k5 : σ1 5 = .int .i64 0 := by rw [← hσ]; simp [updo, upd]
  clear hσ k0
  have k0 := k0'
  rw [wpC_seq, wpC_blk]
  refine wpR_step (v := .slice (some a) len cap) (congrArg some k0) ?_
  refine wpR_step (v := .pointer (some (a.add 0))) (by simp only [RK.val?, ev, updo, upd, if_true]; rw [if_pos (by omega)]; simp) ?_
  refine wpR_step (v := .int .u8 b0.toNat) (by simp only [RK.val?, ev, updo, upd, if_true]; exact g0) ?_
  refine wpR_step (v := .int .u8 ((b0.toNat % 128 : Nat) : Int)) (by simp only [RK.val?, ev, updo, upd, if_true, decide_true, Bool.or_true]; exact and127 b0) ?_
  refine wpR_step (v := .int .u32 ((b0.toNat % 128 : Nat) : Int)) (by simp only [RK.val?, ev, updo, upd, if_true, e0]) ?_
  refine wpR_step (v := .int .u32 ((b0.toNat % 128 : Nat) : Int)) (by simp only [RK.val?, ev, updo, upd, if_true]) ?_
  refine wpR_done ?_
  generalize hσ : updo _ (some 4) _ = σ2
  have m0 : σ2 0 = .slice (some a) len cap := by rw [← hσ]; simp [updo, upd, k0]
  have m4 : σ2 4 = .int .u32 ((b0.toNat % 128 : Nat) : Int) := by rw [← hσ]; simp only [updo, upd, if_true]
  have m5 : σ2 5 = .int .i64 0 := by rw [← hσ]; simp [updo, upd, k5]
  clear hσ
  rw [wpC_seq, wpC_seq, wpC_blk]
  refine wpR_step (v := .slice (some a) len cap) (congrArg some m0) ?_
  refine wpR_step (v := .pointer (some (a.add 0))) (by simp only [RK.val?, ev, updo, upd, if_true]; rw [if_pos (by omega)]; simp) ?_
  refine wpR_step (v := .int .u8 b0.toNat) (by simp only [RK.val?, ev, updo, upd, if_true]; exact g0) ?_
  refine wpR_step (v := .int .u8 (if b0.toNat < 128 then 0 else 128)) (by simp only [RK.val?, ev, updo, upd, if_true, decide_true, Bool.or_true]; exact and128 b0) ?_
  refine wpR_step (v := .bool (decide (b0.toNat < 128))) (by
    simp only [RK.val?, ev, updo, upd, if_true, decide_true, Bool.or_true, intBin]
    by_cases hbb : b0.toNat < 128 <;> simp [hbb]) ?_
  refine wpR_done ?_
  by_cases hb0 : b0.toNat < 128
  · rw [wpC_cond_t (by simp only [ev, updo, upd, if_true, hb0, decide_true]), wpC_seq, wpC_blk]
    refine wpR_step (v := .int .u32 ((b0.toNat % 128 : Nat) : Int)) (by simp only [RK.val?, ev, updo, upd]; simp [m4]) ?_
    refine wpR_step (v := .int .u32 ((b0.toNat % 128 : Nat) : Int)) (by simp only [RK.val?, ev, updo, upd, if_true]) ?_
    refine wpR_step (v := .int .i64 1) rfl ?_
    refine wpR_done ?_
    exact hret b0 r0 rfl hb0 _ (by simp only [updo, upd, show (2 : Nat) ≠ 3 by decide, if_false, if_true]; rw [Nat.mod_eq_of_lt hb0]) rfl
  rw [wpC_cond_f (by simp only [ev, updo, upd, if_true, hb0, decide_false]), wpC_seq, wpC_blk]
  refine wpR_step (v := .slice (some a) len cap) (by simp only [RK.val?, ev, updo, upd]; simp [m0]) ?_
  refine wpR_step (v := .int .i64 len) (by simp only [RK.val?, ev, updo, upd, if_true]) ?_
  refine wpR_step (v := .bool (decide (len < 2))) (by
    simp only [RK.val?, ev, updo, upd, if_true, isShift, decide_true, Bool.or_true, intBin]
    congr 2; exact decide_eq_decide.2 (by omega)) ?_
  refine wpR_done ?_
  simp only [List.length_cons] at hlen
  by_cases h2 : len < 2
  · rw [wpC_cond_t (by simp only [ev, updo, upd, if_true, h2, decide_true])]
    have : r0 = [] := List.length_eq_zero_iff.1 (by omega)
    subst this
    exact hgo1 b0 rfl hb0 _ (by simp [updo, upd, m5])
  rw [wpC_cond_f (by simp only [ev, updo, upd, if_true, h2, decide_false]), wpC_skip]
  simp only [thenC]
  obtain ⟨b1, r1, rfl⟩ : ∃ b r, r0 = b :: r := by cases r0 with | nil => simp at hlen; omega | cons b r => exact ⟨b, r, rfl⟩
  exact hnext a b0 b1 r1 rfl rfl hb0 _ ⟨by simp [updo, upd, m0], by simp [updo, upd, m4], by simp [updo, upd, m5]⟩
theorem uv_no {n : Nat} {b : UInt8} {r : List UInt8} (h1 : ¬ b.toNat < 128) (h2 : uvR n r = none) : uvR (n + 1) (b :: r) = none := by simp only [uvR, h1, if_false, h2]
theorem uv_nil (n : Nat) : uvR n ([] : List UInt8) = none := by cases n <;> rfl
theorem kUvarint_call (hm : P.follows .mixedOrders = true) (h : liftF P (F kUvarint) = some (ir_kUvarint F)) {base : Option Addr} {len cap : Nat} {l : List UInt8} {w : World} (hb : IsBytes w base len cap l) :
    Calls P (F kUvarint) [.slice base len cap].toArray w fun e w' => UvRes l e ∧ w' = w := by
  unfold ir_kUvarint at h
  refine call_of h hm (by simp) ?_
  have a0 : args0 [.slice base len cap] 0 = .slice base len cap := rfl
  generalize args0 [.slice base len cap] = σ0 at a0 ⊢
  have hlen := hb.hlen
  rw [wpC_seq, wpC_blk]
  refine wpR_step (v := .int .u32 0) rfl ?_
  refine wpR_step (v := .int .i64 0) rfl ?_
  refine wpR_done ?_
  have k0 : updo (updo σ0 (some 2) (.int .u32 0)) (some 3) (.int .i64 0) 0 = .slice base len cap := by simp [updo, upd, a0]
  generalize updo (updo σ0 (some 2) (.int .u32 0)) (some 3) (.int .i64 0) = σ1 at k0 ⊢
  refine uv_scope ?_
  refine uv_first hb k0 ?_ ?_ ?_ ?_
  · rintro rfl σ' e5
    exact uv_goto (n := 0) (Int.le_refl _) e5 (uv_nil _)
  · rintro b r rfl hb0 σ' e2 e3
    refine uv_ret (v := b.toNat) (k := 1) e2 e3 ?_
    simp only [uvR, hb0, if_true]; simp
  · rintro b rfl hb0 σ' e5
    exact uv_goto (n := 0) (Int.le_refl _) e5 (uv_no hb0 (uv_nil _))
  rintro a b0 b1 r1 rfl rfl hb0 σ1 hS1
  simp only [List.length_cons] at hlen
  refine uv_level (t := 23) (i := 1) (sh := 7) (x := b0.toNat % 128) (b := b1) (by omega) hb rfl (by omega) (by omega) rfl rfl rfl hS1 ?_ ?_ ?_
  · intro hb1 σ' e2 e3
    refine uv_ret (v := b0.toNat % 128 + b1.toNat * 2 ^ 7) (k := 2) e2 e3 ?_
    simp only [uvR, hb0, hb1, if_true, if_false]; simp; omega
  · intro hb1 hl σ' e5
    have : r1 = [] := List.length_eq_zero_iff.1 (by omega)
    subst this
    exact uv_goto (n := 0) (Int.le_refl _) e5 (uv_no hb0 (uv_no hb1 (uv_nil _)))
  intro hb1 hl1 σ2 hS2
  obtain ⟨b2, r2, rfl⟩ : ∃ b r, r1 = b :: r := by cases r1 with | nil => simp at hlen; omega | cons b r => exact ⟨b, r, rfl⟩
  simp only [List.length_cons] at hlen
  refine uv_level (t := 40) (i := 2) (sh := 14) (b := b2) (by omega) hb rfl (by omega) (by omega) rfl rfl rfl hS2 ?_ ?_ ?_
  · intro hb2 σ' e2 e3
    refine uv_ret (v := b0.toNat % 128 + b1.toNat % 128 * 2 ^ 7 + b2.toNat * 2 ^ 14) (k := 3) e2 e3 ?_
    simp only [uvR, hb0, hb1, hb2, if_true, if_false]; simp; omega
  · intro hb2 hl σ' e5
    have : r2 = [] := List.length_eq_zero_iff.1 (by omega)
    subst this
    exact uv_goto (n := 0) (Int.le_refl _) e5 (uv_no hb0 (uv_no hb1 (uv_no hb2 (uv_nil _))))
  intro hb2 hl2 σ3 hS3
  obtain ⟨b3, r3, rfl⟩ : ∃ b r, r2 = b :: r := by cases r2 with | nil => simp at hlen; omega | cons b r => exact ⟨b, r, rfl⟩
  simp only [List.length_cons] at hlen
  refine uv_level (t := 57) (i := 3) (sh := 21) (b := b3) (by omega) hb rfl (by omega) (by omega) rfl rfl rfl hS3 ?_ ?_ ?_
  · intro hb3 σ' e2 e3
    refine uv_ret (v := b0.toNat % 128 + b1.toNat % 128 * 2 ^ 7 + b2.toNat % 128 * 2 ^ 14 + b3.toNat * 2 ^ 21) (k := 4) e2 e3 ?_
    simp only [uvR, hb0, hb1, hb2, hb3, if_true, if_false]; simp; omega
  · intro hb3 hl σ' e5
    have : r3 = [] := List.length_eq_zero_iff.1 (by omega)
    subst this
    exact uv_goto (n := 0) (Int.le_refl _) e5 (uv_no hb0 (uv_no hb1 (uv_no hb2 (uv_no hb3 (uv_nil _)))))
  intro hb3 hl3 σ4 hS4
  obtain ⟨b4, r4, rfl⟩ : ∃ b r, r3 = b :: r := by cases r3 with | nil => simp at hlen; omega | cons b r => exact ⟨b, r, rfl⟩
  refine uv_last (b := b4) hb rfl (by omega) hS4 ?_ ?_
  · intro hb4 σ' e2 e3
    refine uv_ret (v := b0.toNat % 128 + b1.toNat % 128 * 2 ^ 7 + b2.toNat % 128 * 2 ^ 14 + b3.toNat % 128 * 2 ^ 21 + b4.toNat * 2 ^ 28) (k := 5) e2 e3 ?_
    have hb4' : b4.toNat < 128 := by omega
    have hb4'' : ¬ 15 < b4.toNat := by omega
    simp only [uvR, hb0, hb1, hb2, hb3, hb4', hb4'', if_true, if_false, and_false]; simp; omega
  · intro hb4 σ'
    have hfail : uvR 5 (b0 :: b1 :: b2 :: b3 :: b4 :: r4) = none := by
      refine uv_no hb0 (uv_no hb1 (uv_no hb2 (uv_no hb3 ?_)))
      by_cases hb5 : b4.toNat < 128
      · simp only [uvR, hb5, if_true]; simp; omega
      · simp only [uvR, hb5, if_false]
    rw [wpC_seq, wpC_blk]
    refine wpR_step (v := .int .i64 (-5)) rfl ?_
    refine wpR_done ?_
    exact uv_label (n := -5) rfl fun _ e2 e3 => uv_none (by omega) e2 e3 hfail
end
end Go.Msk
