/- A small language of resolved operations, and what the generic and the generated functions do in it (part 6). -/
import Derived.Test.YtioafahhbmhjmaaDoorFe

/-! Reading a whole message. -/
namespace Go.Msk
open Go.RowKit
set_option maxRecDepth 100000

/-- A message's reading: is the version read too, and by which method; from which version on it is flexible; its default; its fields. -/
structure Top where
  rv : Option FuncId
  flex : Option Int
  dfl : FuncId
  ok : FuncId
  cpl : FuncId
  sc : Sc
  deriving Inhabited

def Top.env (T : Top) : RE := ⟨7, 8, 9, 2, 6, T.flex.isSome, T.ok, T.cpl⟩
/-- The first slot behind the struct's own. -/
def Top.nv (T : Top) : Nat := if T.flex.isSome then 11 else 10
def Top.t0 (T : Top) : Nat := T.nv + T.sc.nv
/-- Slots before the version, and before the fields. -/
def Top.t1 (T : Top) : Nat := T.t0 + (if T.rv.isSome then 8 else 4)
def Top.t2 (T : Top) : Nat := T.t1 + (if T.flex.isSome then 8 else 5)

def Top.flexF (T : Top) : List IC :=
  match T.flex with
  | some n => [.blk [⟨some (T.t1 + 5), .mv (.tmp 8), none⟩, ⟨some (T.t1 + 6), .bin .geq (.tmp (T.t1 + 5)) (.const (.int .i16 n)), none⟩, ⟨some 9, .mv (.tmp (T.t1 + 6)), none⟩], .blk [⟨some (T.t1 + 7), .mv (.tmp 9), none⟩]]
  | none => []

def Top.verF (T : Top) : List IC :=
  match T.rv with
  | some f => [rdF 0 7 (T.t0 + 4) 0 f]
  | none => []

def Top.gen (T : Top) : IC × List RV × Nat :=
  (seqs ([cF 6 .nilIface, .blk [⟨some T.t0, .mv (.tmp 0), none⟩, ⟨some (T.t0 + 1), .call T.dfl [.tmp T.t0], none⟩],
     .blk [⟨some (T.t0 + 2), .mv (.tmp 1), none⟩, ⟨some (T.t0 + 3), .build [.slice none 0 0, .bool false] [(0, 1, .tmp (T.t0 + 2))], none⟩, ⟨some 7, .alloc [.slice none 0 0, .bool false], none⟩, ⟨none, .st (.tmp 7) 2 (.tmp (T.t0 + 3)), none⟩]] ++
    (T.verF ++ ([ldF 0 8 T.t1 0, .blk [⟨some (T.t1 + 4), .mv (.tmp 8), none⟩]] ++ (T.flexF ++ ([cpF 0 (T.nv - 1) T.t2] ++
    (T.sc.gen T.env (T.nv - 1) 1 T.nv (T.t2 + 1) 0 ++
     [.blk [⟨some (T.t2 + 1 + T.sc.nt T.flex.isSome), .call T.cpl [.tmp 7], none⟩, ⟨some 6, .mv (.tmp (T.t2 + 1 + T.sc.nt T.flex.isSome)), none⟩], .ret])))))),
   [.tmp 6], T.t2 + 2 + T.sc.nt T.flex.isSome)

/-- What the message reads as; the version that is set, or read. -/
def Top.x (T : Top) (ver : Int) : Bool := match T.flex with | some n => decide (ver ≥ n) | none => false

def Top.dec (T : Top) (D : Dec) (ver : Int) (s : RS) : Option ((Int × List GV) × RS) :=
  let (v, s1) := if T.rv.isSome then (IntKind.i16.wrap (rdN 2 s).1, (rdN 2 s).2) else (ver, s)
  match T.sc.dec D v (T.x v) s1 with
  | none => none
  | some (l, s2) => some ((v, l), s2)

section
variable {P : Program} {D : Dec}

/-- What is asked of the functions that a message's reading calls. -/
structure Top.Ok (T : Top) (P : Program) (D : Dec) (g : Nat) (u : Bool) : Prop where
  rv : ∀ f, T.rv = some f → RdC P f fun s => (.int .i16 (IntKind.i16.wrap (rdN 2 s).1), (rdN 2 s).2)
  ok : OkC P T.ok
  cpl : CplC P T.cpl g
  short : D.Short
  dfl : ∀ ver, DfC P T.dfl (.int .i16 ver :: T.sc.dcs.flatten) (.int .i16 ver :: T.sc.dcs.flatten)
  sc : ∀ x, (T.flex = none → x = false) → T.sc.Ok P D u x

theorem RdC.v {f : FuncId} {val : RS → Value × RS} (h : RdC P f val) : RdV P f (fun _ s v _ => v = (val s).1) fun s => (val s).2 :=
  fun S w rb s hr hrb _ => (h S w rb s hr hrb).mono fun e w' ⟨h1, h2, h3⟩ => ⟨_, h1, rfl, h2, h3⟩

theorem wpL_snoc2 {l : List IC} {a b : IC} {Q : Exit → Sl → World → Prop} {σ : Sl} {w : World} (h : wpL P l (thenC (wpL P [a, b] Q) Q) σ w) : wpL P (l ++ [a, b]) Q σ w := by
  rw [wpL_append]; exact h

theorem mkRd_wp {t : Nat} {σ : Sl} {w : World} {v : Value} {Q : Exit → Sl → World → Prop} (hv : σ 1 = v) (h1 : v.cells.size = 1) (h2 : ∀ y ∈ v.cells.toList, y.oneCell' = true) (lt : 8 ≤ t)
    (hQ : ∀ σ' w', (∀ j, j < t → j ≠ 7 → σ' j = σ j) → σ' 7 = .pointer (some ⟨w.heap.size, 0, none⟩) → Blk w' w.heap.size (v.cells.toList ++ [.bool false]) → Mod [] w w' → Q .normal σ' w') :
    wpC P (.blk [⟨some t, .mv (.tmp 1), none⟩, ⟨some (t + 1), .build [.slice none 0 0, .bool false] [(0, 1, .tmp t)], none⟩, ⟨some 7, .alloc [.slice none 0 0, .bool false], none⟩, ⟨none, .st (.tmp 7) 2 (.tmp (t + 1)), none⟩]) Q σ w := by
  have hl : v.cells.toList.length = 1 := by simpa using h1
  simp only [wpC, wpR, RI.wp, gOk, if_true, RK.run, ev, updo, List.map_cons, List.map_nil, fillL, upd_same, hv]
  rw [if_pos ⟨h1, by simp⟩]
  have e1 : splice [Value.slice none 0 0, .bool false] 0 v.cells.toList = v.cells.toList ++ [.bool false] := by
    simp [splice, hl]
  simp only [e1]
  intro T
  have ec : ∀ cs, (Value.agg cs).cells = cs := fun _ => rfl
  simp only [upd, if_true, show t + 1 ≠ 7 by omega, if_false, ec]
  obtain ⟨k1, k2, k3⟩ := new_put w [.slice none 0 0, .bool false] (v.cells.toList ++ [.bool false]) T (by simp [hl]) (by
    intro y hy
    rcases List.mem_append.1 hy with hy | hy
    · exact h2 y hy
    · simp only [List.mem_singleton] at hy; subst hy; rfl)
  refine ⟨by simp [h1], k1, hQ _ _ ?_ ?_ k2 k3⟩
  · intro j hj hne
    simp only [upd, hne, show j ≠ t by omega, show j ≠ t + 1 by omega, if_false]
  · simp only [upd, if_true]

theorem callF_wp {t x : Nat} {f : FuncId} {σ : Sl} {w : World} {v : Value} {R : Ending → World → Prop} {Q : Exit → Sl → World → Prop} (hx : σ x = v) (hc : Calls P f [v].toArray w R)
    (hQ : ∀ e w', R e w' → ∃ u, e = .returned u ∧ ∀ σ', Ag t σ σ' → Q .normal σ' w') : wpC P (.blk [⟨some t, .mv (.tmp x), none⟩, ⟨some (t + 1), .call f [.tmp t], none⟩]) Q σ w := by
  simp only [wpC, wpR, RI.wp, gOk, if_true, RK.run, ev, updo, List.map_cons, List.map_nil, upd_same, hx]
  refine hc.mono fun e w' hR => ?_
  obtain ⟨u, rfl, h⟩ := hQ e w' hR
  refine ⟨u, rfl, h _ fun j hj => ?_⟩
  simp only [upd, show j ≠ t by omega, show j ≠ t + 1 by omega, if_false]

theorem mvF_wp {t x : Nat} {σ : Sl} {w : World} {Q : Exit → Sl → World → Prop} (hQ : ∀ σ', Ag t σ σ' → Q .normal σ' w) : wpC P (.blk [⟨some t, .mv (.tmp x), none⟩]) Q σ w := by
  simp only [wpC, wpR, RI.wp, gOk, if_true, RK.run, ev, updo]
  exact hQ _ fun j hj => by simp only [upd, show j ≠ t by omega, if_false]

/-- The parts behind the version. -/
def Top.rest (T : Top) : List IC :=
  T.flexF ++ ([cpF 0 (T.nv - 1) T.t2] ++ (T.sc.gen T.env (T.nv - 1) 1 T.nv (T.t2 + 1) 0 ++
     [.blk [⟨some (T.t2 + 1 + T.sc.nt T.flex.isSome), .call T.cpl [.tmp 7], none⟩, ⟨some 6, .mv (.tmp (T.t2 + 1 + T.sc.nt T.flex.isSome)), none⟩], .ret]))

theorem Top.rest_wp {T : Top} {g : Nat} {u : Bool} (hT : T.Ok P D g u) {σ : Sl} {w w0 : World} {b0 rb : Nat} {ver : Int} {s : RS} {Te : TypeId} {ve : Value}
    (hb : Blk w b0 (.int .i16 ver :: T.sc.dcs.flatten)) (hr : IsRd [b0] w rb s) (hrb : rb ≠ b0) (hg : GErr g w Te ve) (hgb : g ≠ b0) (hgr : g ≠ rb) (hw0 : Mod [b0] w0 w) (hfr : w0.heap.size ≤ rb)
    (h0 : σ 0 = .pointer (some ⟨b0, 0, none⟩)) (h2 : σ 2 = .bool u) (h7 : σ 7 = .pointer (some ⟨rb, 0, none⟩)) (h8 : σ 8 = .int .i16 ver) :
    wpL P T.rest (postC [.tmp 6] fun e w' => Mod [b0] w0 w' ∧
      match T.sc.dec D ver (T.x ver) s with
      | none => e = .returned (.iface Te ve)
      | some (gs, s) => e = .returned (errVal s.bad Te ve) ∧ ∃ css, RepL [b0] w' gs css ∧ css.flatten.length = T.sc.dcs.flatten.length ∧ Blk w' b0 (.int .i16 ver :: css.flatten)) σ w := by
  have hnv10 : 10 ≤ T.nv := by unfold Top.nv; split <;> omega
  have ht0 : T.t0 = T.nv + T.sc.nv := rfl
  have ht1 : T.t0 + 4 ≤ T.t1 := by unfold Top.t1; split <;> omega
  have ht2 : T.t1 + 5 ≤ T.t2 := by unfold Top.t2; split <;> omega
  unfold Top.rest
  rw [wpL_append]
  have key : ∀ σ', (∀ j, j < T.t0 → j ≠ 9 → σ' j = σ j) → (T.flex.isSome = true → σ' 9 = .bool (T.x ver)) → wpL P ([cpF 0 (T.nv - 1) T.t2] ++ (T.sc.gen T.env (T.nv - 1) 1 T.nv (T.t2 + 1) 0 ++
     [.blk [⟨some (T.t2 + 1 + T.sc.nt T.flex.isSome), .call T.cpl [.tmp 7], none⟩, ⟨some 6, .mv (.tmp (T.t2 + 1 + T.sc.nt T.flex.isSome)), none⟩], .ret])) (postC [.tmp 6] fun e w' => Mod [b0] w0 w' ∧
      match T.sc.dec D ver (T.x ver) s with
      | none => e = .returned (.iface Te ve)
      | some (gs, s) => e = .returned (errVal s.bad Te ve) ∧ ∃ css, RepL [b0] w' gs css ∧ css.flatten.length = T.sc.dcs.flatten.length ∧ Blk w' b0 (.int .i16 ver :: css.flatten)) σ' w := by
    intro σ1 a1 h9
    simp only [List.cons_append, List.nil_append, wpL]
    refine cpF_wp (by omega) fun σ2 a2 v2 => ?_
    simp only [thenC]
    have a2' : ∀ j, j < T.nv - 1 → j ≠ 9 → σ2 j = σ j := fun j hj hne => by rw [a2 j (by omega) (by omega), a1 j (by omega) hne]
    have hE : RV.Env T.env T.nv rb u (T.x ver) ver σ2 := by
      refine ⟨by simp only [Top.env]; omega, by simp only [Top.env]; omega, fun hf => ?_, by simp only [Top.env]; omega, ?_, ?_, ?_, fun hf => ?_, fun hf => ?_⟩
      · simp only [Top.env] at hf ⊢; unfold Top.nv; rw [if_pos hf]; omega
      · exact (a2' 7 (by omega) (by omega)).trans h7
      · exact (a2' 8 (by omega) (by omega)).trans h8
      · exact (a2' 2 (by omega) (by omega)).trans h2
      · have hn : T.nv = 11 := by unfold Top.nv; rw [if_pos (show T.flex.isSome = true from hf)]
        show σ2 9 = _
        rw [a2 9 (by omega) (by omega)]; exact h9 hf
      · unfold Top.x; cases hfl : T.flex with
        | none => rfl
        | some n => simp only [Top.env, hfl, Option.isSome_some] at hf; exact absurd hf (by simp)
    rw [wpL_append]
    have hs := T.sc.sound (E := T.env) (g := g) (rb := rb) (Te := Te) (ve := ve) (u := u) (x := T.x ver) (ver := ver) hT.ok hT.cpl hT.short
    refine hs (T.nv - 1) 1 T.nv (T.t2 + 1) 0 b0 0 [b0] s [.int .i16 ver] [] σ2 w _ (hT.sc _ fun hf => by unfold Top.x; rw [hf]) hE (by omega) (by omega) ?_ (by simp) hr (by simpa using hrb) (by simp)
      (fun y hy => by simp only [List.mem_singleton] at hy; subst hy; exact hb.lt) hg (by simp [hgb, hgr]) (by simpa using hb) ?_
    · rw [v2, a1 _ (by omega) (by omega)]; exact h0
    · have hdrop : ∀ {w'}, Mod [rb, b0] w w' → Mod [b0] w0 w' := fun h => Mod.drop (b := rb) ((hw0.mono (by simp)).trans h) hfr
      cases hd : T.sc.dec D ver (T.x ver) s with
      | none =>
        intro σ' w' hm' hret
        have hret : σ' 6 = .iface Te ve := hret
        simp only [thenC, postC, rvals, List.mapM_cons, List.mapM_nil, RV.val, hret, Option.bind_eq_bind, Option.bind_some, Option.pure_def, tup_one]
        exact ⟨hdrop hm', trivial⟩
      | some q =>
        obtain ⟨gs, s'⟩ := q
        intro σ' w' css a' hm' hr' hrep hl' hb'
        have h7' : σ' 7 = .pointer (some ⟨rb, 0, none⟩) := (a' 7 (by omega)).trans ((a2' 7 (by omega) (by omega)).trans h7)
        have hg' : GErr g w' Te ve := cell_mod hg hm' (by simp [hgb, hgr])
        simp only [thenC, wpL, wpC, wpR, RI.wp, gOk, if_true, RK.run, ev, updo, List.map_cons, List.map_nil, h7']
        refine (hT.cpl [b0] w' rb s' Te ve hr' hg').mono ?_
        rintro e w2 ⟨rfl, rfl⟩
        refine ⟨_, rfl, ?_⟩
        simp only [thenC, postC, rvals, List.mapM_cons, List.mapM_nil, RV.val, upd, if_true, Option.bind_eq_bind, Option.bind_some, Option.pure_def, tup_one]
        refine ⟨hdrop hm', trivial, css, hrep.weaken (by simp), hl', by simpa using hb'⟩
  unfold Top.flexF
  cases hf : T.flex with
  | none =>
    rw [hf] at key
    exact key σ (fun _ _ _ => rfl) (fun h => by simp at h)
  | some n =>
    rw [hf] at key
    simp only [wpL, wpC, wpR, RI.wp, gOk, if_true, RK.run, ev, updo, thenC, upd_same]
    have hx : T.x ver = decide (ver ≥ n) := by unfold Top.x; rw [hf]
    simp only [upd, show (8 : Nat) ≠ T.t1 + 5 by omega, if_false, if_true, h8, isShift, decide_true, Bool.or_true, intBin]
    refine key _ ?_ ?_
    · intro j hj hne
      simp only [upd, hne, show j ≠ T.t1 + 5 by omega, show j ≠ T.t1 + 6 by omega, show j ≠ T.t1 + 7 by omega, if_false]
    · intro _
      simp only [upd, show (9 : Nat) ≠ T.t1 + 7 by omega, if_false, if_true, hx]

theorem Top.read_call {T : Top} {g : Nat} {u : Bool} (hm : P.follows .mixedOrders = true) {f : FuncId} (h : liftF P f = some T.gen) (hT : T.Ok P D g u) {w : World} {b0 : Nat} {ver : Int} {base : Option Addr} {len cap : Nat} {src : List UInt8}
    {Te : TypeId} {ve : Value} (hb : Blk w b0 (.int .i16 ver :: T.sc.dcs.flatten)) (hsrc : IsBytes w base len cap src) (hbase : ∀ a, base = some a → a.block ≠ b0 ∧ a.block < w.heap.size) (hshort : src.length ≤ 2147483647)
    (hg : GErr g w Te ve) (hgb : g ≠ b0) :
    Calls P f [.pointer (some ⟨b0, 0, none⟩), .slice base len cap, .bool u].toArray w fun e w' => Mod [b0] w w' ∧
      match T.dec D ver ⟨src, false, base.isNone⟩ with
      | none => e = .returned (.iface Te ve)
      | some ((v, gs), s) => e = .returned (errVal s.bad Te ve) ∧ ∃ css, RepL [b0] w' gs css ∧ css.flatten.length = T.sc.dcs.flatten.length ∧ Blk w' b0 (.int .i16 v :: css.flatten) := by
  have hnv10 : 10 ≤ T.nv := by unfold Top.nv; split <;> omega
  have ht0 : T.t0 = T.nv + T.sc.nv := rfl
  have ht1 : T.t0 + 4 ≤ T.t1 := by unfold Top.t1; split <;> omega
  have ht2 : T.t1 + 5 ≤ T.t2 := by unfold Top.t2; split <;> omega
  unfold Top.gen at h
  refine call_of h hm (by simp only [List.length_cons, List.length_nil]; omega) ?_
  rw [wpC_seqs]
  have s0 : args0 [.pointer (some ⟨b0, 0, none⟩), .slice base len cap, .bool u] 0 = .pointer (some ⟨b0, 0, none⟩) := rfl
  have s1 : args0 [.pointer (some ⟨b0, 0, none⟩), .slice base len cap, .bool u] 1 = .slice base len cap := rfl
  have s2 : args0 [.pointer (some ⟨b0, 0, none⟩), .slice base len cap, .bool u] 2 = .bool u := rfl
  generalize args0 [.pointer (some ⟨b0, 0, none⟩), .slice base len cap, .bool u] = σ0 at s0 s1 s2
  simp only [List.cons_append, List.nil_append, wpL]
  refine cF_wp ?_
  simp only [thenC]
  have hd := hT.dfl ver w b0 [] [] (by simpa using hb)
  refine callF_wp (v := .pointer (some ⟨b0, 0, none⟩)) (by rw [upd_ne _ _ (by omega)]; exact s0) hd ?_
  rintro e w1 ⟨rfl, hb1, hm1⟩
  refine ⟨_, rfl, fun σ1 a1 => ?_⟩
  simp only [List.nil_append, List.append_nil] at hb1
  simp only [thenC]
  refine mkRd_wp (v := .slice base len cap) (by rw [a1 _ (by omega), upd_ne _ _ (by omega)]; exact s1) rfl (by simp [Value.cells, Value.oneCell']) (by omega) fun σ2 w2 a2 v2 hb2 hm2 => ?_
  simp only [thenC]
  have a2' : ∀ j, j < T.t0 → j ≠ 6 → j ≠ 7 → σ2 j = σ0 j := fun j hj h6 h7 => by rw [a2 j (by omega) h7, a1 j (by omega), upd_ne _ _ h6]
  have hb12 : Blk w2 b0 (.int .i16 ver :: T.sc.dcs.flatten) := hb1.mod hm2 (by simp)
  have hr2 : IsRd [b0] w2 w1.heap.size ⟨src, false, base.isNone⟩ := by
    refine ⟨⟨base, len, cap, hb2, ((hsrc.mod hm1 (fun a ha => by simpa using (hbase a ha).1)).mod hm2 (by simp)), rfl, fun a ha => ⟨?_, by simpa using (hbase a ha).1, Nat.lt_of_lt_of_le (hbase a ha).2 (Nat.le_trans hm1.size hm2.size)⟩⟩, hshort⟩
    have := (hbase a ha).2; have := hm1.size; omega
  have hgl : g < w.heap.size := World.block_lt_of_cell? w ⟨g, 0, none⟩ hg
  have hg2 : GErr g w2 Te ve := cell_mod (cell_mod hg hm1 (by simpa using hgb)) hm2 (by simp)
  have hgr : g ≠ w1.heap.size := by have := hm1.size; omega
  have hbr : w1.heap.size ≠ b0 := by have := hb1.lt; omega
  rw [wpL_append]
  -- from the version on
  have key : ∀ σ3 w3 v s, (∀ j, j < T.t0 → j ≠ 6 → j ≠ 7 → σ3 j = σ0 j) → σ3 7 = .pointer (some ⟨w1.heap.size, 0, none⟩) → Blk w3 b0 (.int .i16 v :: T.sc.dcs.flatten) → IsRd [b0] w3 w1.heap.size s → GErr g w3 Te ve → Mod [b0] w w3 →
      wpL P (ldF 0 8 T.t1 0 :: .blk [⟨some (T.t1 + 4), .mv (.tmp 8), none⟩] :: T.rest) (postC [.tmp 6] fun e w' => Mod [b0] w w' ∧
        match T.sc.dec D v (T.x v) s with
        | none => e = .returned (.iface Te ve)
        | some (gs, s) => e = .returned (errVal s.bad Te ve) ∧ ∃ css, RepL [b0] w' gs css ∧ css.flatten.length = T.sc.dcs.flatten.length ∧ Blk w' b0 (.int .i16 v :: css.flatten)) σ3 w3 := by
    intro σ3 w3 v s a3 h7 hb3 hr3 hg3 hm3
    simp only [wpL]
    refine ldF_wp (v := .int .i16 v) (by rw [a3 0 (by omega) (by omega) (by omega)]; exact s0) hb3 rfl (by omega) (by omega) fun σ4 a4 v4 => ?_
    simp only [thenC]
    refine mvF_wp fun σ5 a5 => ?_
    simp only [thenC]
    have a5' : ∀ j, j < T.t0 → j ≠ 6 → j ≠ 7 → j ≠ 8 → σ5 j = σ0 j := fun j hj h6 h7 h8 => by rw [a5 j (by omega), a4 j (by omega) h8, a3 j hj h6 h7]
    refine Top.rest_wp hT hb3 hr3 hbr hg3 hgb hgr hm3 hm1.size ?_ ?_ ?_ ?_
    · rw [a5' 0 (by omega) (by omega) (by omega) (by omega)]; exact s0
    · rw [a5' 2 (by omega) (by omega) (by omega) (by omega)]; exact s2
    · rw [a5 7 (by omega), a4 7 (by omega) (by omega)]; exact h7
    · rw [a5 8 (by omega)]; exact v4
  have eQ : ∀ v s, (T.dec D ver ⟨src, false, base.isNone⟩ = match T.sc.dec D v (T.x v) s with | none => none | some (l, s2) => some ((v, l), s2)) →
      (fun (e : Ending) (w' : World) => Mod [b0] w w' ∧ match T.dec D ver ⟨src, false, base.isNone⟩ with
        | none => e = .returned (.iface Te ve)
        | some ((v, gs), s) => e = .returned (errVal s.bad Te ve) ∧ ∃ css, RepL [b0] w' gs css ∧ css.flatten.length = T.sc.dcs.flatten.length ∧ Blk w' b0 (.int .i16 v :: css.flatten)) =
      (fun e w' => Mod [b0] w w' ∧ match T.sc.dec D v (T.x v) s with
        | none => e = .returned (.iface Te ve)
        | some (gs, s) => e = .returned (errVal s.bad Te ve) ∧ ∃ css, RepL [b0] w' gs css ∧ css.flatten.length = T.sc.dcs.flatten.length ∧ Blk w' b0 (.int .i16 v :: css.flatten)) := by
    intro v s h
    funext e w'
    rw [h]
    cases T.sc.dec D v (T.x v) s <;> rfl
  cases hrv : T.rv with
  | none =>
    rw [eQ ver ⟨src, false, base.isNone⟩ (by unfold Top.dec; rw [hrv]; rfl)]
    have hv0 : T.verF = [] := by unfold Top.verF; rw [hrv]
    rw [hv0]
    simp only [wpL, thenC]
    exact key σ2 w2 ver ⟨src, false, base.isNone⟩ a2' v2 hb12 hr2 hg2 (hm1.trans hm2.nil)
  | some f =>
    rw [eQ (IntKind.i16.wrap (rdN 2 ⟨src, false, base.isNone⟩).1) (rdN 2 ⟨src, false, base.isNone⟩).2 (by unfold Top.dec; rw [hrv]; rfl)]
    have hv0 : T.verF = [rdF 0 7 (T.t0 + 4) 0 f] := by unfold Top.verF; rw [hrv]
    rw [hv0]
    simp only [wpL]
    have ht1' : T.t0 + 8 = T.t1 := by unfold Top.t1; rw [hrv]; rfl
    refine rdF_wp (S := [b0]) (pre := []) (old := [.int .i16 ver]) (post := T.sc.dcs.flatten) (hT.rv f hrv).v (by rw [a2' 0 (by omega) (by omega) (by omega)]; exact s0) v2 (by omega) (by omega) hr2 (by simpa using hbr) (by simp)
      (fun y hy => by simp only [List.mem_singleton] at hy; subst hy; exact hb12.lt) (by simpa using hb12) rfl rfl (fun O v w h => by rw [h]; exact ⟨rfl, by simp [Value.cells, Value.oneCell']⟩) fun σ3 wm w3 v a3 hv hm3 hm4 hr3 hb3 => ?_
    subst hv
    simp only [thenC]
    exact key σ3 w3 _ _ (fun j hj h6 h7 => by rw [a3 j (by omega)]; exact a2' j hj h6 h7) (by rw [a3 7 (by omega)]; exact v2) (by simpa [Value.cells] using hb3) hr3 (cell_mod (cell_mod hg2 hm3 (by simpa using hgr)) hm4 (by simpa using hgb))
      (Mod.drop (b := w1.heap.size) (S := [b0]) (((hm1.trans hm2.nil).mono (by simp)).trans ((hm3.mono (by simp)).trans (hm4.mono (by simp)))) hm1.size)

end
end Go.Msk

/-! Trees: what a message says, and how it lies in memory. -/
namespace Go.Msk
open Go.RowKit
set_option maxRecDepth 100000

inductive TR where
  | mk (n : Int) (s : List UInt8) (null : Bool) (l : List TR) (u : List (Nat × List UInt8))
  deriving Inhabited

/-- The cells of unknown tags. -/
inductive RepU (ok : Nat → Prop) (w : World) : List (Nat × List UInt8) → List (List Value) → Prop
  | nil : RepU ok w [] []
  | cons {k : Nat} {b : List UInt8} {u : List (Nat × List UInt8)} {v : Value} {css : List (List Value)} : SlC ok w v b.length (u8s b) → RepU ok w u css → RepU ok w ((k, b) :: u) ([.int .u32 k, v] :: css)

mutual
inductive RepT (ok : Nat → Prop) (w : World) : TR → List Value → Prop
  | mk {n : Int} {s : List UInt8} {null : Bool} {l : List TR} {u : List (Nat × List UInt8)} {sv lv uv : Value} {css uss : List (List Value)} : SlC ok w sv s.length (u8s s) → SlC ok w lv l.length css.flatten → RepTL ok w l css →
      SlC ok w uv u.length uss.flatten → RepU ok w u uss → RepT ok w (.mk n s null l u) [.int .i64 n, sv, .bool null, lv, uv]
inductive RepTL (ok : Nat → Prop) (w : World) : List TR → List (List Value) → Prop
  | nil : RepTL ok w [] []
  | cons {t : TR} {l : List TR} {cs : List Value} {css : List (List Value)} : RepT ok w t cs → RepTL ok w l css → RepTL ok w (t :: l) (cs :: css)
end

theorem RepU.mod {ok ok' : Nat → Prop} {S : List Nat} {w w' : World} {u : List (Nat × List UInt8)} {css : List (List Value)} (h : RepU ok w u css) (hm : Mod S w w') (hS : ∀ b ∈ S, ¬ ok b) (ho : ∀ b, b < w.heap.size → ok b → ok' b) : RepU ok' w' u css := by
  induction h with
  | nil => exact .nil
  | cons h _ ih => exact .cons (h.mod hm hS ho) ih

theorem RepT.mod {ok ok' : Nat → Prop} {S : List Nat} {w w' : World} (hm : Mod S w w') (hS : ∀ b ∈ S, ¬ ok b) (ho : ∀ b, b < w.heap.size → ok b → ok' b) {t : TR} {cs : List Value} (h : RepT ok w t cs) : RepT ok' w' t cs := by
  refine RepT.rec (motive_1 := fun t cs _ => RepT ok' w' t cs) (motive_2 := fun l css _ => RepTL ok' w' l css) ?_ ?_ ?_ h
  · intro n s null l u sv lv uv css uss h1 h2 _ h4 h5 ih
    exact .mk (h1.mod hm hS ho) (h2.mod hm hS ho) ih (h4.mod hm hS ho) (h5.mod hm hS ho)
  · exact .nil
  · intro t l cs css _ _ ih1 ih2; exact .cons ih1 ih2

theorem RepTL.mod {ok ok' : Nat → Prop} {S : List Nat} {w w' : World} (hm : Mod S w w') (hS : ∀ b ∈ S, ¬ ok b) (ho : ∀ b, b < w.heap.size → ok b → ok' b) {l : List TR} {css : List (List Value)} (h : RepTL ok w l css) : RepTL ok' w' l css := by
  induction l generalizing css with
  | nil => cases h; exact .nil
  | cons t l ih => cases h with | cons h1 h2 => exact .cons (h1.mod hm hS ho) (ih h2)

theorem RepTL.append {ok : Nat → Prop} {w : World} {l l' : List TR} {css css' : List (List Value)} (h : RepTL ok w l css) (h' : RepTL ok w l' css') : RepTL ok w (l ++ l') (css ++ css') := by
  induction l generalizing css with
  | nil => cases h; exact h'
  | cons g l ih => cases h with | cons h1 h2 => exact .cons h1 (ih h2)

theorem RepTL.length {ok : Nat → Prop} {w : World} {l : List TR} {css : List (List Value)} (h : RepTL ok w l css) : l.length = css.length := by
  induction l generalizing css with
  | nil => cases h; rfl
  | cons g l ih => cases h with | cons h1 h2 => simp [ih h2]

theorem RepT.five {ok : Nat → Prop} {w : World} {t : TR} {cs : List Value} (h : RepT ok w t cs) : cs.length = 5 := by cases h; rfl
theorem RepTL.five {ok : Nat → Prop} {w : World} {l : List TR} {css : List (List Value)} (h : RepTL ok w l css) : ∀ cs ∈ css, cs.length = 5 := by
  induction l generalizing css with
  | nil => cases h; simp
  | cons g l ih =>
    cases h with
    | cons h1 h2 =>
      intro cs hc
      rcases List.mem_cons.1 hc with rfl | hc
      · exact h1.five
      · exact ih h2 cs hc

theorem RepT.oneCell {ok : Nat → Prop} {w : World} {t : TR} {cs : List Value} (h : RepT ok w t cs) : ∀ v ∈ cs, v.oneCell' = true := by
  cases h with
  | mk h1 h2 h3 h4 h5 =>
    intro v hv
    simp only [List.mem_cons, List.not_mem_nil, or_false] at hv
    rcases hv with rfl | rfl | rfl | rfl | rfl
    · rfl
    · exact h1.one
    · rfl
    · exact h2.one
    · exact h4.one

/-- Nothing. -/
def TR.zero : TR := .mk 0 [] false [] []
def tzero : List Value := [.int .i64 0, .slice none 0 0, .bool false, .slice none 0 0, .slice none 0 0]

theorem RepT.num {ok : Nat → Prop} {w : World} (n : Int) (b : Bool) : RepT ok w (.mk n [] b [] []) [.int .i64 n, .slice none 0 0, .bool b, .slice none 0 0, .slice none 0 0] :=
  .mk (css := []) (uss := []) SlC.nil SlC.nil .nil SlC.nil .nil

theorem RepT.zero {ok : Nat → Prop} {w : World} : RepT ok w TR.zero tzero := .num 0 false

theorem RepT.oct {ok : Nat → Prop} {w : World} {v : Value} {s : List UInt8} (b : Bool) (h : SlC ok w v s.length (u8s s)) : RepT ok w (.mk 0 s b [] []) [.int .i64 0, v, .bool b, .slice none 0 0, .slice none 0 0] :=
  .mk (css := []) (uss := []) h SlC.nil .nil SlC.nil .nil

/-- A function that hands back a tree, all of it new. -/
def TellC (P : Program) (f : FuncId) (args : List Value) (w : World) (t : TR) : Prop :=
  Calls P f args.toArray w fun e w' => ∃ cs, e = .returned (.agg cs.toArray) ∧ RepT (fun b => w.heap.size ≤ b) w' t cs ∧ Mod [] w w'

/-- Tags by rising numbers (the numbers differ). -/
def insT (k : Nat) (l : List UInt8) : List (Nat × List UInt8) → List (Nat × List UInt8)
  | [] => [(k, l)]
  | (k', l') :: m => if k < k' then (k, l) :: (k', l') :: m else (k', l') :: insT k l m
def sortT : List (Nat × List UInt8) → List (Nat × List UInt8)
  | [] => []
  | (k, l) :: m => insT k l (sortT m)

/-- The unknown tags of a struct. -/
def GV.tagsF : List GV → List (Nat × List UInt8)
  | [] => []
  | .tag m :: _ => sortT m
  | _ :: l => GV.tagsF l

mutual
/-- What a value is told as. -/
def GV.told : GV → TR
  | .num (.int _ n) => .mk (IntKind.i64.wrap n) [] false [] []
  | .num (.bool b) => .mk (if b then 1 else 0) [] false [] []
  | .num (.string s) => .mk 0 s.data.toList false [] []
  | .num _ => .zero
  | .nstr none => .mk 0 [] true [] []
  | .nstr (some l) => .mk 0 l false [] []
  | .byt none => .mk 0 [] true [] []
  | .byt (some l) => .mk 0 l false [] []
  | .arr l => .mk 0 l false [] []
  | .lst isnil _ l => .mk 0 [] isnil (GV.toldL l) []
  | .rcd l => .mk 0 [] false (GV.toldF l) (GV.tagsF l)
  | .tag _ => .zero
def GV.toldL : List GV → List TR
  | [] => []
  | g :: l => g.told :: GV.toldL l
/-- The fields, but for the unknown tags. -/
def GV.toldF : List GV → List TR
  | [] => []
  | g :: l => match g with
    | .tag _ => GV.toldF l
    | g => g.told :: GV.toldF l
end

theorem GV.toldL_map (l : List GV) : GV.toldL l = l.map GV.told := by
  induction l with
  | nil => simp [GV.toldL]
  | cons g l ih => simp [GV.toldL, ih]

theorem GV.toldF_cons {g : GV} {l : List GV} (h : ∀ m, g ≠ .tag m) : GV.toldF (g :: l) = g.told :: GV.toldF l := by
  cases g with
  | tag m => exact absurd rfl (h m)
  | _ => simp only [GV.toldF]

end Go.Msk

/-! Telling: the fields of a struct, each into its place of a tree. -/
namespace Go.Msk
open Go.RowKit
set_option maxRecDepth 100000

/-- What a reading refers to is there, and so is no block that is made later. -/
theorem Rep.fresh {O O' T : List Nat} {w w' : World} (hm : Mod T w w') (hT : ∀ x ∈ T, x ∈ O ∨ w.heap.size ≤ x) (hO : ∀ x ∈ O', x ∈ O ∨ w.heap.size ≤ x) {g : GV} {cs : List Value} (h : Rep O w g cs) : Rep O' w' g cs := by
  have hcell : ∀ {a : Addr} {v : Value}, w.cell? a = some v → a.block ∉ O → w'.cell? a = some v := by
    intro a v hc hn
    exact cell_mod hc hm fun hx => (hT _ hx).elim hn fun hge => by have := World.block_lt_of_cell? w a hc; omega
  refine Rep.rec (motive_1 := fun g cs _ => Rep O' w' g cs) (motive_2 := fun l css _ => RepL O' w' l css) ?_ ?_ ?_ ?_ ?_ ?_ ?_ ?_ ?_ ?_ ?_ ?_ h
  · intro v hv; exact .num hv
  · exact .nstr0
  · intro b l hb hc
    refine .nstr1 (fun hx => (hO _ hx).elim hb fun hge => ?_) (hcell hc hb)
    have := World.block_lt_of_cell? w ⟨b, 0, none⟩ hc
    simp only at this; omega
  · intro v o ho
    refine .byt ⟨?_, fun a n c e => ⟨fun hx => (hO _ hx).elim (ho.2 a n c e).1 fun hge => by have := (ho.2 a n c e).2; omega, Nat.lt_of_lt_of_le (ho.2 a n c e).2 hm.size⟩⟩
    obtain ⟨h1, h2⟩ := ho
    cases o with
    | none => exact h1
    | some l =>
      obtain ⟨a, n, c, rfl, hb⟩ := h1
      exact ⟨a, n, c, rfl, hb.mod hm (fun a' e hc => by cases e; exact (hT _ hc).elim (h2 a n c rfl).1 fun hge => by have := (h2 a n c rfl).2; omega)⟩
  · intro l; exact .arr
  · intro sz; exact .lst0
  · intro a n c sz l css ha hlt hn hc hsz _ hcells ih
    exact .lst1 (fun hx => (hO _ hx).elim ha fun hge => by omega) (Nat.lt_of_lt_of_le hlt hm.size) hn hc hsz ih (hcells.mod hm (.inr fun hx => (hT _ hx).elim ha fun hge => by omega))
  · intro l css _ ih; exact .rcd ih
  · exact .tag0
  · intro r m hr h
    have hlt := h.lt
    have h2 : MapRep (fun b => b ∉ O ∧ b < w.heap.size) w r m := h.mod (Mod.refl [] _) (by simp) (by simp) fun b hb hx => ⟨hx, hb⟩
    exact .tag1 (fun hx => (hO _ hx).elim hr fun hge => by omega) (h2.mod hm (fun hx => (hT _ hx).elim hr fun hge => by omega) (fun b hb hx => (hT _ hb).elim hx.1 fun hge => by omega)
      fun b _ hx hy => (hO _ hy).elim hx.1 fun hge => by omega)
  · exact .nil
  · intro g l cs css _ _ ih1 ih2; exact .cons ih1 ih2

theorem RepL.fresh {O O' T : List Nat} {w w' : World} (hm : Mod T w w') (hT : ∀ x ∈ T, x ∈ O ∨ w.heap.size ≤ x) (hO : ∀ x ∈ O', x ∈ O ∨ w.heap.size ≤ x) {l : List GV} {css : List (List Value)} (h : RepL O w l css) : RepL O' w' l css := by
  induction l generalizing css with
  | nil => cases h; exact .nil
  | cons g l ih => cases h with | cons h1 h2 => exact .cons (h1.fresh hm hT hO) (ih h2)

/-- Kinds of told fields. -/
inductive TK where
  | num (conv : Bool)
  | str
  | boo (f : FuncId)
  | txt (f : FuncId)
  | oct (f : FuncId)
  deriving Inhabited

def TK.ty : TK → GV → Prop
  | .num true, g => ∃ k n, g = .num (.int k n)
  | .num false, g => ∃ n, g = .num (.int .i64 n) ∧ IntKind.i64.wrap n = n
  | .str, g => ∃ l, g = .num (Msk.str l)
  | .boo _, g => ∃ b, g = .num (.bool b)
  | .txt _, g => ∃ o, g = .nstr o
  | .oct _, g => ∃ o, g = .byt o ∧ ∀ l, o = some l → l.length ≤ 2147483647

theorem TK.ty_tag {k : TK} {m : List (Nat × List UInt8)} (h : k.ty (.tag m)) : False := by
  cases k with
  | num c => cases c <;> simp [TK.ty] at h
  | _ => simp [TK.ty] at h

theorem TK.one {k : TK} {g : GV} {O : List Nat} {w : World} {cs : List Value} (h : k.ty g) (hr : Rep O w g cs) : cs.length = 1 := by
  cases k with
  | num c =>
    cases c with
    | true => obtain ⟨_, _, rfl⟩ := h; cases hr; rfl
    | false => obtain ⟨_, rfl, -⟩ := h; cases hr; rfl
  | str => obtain ⟨_, rfl⟩ := h; cases hr; rfl
  | boo f => obtain ⟨_, rfl⟩ := h; cases hr; rfl
  | txt f => obtain ⟨_, rfl⟩ := h; cases hr <;> rfl
  | oct f => obtain ⟨_, rfl, -⟩ := h; cases hr; rfl

/-- What is asked of the function that the kind calls. -/
def TK.Ok (P : Program) : TK → Prop
  | .num _ => True
  | .str => True
  | k@(.boo f) | k@(.txt f) | k@(.oct f) => ∀ O w g v, k.ty g → Rep O w g [v] → TellC P f [v] w g.told

/-- How many slots the field's region has. -/
def TK.nt : TK → Nat
  | .num true => 9
  | .num false => 8
  | .str => 9
  | _ => 8

def nd (r : RI) : DI := ⟨r, false, []⟩

/-- The region's head: the tree's fields, the struct's field. -/
def headD (t off : Nat) : List DI :=
  [nd ⟨some t, .fad (.tmp 3) 3, none⟩, nd ⟨some (t + 1), .ld (.tmp t), none⟩, nd ⟨some (t + 2), .mv (.tmp 0), none⟩, nd ⟨some (t + 3), .nilc (.tmp (t + 2)), none⟩, nd ⟨some (t + 4), .fad (.tmp (t + 3)) off, none⟩, nd ⟨some (t + 5), .ld (.tmp (t + 4)), none⟩]

def TK.gen (i t off : Nat) : TK → IC
  | .num true => .drw (headD t off ++ [nd ⟨some (t + 6), .conv .i64 (.tmp (t + 5)), none⟩, nd ⟨some (t + 7), .build tzero [(0, 1, .tmp (t + 6))], none⟩, nd ⟨some (t + 8), .iad (.tmp (t + 1)) (.const (.int .i64 i)) 5, none⟩])
      [⟨none, .st (.tmp (t + 8)) 5 (.tmp (t + 7)), none⟩]
  | .num false => .drw (headD t off ++ [nd ⟨some (t + 6), .build tzero [(0, 1, .tmp (t + 5))], none⟩, nd ⟨some (t + 7), .iad (.tmp (t + 1)) (.const (.int .i64 i)) 5, none⟩])
      [⟨none, .st (.tmp (t + 7)) 5 (.tmp (t + 6)), none⟩]
  | .str => .drw (headD t off ++ [⟨⟨some (t + 6), .s2b (.tmp (t + 5)), none⟩, true, []⟩, ⟨⟨some (t + 7), .build tzero [(1, 1, .tmp (t + 6))], none⟩, false, [6]⟩, ⟨⟨some (t + 8), .iad (.tmp (t + 1)) (.const (.int .i64 i)) 5, none⟩, false, [6]⟩])
      [⟨none, .st (.tmp (t + 8)) 5 (.tmp (t + 7)), none⟩]
  | .boo f | .txt f | .oct f => .drw (headD t off ++ [⟨⟨some (t + 6), .call f [.tmp (t + 5)], none⟩, true, []⟩, ⟨⟨some (t + 7), .iad (.tmp (t + 1)) (.const (.int .i64 i)) 5, none⟩, false, [6]⟩])
      [⟨none, .st (.tmp (t + 7)) 5 (.tmp (t + 6)), none⟩]

section
variable {P : Program}




/-- The values along the head. -/
theorem head_vals {t off Tb Lb n B base : Nat} {σ : Sl} {w : World} {v : Value} (ht : 4 ≤ t)
    (h0 : σ 0 = .pointer (some ⟨B, base, none⟩)) (h3 : σ 3 = .pointer (some ⟨Tb, 0, none⟩)) (c3 : w.cell? ⟨Tb, 3, none⟩ = some (.slice (some ⟨Lb, 0, none⟩) n n)) (hc : w.cell? ⟨B, base + off, none⟩ = some v) :
    ∃ v0 v1 v2 v3 v4, (RK.fad (.tmp 3) 3).val? σ w = some v0 ∧ (RK.ld (.tmp t)).val? (upd σ t v0) w = some v1 ∧ (RK.mv (.tmp 0)).val? (upd (upd σ t v0) (t + 1) v1) w = some v2 ∧
      (RK.nilc (.tmp (t + 2))).val? (upd (upd (upd σ t v0) (t + 1) v1) (t + 2) v2) w = some v3 ∧ (RK.fad (.tmp (t + 3)) off).val? (upd (upd (upd (upd σ t v0) (t + 1) v1) (t + 2) v2) (t + 3) v3) w = some v4 ∧
      (RK.ld (.tmp (t + 4))).val? (upd (upd (upd (upd (upd σ t v0) (t + 1) v1) (t + 2) v2) (t + 3) v3) (t + 4) v4) w = some v ∧
      Ag t σ (upd (upd (upd (upd (upd (upd σ t v0) (t + 1) v1) (t + 2) v2) (t + 3) v3) (t + 4) v4) (t + 5) v) ∧
      (upd (upd (upd (upd (upd (upd σ t v0) (t + 1) v1) (t + 2) v2) (t + 3) v3) (t + 4) v4) (t + 5) v) (t + 1) = .slice (some ⟨Lb, 0, none⟩) n n ∧
      (upd (upd (upd (upd (upd (upd σ t v0) (t + 1) v1) (t + 2) v2) (t + 3) v3) (t + 4) v4) (t + 5) v) (t + 5) = v := by
  refine ⟨.pointer (some ⟨Tb, 3, none⟩), .slice (some ⟨Lb, 0, none⟩) n n, .pointer (some ⟨B, base, none⟩), .pointer (some ⟨B, base, none⟩), .pointer (some ⟨B, base + off, none⟩), ?_, ?_, ?_, ?_, ?_, ?_, ?_, ?_, ?_⟩
  · simp only [RK.val?, ev, h3, Addr.add_mk, Nat.zero_add]
  · simp only [RK.val?, ev, upd_same, c3]
  · simp only [RK.val?, ev, upd, show (0 : Nat) ≠ t by omega, show (0 : Nat) ≠ t + 1 by omega, if_false, h0]
  · simp only [RK.val?, ev, upd_same]
  · simp only [RK.val?, ev, upd_same, Addr.add_mk]
  · simp only [RK.val?, ev, upd_same, hc]
  · intro j hj
    simp only [upd, show j ≠ t by omega, show j ≠ t + 1 by omega, show j ≠ t + 2 by omega, show j ≠ t + 3 by omega, show j ≠ t + 4 by omega, show j ≠ t + 5 by omega, if_false]
  · simp only [upd, show t + 1 ≠ t + 5 by omega, show t + 1 ≠ t + 4 by omega, show t + 1 ≠ t + 3 by omega, show t + 1 ≠ t + 2 by omega, if_false, if_true]
  · simp only [upd_same]

theorem head_wpR {t off Tb Lb n B base : Nat} {σ : Sl} {w : World} {v : Value} {r : List DI} {sk : List RI} {Q : Sl → World → Prop} (ht : 4 ≤ t)
    (h0 : σ 0 = .pointer (some ⟨B, base, none⟩)) (h3 : σ 3 = .pointer (some ⟨Tb, 0, none⟩)) (c3 : w.cell? ⟨Tb, 3, none⟩ = some (.slice (some ⟨Lb, 0, none⟩) n n)) (hc : w.cell? ⟨B, base + off, none⟩ = some v)
    (h : ∀ σ', Ag t σ σ' → σ' (t + 1) = .slice (some ⟨Lb, 0, none⟩) n n → σ' (t + 5) = v → wpR P (r.map (·.ri) ++ sk) σ' w Q) : wpR P ((headD t off ++ r).map (·.ri) ++ sk) σ w Q := by
  obtain ⟨v0, v1, v2, v3, v4, e0, e1, e2, e3, e4, e5, e6, e7, e8⟩ := head_vals (v := v) ht h0 h3 c3 hc
  simp only [headD, nd, List.cons_append, List.nil_append, List.map_cons]
  refine wpR_step e0 (wpR_step e1 (wpR_step e2 (wpR_step e3 (wpR_step e4 (wpR_step e5 ?_)))))
  exact h _ e6 e7 e8

theorem head_walkB {t off Tb Lb n B base : Nat} {σ : Sl} {w : World} {v : Value} {r l : List DI} {Φ : Nat → Value → World → Prop} {E : Sl → Prop} (ht : 4 ≤ t)
    (h0 : σ 0 = .pointer (some ⟨B, base, none⟩)) (h3 : σ 3 = .pointer (some ⟨Tb, 0, none⟩)) (c3 : w.cell? ⟨Tb, 3, none⟩ = some (.slice (some ⟨Lb, 0, none⟩) n n)) (hc : w.cell? ⟨B, base + off, none⟩ = some v)
    (h : ∀ σ', Ag t σ σ' → σ' (t + 1) = .slice (some ⟨Lb, 0, none⟩) n n → σ' (t + 5) = v → walkB P l Φ w E 6 r σ') : walkB P l Φ w E 0 (headD t off ++ r) σ := by
  obtain ⟨v0, v1, v2, v3, v4, e0, e1, e2, e3, e4, e5, e6, e7, e8⟩ := head_vals (v := v) ht h0 h3 c3 hc
  simp only [headD, nd, List.cons_append, List.nil_append]
  refine walkB_step e0 (walkB_step e1 (walkB_step e2 (walkB_step e3 (walkB_step e4 (walkB_step e5 ?_)))))
  exact h _ e6 e7 e8

theorem Blk.new' (w : World) (cs : List Value) (T : TypeId) (fr : Nat × Nat) (h : cs.length ≤ fr.1) : Blk (w.alloc (.cells cs.toArray T fr)) w.heap.size cs :=
  ⟨T, fr, by show (w.heap.push _)[w.heap.size]? = _; simp, .inr h⟩

/-- The tree under way: its own cell, its fields' block. -/
structure TW (w : World) (Tb Lb n : Nat) (cs : List Value) : Prop where
  tb : Blk w Tb [.int .i64 0, .slice none 0 0, .bool false, .slice (some ⟨Lb, 0, none⟩) n n, .slice none 0 0]
  lb : Blk w Lb cs
  ne : Tb ≠ Lb

theorem TK.wp {k : TK} (hk : k.Ok P) {i t off Tb Lb n B base : Nat} {O : List Nat} {pre post : List Value} {g : GV} {v : Value} {σ : Sl} {w : World} {Q : Exit → Sl → World → Prop} (ht : 4 ≤ t)
    (h0 : σ 0 = .pointer (some ⟨B, base, none⟩)) (h3 : σ 3 = .pointer (some ⟨Tb, 0, none⟩)) (hw : TW w Tb Lb n (pre ++ (tzero ++ post))) (hpre : pre.length = i * 5) (hi : i < n)
    (hg : k.ty g) (hr : Rep O w g [v]) (hc : w.cell? ⟨B, base + off, none⟩ = some v)
    (hQ : ∀ σ' w' cs, Ag t σ σ' → Mod [Lb] w w' → RepT (fun b => w.heap.size ≤ b) w' g.told cs → TW w' Tb Lb n (pre ++ (cs ++ post)) → Q .normal σ' w') : wpC P (k.gen i t off) Q σ w := by
  have c3 : w.cell? ⟨Tb, 3, none⟩ = some (.slice (some ⟨Lb, 0, none⟩) n n) := hw.tb.cell 3
  have c3' : w.drew.cell? ⟨Tb, 3, none⟩ = some (.slice (some ⟨Lb, 0, none⟩) n n) := c3
  have hc' : w.drew.cell? ⟨B, base + off, none⟩ = some v := hc
  have hst : ∀ (w1 : World) (cs : List Value), Mod [] w w1 → RepT (fun b => w.heap.size ≤ b) w1 g.told cs →
      StOk w1 ⟨Lb, i * 5, none⟩ cs ∧ ∀ σ', Ag t σ σ' → Q .normal σ' (putCells w1 ⟨Lb, i * 5, none⟩ 0 cs) := by
    intro w1 cs hm hrep
    have hlb1 : Blk w1 Lb (pre ++ (tzero ++ post)) := hw.lb.mod hm (by simp)
    have h5 := hrep.five
    have hput : Mod [Lb] w1 (putCells w1 ⟨Lb, i * 5, none⟩ 0 cs) := Mod.put (by simp)
    refine ⟨stOk_many hlb1 (by simp [tzero]; omega) hrep.oneCell, fun σ' ha => hQ σ' _ cs ha (hm.nil.trans hput) (hrep.mod hput (fun b hb => ?_) fun _ _ h => h) ⟨?_, ?_, hw.ne⟩⟩
    · simp only [List.mem_singleton] at hb; subst hb; have := hw.lb.lt; omega
    · exact (hw.tb.mod hm (by simp)).mod hput (by simpa using hw.ne)
    · have := hlb1.put (o := i * 5) (vs := cs) (by simp [tzero]; omega)
      rwa [splice_mid hpre (by simp [h5, tzero])] at this
  have callK : ∀ (f : FuncId) (k' : TK), k'.gen i t off = .drw (headD t off ++ [⟨⟨some (t + 6), .call f [.tmp (t + 5)], none⟩, true, []⟩, ⟨⟨some (t + 7), .iad (.tmp (t + 1)) (.const (.int .i64 i)) 5, none⟩, false, [6]⟩])
      [⟨none, .st (.tmp (t + 7)) 5 (.tmp (t + 6)), none⟩] → (∀ O w g v, k.ty g → Rep O w g [v] → TellC P f [v] w g.told) → wpC P (k'.gen i t off) Q σ w := by
    intro f k' hgen hf
    rw [hgen]
    simp only [wpC]
    refine wpD_of_B (fun _ v w1 => ∃ cs, v = .agg cs.toArray ∧ RepT (fun b => w.heap.size ≤ b) w1 g.told cs) (fun _ v w1 w2 h hm => ?_) (head_walkB ht h0 h3 c3' hc' fun σ1 a1 s1 s5 => ?_)
    · obtain ⟨cs, h1, h2⟩ := h
      exact ⟨cs, h1, h2.mod hm (by simp) fun _ _ h => h⟩
    refine walkB_node (fun w1 hm1 _ => ?_) fun u hu => ?_
    · simp only [RK.run, ev, s5, List.map_cons, List.map_nil]
      have hm1' : Mod [] w w1 := (Mod.drew _ _).trans hm1
      refine (hf O w1 g v hg (hr.fresh hm1' (by simp) (fun x hx => .inl hx))).mono ?_
      rintro e w2 ⟨cs, rfl, hrep, hm2⟩
      exact ⟨_, rfl, hm2, cs, rfl, hrep.mod (Mod.refl [] _) (by simp) fun b _ hb => Nat.le_trans hm1'.size hb⟩
    obtain ⟨wu, cs, rfl, hcs⟩ := hu
    refine walkB_step (v := .pointer (some ⟨Lb, i * 5, none⟩)) (by
        simp only [RK.val?, ev, updo, upd, show t + 1 ≠ t + 6 by omega, if_false, s1]
        rw [if_pos (by omega)]; simp [Addr.add_mk]) ?_
    simp only [walkB]
    intro w1 hm1 hkn
    have h6 := hkn 6 (by simp [headD]) ⟨⟨some (t + 6), .call f [.tmp (t + 5)], none⟩, true, []⟩ (by simp [headD]) rfl rfl (t + 6) rfl
    simp only [updo, upd, show t + 6 ≠ t + 7 by omega, if_false, if_true] at h6
    obtain ⟨cs', e1, h6⟩ := h6
    have e2 : cs = cs' := by
      have := congrArg (fun v => match v with | Value.agg a => a.toList | _ => []) e1
      simpa using this
    subst e2
    obtain ⟨k1, k2⟩ := hst w1 _ ((Mod.drew _ _).trans hm1) h6
    simp only [wpR, RI.wp, gOk, if_true, RK.run, ev, updo, upd_same]
    have e7 : ∀ x, upd (upd σ1 (t + 6) x) (t + 7) (.pointer (some ⟨Lb, i * 5, none⟩)) (t + 6) = x := fun x => by
      simp only [upd, show t + 6 ≠ t + 7 by omega, if_false, if_true]
    rw [e7]
    have hag : Ag t σ (upd (upd σ1 (t + 6) (Value.agg cs.toArray)) (t + 7) (.pointer (some ⟨Lb, i * 5, none⟩))) := fun j hj => by
      simp only [upd, show j ≠ t + 6 by omega, show j ≠ t + 7 by omega, if_false]
      exact a1 j hj
    exact ⟨by simp [Value.cells, hcs.five], by simpa [Value.cells] using k1, by simpa [Value.cells] using k2 _ hag⟩
  cases k with
  | num c =>
    cases c with
    | true =>
      obtain ⟨k, m, rfl⟩ := hg
      have hv : v = .int k m := by cases hr; rfl
      subst hv
      simp only [TK.gen, wpC]
      refine wpD_pure rfl (head_wpR ht h0 h3 c3' hc' fun σ1 a1 s1 s5 => ?_)
      obtain ⟨k1, k2⟩ := hst w.drew _ (Mod.drew _ _) (RepT.num (IntKind.i64.wrap m) false)
      simp only [nd, List.map_cons, List.map_nil, List.cons_append, List.nil_append]
      refine wpR_step (v := .int .i64 (IntKind.i64.wrap m)) (by simp only [RK.val?, ev, s5]) ?_
      refine wpR_step (v := .agg #[.int .i64 (IntKind.i64.wrap m), .slice none 0 0, .bool false, .slice none 0 0, .slice none 0 0]) (by simp only [RK.val?, ev, updo, upd_same, tzero, fillL, List.map_cons, List.map_nil, Value.cells]; simp [splice, fillL]) ?_
      refine wpR_step (v := .pointer (some ⟨Lb, i * 5, none⟩)) (by
        simp only [RK.val?, ev, updo, upd, show t + 1 ≠ t + 7 by omega, show t + 1 ≠ t + 6 by omega, if_false, s1]
        rw [if_pos (by omega)]; simp [Addr.add_mk]) ?_
      simp only [wpR, RI.wp, gOk, if_true, RK.run, ev, updo, upd_same]
      have e7 : ∀ x, upd (upd (upd σ1 (t + 6) (Value.int .i64 (IntKind.i64.wrap m))) (t + 7) x) (t + 8) (.pointer (some ⟨Lb, i * 5, none⟩)) (t + 7) = x := fun x => by
        simp only [upd, show t + 7 ≠ t + 8 by omega, if_false, if_true]
      rw [e7]
      refine ⟨rfl, k1, k2 _ fun j hj => ?_⟩
      simp only [upd, show j ≠ t + 6 by omega, show j ≠ t + 7 by omega, show j ≠ t + 8 by omega, if_false]
      exact a1 j hj
    | false =>
      obtain ⟨m, rfl, hm⟩ := hg
      have hv : v = .int .i64 m := by cases hr; rfl
      subst hv
      simp only [TK.gen, wpC]
      refine wpD_pure rfl (head_wpR ht h0 h3 c3' hc' fun σ1 a1 s1 s5 => ?_)
      obtain ⟨k1, k2⟩ := hst w.drew _ (Mod.drew _ _) (RepT.num (IntKind.i64.wrap m) false)
      simp only [nd, List.map_cons, List.map_nil, List.cons_append, List.nil_append]
      refine wpR_step (v := .agg #[.int .i64 (IntKind.i64.wrap m), .slice none 0 0, .bool false, .slice none 0 0, .slice none 0 0]) (by simp only [RK.val?, ev, s5, tzero, fillL, List.map_cons, List.map_nil, Value.cells]; simp [splice, fillL, hm]) ?_
      refine wpR_step (v := .pointer (some ⟨Lb, i * 5, none⟩)) (by
        simp only [RK.val?, ev, updo, upd, show t + 1 ≠ t + 6 by omega, if_false, s1]
        rw [if_pos (by omega)]; simp [Addr.add_mk]) ?_
      simp only [wpR, RI.wp, gOk, if_true, RK.run, ev, updo, upd_same]
      have e7 : ∀ x, upd (upd σ1 (t + 6) x) (t + 7) (.pointer (some ⟨Lb, i * 5, none⟩)) (t + 6) = x := fun x => by
        simp only [upd, show t + 6 ≠ t + 7 by omega, if_false, if_true]
      rw [e7]
      refine ⟨rfl, k1, k2 _ fun j hj => ?_⟩
      simp only [upd, show j ≠ t + 6 by omega, show j ≠ t + 7 by omega, if_false]
      exact a1 j hj
  | str =>
    obtain ⟨l, rfl⟩ := hg
    have hv : v = Msk.str l := by cases hr; rfl
    subst hv
    simp only [TK.gen, wpC]
    refine wpD_of_B (fun _ v w1 => SlC (fun b => w.heap.size ≤ b) w1 v l.length (u8s l)) (fun _ v w1 w2 h hm => h.mod hm (by simp) fun _ _ h => h) (head_walkB ht h0 h3 c3' hc' fun σ1 a1 s1 s5 => ?_)
    refine walkB_node (fun w1 hm1 _ => ?_) fun u hu => ?_
    · simp only [RK.run, ev, s5, Msk.str]
      intro T cap rest hcap hrest
      have hsz : (⟨l.toArray⟩ : ByteArray).size = l.length := by simp [ByteArray.size]
      rw [hsz] at hcap hrest ⊢
      have hblk := Blk.new' w1.drew (u8s l ++ rest) T (cap, cap + 1) (by simp only [List.length_append, u8s_length]; omega)
      refine ⟨(Mod.drew _ _).trans (Mod.alloc _ _ _), some ⟨w1.heap.size, 0, none⟩, cap, rfl, hcap, fun h => by simp at h, fun a ha => ?_⟩
      simp only [Option.some.injEq] at ha
      subst ha
      refine ⟨hm1.size, hblk.lt, ?_⟩
      have := hblk.cells.take (u8s l).length
      simpa using this
    refine walkB_step (v := .agg #[.int .i64 0, u, .bool false, .slice none 0 0, .slice none 0 0]) ?_ ?_
    · obtain ⟨w1, hu⟩ := hu
      obtain ⟨b1, c1, rfl, -⟩ := hu
      simp only [RK.val?, ev, updo, upd_same, tzero, fillL, List.map_cons, List.map_nil, Value.cells]; simp [splice, fillL]
    refine walkB_step (v := .pointer (some ⟨Lb, i * 5, none⟩)) (by
        simp only [RK.val?, ev, updo, upd, show t + 1 ≠ t + 7 by omega, show t + 1 ≠ t + 6 by omega, if_false, s1]
        rw [if_pos (by omega)]; simp [Addr.add_mk]) ?_
    simp only [walkB]
    intro w1 hm1 hkn
    have h6 := hkn 6 (by simp [headD]) ⟨⟨some (t + 6), .s2b (.tmp (t + 5)), none⟩, true, []⟩ (by simp [headD]) rfl rfl (t + 6) rfl
    simp only [updo, upd, show t + 6 ≠ t + 8 by omega, show t + 6 ≠ t + 7 by omega, if_false, if_true] at h6
    obtain ⟨k1, k2⟩ := hst w1 _ ((Mod.drew _ _).trans hm1) (RepT.oct false h6)
    simp only [wpR, RI.wp, gOk, if_true, RK.run, ev, updo, upd_same]
    have e7 : ∀ x, upd (upd (upd σ1 (t + 6) u) (t + 7) x) (t + 8) (.pointer (some ⟨Lb, i * 5, none⟩)) (t + 7) = x := fun x => by
      simp only [upd, show t + 7 ≠ t + 8 by omega, if_false, if_true]
    rw [e7]
    refine ⟨rfl, k1, k2 _ fun j hj => ?_⟩
    simp only [upd, show j ≠ t + 6 by omega, show j ≠ t + 7 by omega, show j ≠ t + 8 by omega, if_false]
    exact a1 j hj
  | boo f => exact callK f _ rfl hk
  | txt f => exact callK f _ rfl hk
  | oct f => exact callK f _ rfl hk

end
end Go.Msk

/-! Telling: lists. -/
namespace Go.Msk
open Go.RowKit
set_option maxRecDepth 100000

/-- Kinds of told elements. -/
inductive EK where
  | num (conv : Bool)
  | str
  | tell (f : FuncId)
  deriving Inhabited

/-- The instructions for an element: its address in slot p, slots from e on, places from idx on. -/
def EK.dis (p e idx : Nat) : EK → List DI
  | .num true => [nd ⟨some e, .ld (.tmp p), none⟩, nd ⟨some (e + 1), .conv .i64 (.tmp e), none⟩, nd ⟨some (e + 2), .build tzero [(0, 1, .tmp (e + 1))], none⟩]
  | .num false => [nd ⟨some e, .ld (.tmp p), none⟩, nd ⟨some (e + 1), .build tzero [(0, 1, .tmp e)], none⟩]
  | .str => [nd ⟨some e, .ld (.tmp p), none⟩, ⟨⟨some (e + 1), .s2b (.tmp e), none⟩, true, []⟩, ⟨⟨some (e + 2), .build tzero [(1, 1, .tmp (e + 1))], none⟩, false, [idx + 1]⟩]
  | .tell f => [⟨⟨some e, .call f [.tmp p], none⟩, true, []⟩]

/-- How many; which of them, if any, makes something; where the value stands. -/
def EK.n : EK → Nat
  | .num true => 3
  | .num false => 2
  | .str => 3
  | .tell _ => 1

def EK.node (idx : Nat) : EK → List Nat
  | .num _ => []
  | .str => [idx + 1]
  | .tell _ => [idx]

def EK.sz : EK → Nat → Nat
  | .tell _, n => n
  | _, _ => 1

/-- What an element's value is. -/
def EK.ty (T : List GV → Prop) : EK → GV → Prop
  | .num true, g => ∃ k n, g = .num (.int k n)
  | .num false, g => ∃ n, g = .num (.int .i64 n) ∧ IntKind.i64.wrap n = n
  | .str, g => ∃ l, g = .num (Msk.str l)
  | .tell _, g => ∃ l, g = .rcd l ∧ T l

/-- A function that tells a struct. -/
def TellS (P : Program) (f : FuncId) (T : List GV → Prop) : Prop :=
  ∀ (O : List Nat) (w : World) (B base : Nat) (gs : List GV) (css : List (List Value)), T gs → RepL O w gs css → Cells w ⟨B, base, none⟩ css.flatten →
    TellC P f [.pointer (some ⟨B, base, none⟩)] w (GV.rcd gs).told

def EK.Ok (P : Program) (T : List GV → Prop) : EK → Prop
  | .tell f => TellS P f T
  | _ => True

/-- What the region knows of what it makes. -/
def EK.Phi (n0 : Nat) (g : GV) : EK → Value → World → Prop
  | .num _, _, _ => True
  | .str, v, w => ∃ l, g = .num (Msk.str l) ∧ SlC (fun b => n0 ≤ b) w v l.length (u8s l)
  | .tell _, v, w => ∃ cs, v = .agg cs.toArray ∧ RepT (fun b => n0 ≤ b) w g.told cs

theorem EK.Phi.mod {k : EK} {n0 : Nat} {g : GV} {v : Value} {w w' : World} {S : List Nat} (h : k.Phi n0 g v w) (hm : Mod S w w') (hS : ∀ b ∈ S, b < n0) : k.Phi n0 g v w' := by
  cases k with
  | num c => trivial
  | str =>
    obtain ⟨l, h1, h2⟩ := h
    exact ⟨l, h1, h2.mod hm (fun b hb => by have := hS b hb; omega) fun _ _ h => h⟩
  | tell f =>
    obtain ⟨cs, h1, h2⟩ := h
    exact ⟨cs, h1, h2.mod hm (fun b hb => by have := hS b hb; omega) fun _ _ h => h⟩

section
variable {P : Program}

theorem walk_step {l : List DI} {R : World → World → Prop} {Φ : Nat → Value → World → Prop} {w0 : World} {E : Sl → Prop} {n : Nat} {k : RK} {d : Option Nat} {ds : List Nat} {r : List DI} {σ : Sl} {v : Value} (hv : ∀ w, R w0 w → k.val? σ w = some v)
    (h : walk P l R Φ NT w0 E (n + 1) r (updo σ d v)) : walk P l R Φ NT w0 E n (⟨⟨d, k, none⟩, false, ds⟩ :: r) σ := by
  simp only [walk, gOk, if_true, Bool.false_eq_true, if_false]
  exact ⟨v, fun w hw _ => hv w hw, h⟩

theorem walk_node {l : List DI} {R : World → World → Prop} {Φ : Nat → Value → World → Prop} {w0 : World} {E : Sl → Prop} {n : Nat} {k : RK} {d : Option Nat} {ds : List Nat} {r : List DI} {σ : Sl}
    (hn : ∀ w, R w0 w → known l Φ ds σ w → k.run P σ w fun v w' => R w w' ∧ Φ n v w') (h : ∀ v, (∃ w, Φ n v w) → walk P l R Φ NT w0 E (n + 1) r (updo σ d v)) : walk P l R Φ NT w0 E n (⟨⟨d, k, none⟩, true, ds⟩ :: r) σ := by
  simp only [walk, gOk, if_true]
  exact ⟨fun w h1 _ h2 => run_mono (hn w h1 h2) fun v w' hk => ⟨hk.1, hk.2, fun _ _ _ => trivial⟩, h⟩

/-- The value slot of an element. -/
def EK.val (e : Nat) (k : EK) : Nat := e + k.n - 1

/-- The walk over an element's instructions. T: what the told structs are. -/
theorem EK.walk_wp {k : EK} {T : List GV → Prop} (hk : k.Ok P T) {l : List DI} {R : World → World → Prop} {Φ : Nat → Value → World → Prop} {w0 : World} {E : Sl → Prop} {r : List DI} {p e idx A o : Nat} {O S : List Nat} {g : GV} {cs : List Value} {σ : Sl}
    (hp : p < e) (hσ : σ p = .pointer (some ⟨A, o, none⟩)) (hRS : ∀ w, R w0 w → Mod S w0 w) (hR0 : ∀ w w', Mod [] w w' → R w w') (hS : ∀ x ∈ S, x ∈ O ∧ x ≠ A) (hg : k.ty T g) (hr : Rep O w0 g cs) (hc : Cells w0 ⟨A, o, none⟩ cs) (hcs : cs ≠ [] ∨ True)
    (hΦ : ∀ j v w, j ∈ k.node idx → (k.Phi w0.heap.size g v w ↔ Φ j v w))
    (h : ∀ σ', Ag e σ σ' → (∀ w, (∀ j ∈ k.node idx, Φ j (σ' (e + (j - idx))) w) → ∃ cs, σ' (k.val e) = .agg cs.toArray ∧ RepT (fun b => w0.heap.size ≤ b) w g.told cs) → walk P l R Φ NT w0 E (idx + k.n) r σ') :
    walk P l R Φ NT w0 E idx (k.dis p e idx ++ r) σ := by
  have hcw : ∀ w, R w0 w → Cells w ⟨A, o, none⟩ cs := fun w hw => hc.mod (hRS w hw) (.inr fun hx => (hS _ hx).2 rfl)
  cases k with
  | num c =>
    cases c with
    | true =>
      obtain ⟨kk, m, rfl⟩ := hg
      have hv : cs = [.int kk m] := by cases hr; rfl
      subst hv
      simp only [EK.dis, nd, List.cons_append, List.nil_append]
      refine walk_step (v := .int kk m) (fun w hw => by simp only [RK.val?, ev, hσ]; exact (hcw w hw).head) ?_
      refine walk_step (v := .int .i64 (IntKind.i64.wrap m)) (fun w hw => by simp only [RK.val?, ev, updo, upd_same]) ?_
      refine walk_step (v := .agg #[.int .i64 (IntKind.i64.wrap m), .slice none 0 0, .bool false, .slice none 0 0, .slice none 0 0]) (fun w hw => by
        simp only [RK.val?, ev, updo, upd_same, tzero, fillL, List.map_cons, List.map_nil, Value.cells]; simp [splice, fillL]) ?_
      refine h _ (fun j hj => ?_) fun w _ => ⟨[.int .i64 (IntKind.i64.wrap m), .slice none 0 0, .bool false, .slice none 0 0, .slice none 0 0], ?_, RepT.num _ _⟩
      · simp only [updo, upd, show j ≠ e by omega, show j ≠ e + 1 by omega, show j ≠ e + 2 by omega, if_false]
      · show updo _ (some (e + 2)) _ (e + 3 - 1) = _
        simp only [updo, upd, show e + 3 - 1 = e + 2 by omega, if_true]
    | false =>
      obtain ⟨m, rfl, hm⟩ := hg
      have hv : cs = [.int .i64 m] := by cases hr; rfl
      subst hv
      simp only [EK.dis, nd, List.cons_append, List.nil_append]
      refine walk_step (v := .int .i64 m) (fun w hw => by simp only [RK.val?, ev, hσ]; exact (hcw w hw).head) ?_
      refine walk_step (v := .agg #[.int .i64 (IntKind.i64.wrap m), .slice none 0 0, .bool false, .slice none 0 0, .slice none 0 0]) (fun w hw => by
        simp only [RK.val?, ev, updo, upd_same, tzero, fillL, List.map_cons, List.map_nil, Value.cells]; simp [splice, fillL, hm]) ?_
      refine h _ (fun j hj => ?_) fun w _ => ⟨[.int .i64 (IntKind.i64.wrap m), .slice none 0 0, .bool false, .slice none 0 0, .slice none 0 0], ?_, RepT.num _ _⟩
      · simp only [updo, upd, show j ≠ e by omega, show j ≠ e + 1 by omega, if_false]
      · show updo _ (some (e + 1)) _ (e + 2 - 1) = _
        simp only [updo, upd, show e + 2 - 1 = e + 1 by omega, if_true]
  | str =>
    obtain ⟨s, rfl⟩ := hg
    have hv : cs = [Msk.str s] := by cases hr; rfl
    subst hv
    simp only [EK.dis, nd, List.cons_append, List.nil_append]
    refine walk_step (v := Msk.str s) (fun w hw => by simp only [RK.val?, ev, hσ]; exact (hcw w hw).head) ?_
    refine walk_node (fun w1 hw1 _ => ?_) fun u hu => ?_
    · simp only [RK.run, ev, updo, upd_same, Msk.str]
      intro T cap rest hcap hrest
      have hsz : (⟨s.toArray⟩ : ByteArray).size = s.length := by simp [ByteArray.size]
      rw [hsz] at hcap hrest ⊢
      have hblk := Blk.new' w1.drew (u8s s ++ rest) T (cap, cap + 1) (by simp only [List.length_append, u8s_length]; omega)
      refine ⟨hR0 _ _ ((Mod.drew _ _).trans (Mod.alloc _ _ _)), (hΦ (idx + 1) _ _ (by simp [EK.node])).1 ⟨s, rfl, some ⟨w1.heap.size, 0, none⟩, cap, rfl, hcap, fun h => by simp at h, fun a ha => ?_⟩⟩
      simp only [Option.some.injEq] at ha
      subst ha
      refine ⟨(hRS _ hw1).size, hblk.lt, ?_⟩
      have := hblk.cells.take (u8s s).length
      simpa using this
    have hu' : ∃ b c, u = .slice b s.length c := by
      obtain ⟨w1, hu⟩ := hu
      obtain ⟨s', e1, b1, c1, rfl, -⟩ := (hΦ (idx + 1) _ _ (by simp [EK.node])).2 hu
      have : s = s' := by
        have := congrArg (fun g => match g with | GV.num (.string x) => x.data.toList | _ => []) e1
        simpa [Msk.str] using this
      subst this
      exact ⟨_, _, rfl⟩
    obtain ⟨b1, c1, rfl⟩ := hu'
    refine walk_step (v := .agg #[.int .i64 0, .slice b1 s.length c1, .bool false, .slice none 0 0, .slice none 0 0]) (fun w hw => by
      simp only [RK.val?, ev, updo, upd_same, tzero, fillL, List.map_cons, List.map_nil, Value.cells]; simp [splice, fillL]) ?_
    refine h _ (fun j hj => ?_) fun w hkn => ⟨[.int .i64 0, .slice b1 s.length c1, .bool false, .slice none 0 0, .slice none 0 0], ?_, ?_⟩
    · simp only [updo, upd, show j ≠ e by omega, show j ≠ e + 1 by omega, show j ≠ e + 2 by omega, if_false]
    · show updo _ (some (e + 2)) _ (e + 3 - 1) = _
      simp only [updo, upd, show e + 3 - 1 = e + 2 by omega, if_true]
    · have h6 := hkn (idx + 1) (by simp [EK.node])
      simp only [Nat.add_sub_cancel_left, updo, upd, show e + 1 ≠ e + 2 by omega, if_false, if_true] at h6
      obtain ⟨s', e1, h6⟩ := (hΦ (idx + 1) _ _ (by simp [EK.node])).2 h6
      have : s = s' := by
        have := congrArg (fun g => match g with | GV.num (.string x) => x.data.toList | _ => []) e1
        simpa [Msk.str] using this
      subst this
      exact RepT.oct false h6
  | tell f =>
    obtain ⟨gl, rfl, hT⟩ := hg
    obtain ⟨css, rfl, hrl⟩ : ∃ css, cs = css.flatten ∧ RepL O w0 gl css := by
      cases hr with
      | rcd h => exact ⟨_, rfl, h⟩
    simp only [EK.dis, List.cons_append, List.nil_append]
    refine walk_node (fun w1 hw1 _ => ?_) fun u hu => ?_
    · simp only [RK.run, ev, hσ, List.map_cons, List.map_nil]
      have hm1 := hRS w1 hw1
      refine (hk O w1 A o gl css hT (hrl.fresh hm1 (fun x hx => .inl (hS x hx).1) (fun x hx => .inl hx)) (hcw w1 hw1)).mono ?_
      rintro e w2 ⟨cs, rfl, hrep, hm2⟩
      exact ⟨_, rfl, hR0 _ _ hm2, (hΦ idx _ _ (by simp [EK.node])).1 ⟨cs, rfl, hrep.mod (Mod.refl [] _) (by simp) fun b _ hb => Nat.le_trans hm1.size hb⟩⟩
    refine h _ (fun j hj => ?_) fun w hkn => ?_
    · simp only [updo, upd, show j ≠ e by omega, if_false]
    · have h6 := hkn idx (by simp [EK.node])
      simp only [Nat.sub_self, Nat.add_zero] at h6
      obtain ⟨cs', e1, h6⟩ := (hΦ idx _ _ (by simp [EK.node])).2 h6
      exact ⟨cs', by simpa [EK.val, EK.n] using e1, h6⟩

end
end Go.Msk

/-! Telling: a list of trees that grows. -/
namespace Go.Msk
open Go.RowKit
set_option maxRecDepth 100000

/-- The block that a slice lies in. -/
def own : Value → Option Nat
  | .slice (some a) _ _ => some a.block
  | _ => none

/-- A slice of trees that grows: its cells, whatever they say. -/
structure LRaw (w : World) (n0 : Nat) (lv : Value) (css : List (List Value)) : Prop where
  five : ∀ cs ∈ css, cs.length = 5
  sl : (lv = .slice none 0 0 ∧ css = []) ∨ ∃ BA cap rest, lv = .slice (some ⟨BA, 0, none⟩) css.length cap ∧ css.length ≤ cap ∧ n0 ≤ BA ∧ Blk w BA (css.flatten ++ rest) ∧ rest.length = (cap - css.length) * 5

theorem LRaw.mod {w w' : World} {n0 : Nat} {lv : Value} {css : List (List Value)} {S : List Nat} (h : LRaw w n0 lv css) (hm : Mod S w w') (hS : ∀ b, own lv = some b → b ∉ S) : LRaw w' n0 lv css := by
  refine ⟨h.five, ?_⟩
  rcases h.sl with h1 | ⟨BA, cap, rest, h1, h2, h3, h4, h5⟩
  · exact .inl h1
  · exact .inr ⟨BA, cap, rest, h1, h2, h3, h4.mod hm (hS _ (by rw [h1]; rfl)), h5⟩

theorem LRaw.own {w : World} {n0 : Nat} {lv : Value} {css : List (List Value)} (h : LRaw w n0 lv css) {b : Nat} (hb : own lv = some b) : n0 ≤ b ∧ b < w.heap.size := by
  rcases h.sl with ⟨h1, -⟩ | ⟨BA, cap, rest, h1, h2, h3, h4, h5⟩
  · rw [h1] at hb; simp [Msk.own] at hb
  · rw [h1] at hb; simp only [Msk.own, Option.some.injEq] at hb; subst hb; exact ⟨h3, h4.lt⟩

theorem flat5 {css : List (List Value)} (h : ∀ cs ∈ css, cs.length = 5) : css.flatten.length = css.length * 5 := flatten_length h

theorem splice_end {p r es : List Value} {o : Nat} (h : p.length = o) : splice (p ++ r) o es = p ++ (es ++ r.drop es.length) := by
  subst h
  unfold splice
  rw [List.take_left, List.drop_length_add_append]

theorem flat_snoc (css : List (List Value)) (es : List Value) : (css ++ [es]).flatten = css.flatten ++ es := by simp

section
variable {P : Program}

theorem append_tree {σ : Sl} {w : World} {x y : Operand} {lv : Value} {css : List (List Value)} {es : List Value} {n0 sb : Nat} {K : Value → World → Prop} (hx : ev σ x = lv) (hraw : LRaw w n0 lv css) (hn0 : n0 ≤ w.heap.size)
    (hy : ev σ y = .slice (some ⟨sb, 0, none⟩) 1 1) (hsb : Blk w sb es) (h5 : es.length = 5) (hone : ∀ v ∈ es, v.oneCell' = true) (hl : css.length ≤ 2147483647)
    (hK : ∀ lv' w', LRaw w' n0 lv' (css ++ [es]) → (((own lv' = own lv ∧ Mod (own lv).toList w w') ∧ ∃ BA c, lv = .slice (some ⟨BA, 0, none⟩) css.length c ∧ css.length + 1 ≤ c) ∨ (own lv' = some w.heap.size ∧ Mod [] w w')) → K lv' w') : (RK.append x y 5 88).run P σ w K := by
  have hsrc : srcCells w 5 (.slice (some ⟨sb, 0, none⟩) 1 1) = some (1, es) := by
    simp only [srcCells, cellsAt_of' hsb.cells (n := 1 * 5) (by omega), Option.map_some]
  simp only [RK.run, hx, hy]
  have h5' : ∀ cs ∈ css ++ [es], cs.length = 5 := fun cs hc => by
    rcases List.mem_append.1 hc with hc | hc
    · exact hraw.five cs hc
    · simp only [List.mem_singleton] at hc; subst hc; exact h5
  have hfl := flat5 hraw.five
  rcases hraw.sl with ⟨rfl, rfl⟩ | ⟨BA, cap, rest, rfl, h2, h3, h4, hr⟩
  · simp only [hsrc, appendRun]
    rw [if_neg (by omega)]
    refine ⟨by omega, by omega, ?_⟩
    intro T cap rest hc hr
    refine hK _ _ ⟨h5', .inr ⟨w.heap.size, cap, rest, rfl, by simpa using hc, hn0, ?_, by simpa using hr⟩⟩ (.inr ⟨rfl, (Mod.drew _ _).trans (Mod.alloc _ _ _)⟩)
    have := Blk.new w.drew (es ++ rest) T
    simpa using this
  · simp only [hsrc, appendRun]
    by_cases hc : css.length + 1 ≤ cap
    · rw [if_pos hc]
      simp only [Addr.add_mk, Nat.zero_add]
      refine ⟨stOk_many h4 (by simp only [List.length_append]; omega) hone, hK _ _ ⟨h5', .inr ⟨BA, cap, rest.drop 5, by simp, by simpa using hc, h3, ?_, by simp; omega⟩⟩ (.inl ⟨⟨rfl, by simpa [own] using Mod.put (by simp)⟩, BA, cap, rfl, hc⟩)⟩
      have hput := h4.put (o := css.length * 5) (vs := es) (by simp only [List.length_append]; omega)
      have : splice (css.flatten ++ rest) (css.length * 5) es = (css ++ [es]).flatten ++ rest.drop 5 := by
        rw [splice_end hfl, h5, flat_snoc, List.append_assoc]
      rwa [this] at hput
    · rw [if_neg hc]
      refine ⟨by omega, by omega, ?_⟩
      have hco : cellsAt w ⟨BA, 0, none⟩ 0 (css.length * 5) = some css.flatten := by
        have := h4.cells.take css.flatten.length
        rw [List.take_left] at this
        exact cellsAt_of' this hfl
      simp only [hco]
      intro T cap' rest' hc' hr'
      refine hK _ _ ⟨h5', .inr ⟨w.heap.size, cap', rest', by simp, by simpa using hc', hn0, ?_, by simpa using hr'⟩⟩ (.inr ⟨rfl, (Mod.drew _ _).trans (Mod.alloc _ _ _)⟩)
      have := Blk.new w.drew (css.flatten ++ (es ++ rest')) T
      simpa using this

/-- The last one is set anew. -/
theorem LRaw.setLast {w : World} {n0 : Nat} {lv : Value} {css : List (List Value)} {es cs : List Value} (h : LRaw w n0 lv (css ++ [es])) (h5 : cs.length = 5) (hone : ∀ v ∈ cs, v.oneCell' = true) :
    ∃ BA cap, lv = .slice (some ⟨BA, 0, none⟩) (css.length + 1) cap ∧ n0 ≤ BA ∧ StOk w ⟨BA, css.length * 5, none⟩ cs ∧ LRaw (putCells w ⟨BA, css.length * 5, none⟩ 0 cs) n0 lv (css ++ [cs]) ∧
      Mod [BA] w (putCells w ⟨BA, css.length * 5, none⟩ 0 cs) := by
  have hes : es.length = 5 := h.five es (by simp)
  have h5c : ∀ c ∈ css, c.length = 5 := fun c hc => h.five c (by simp [hc])
  have hfl := flat5 h5c
  rcases h.sl with ⟨-, h1⟩ | ⟨BA, cap, rest, rfl, h2, h3, h4, hr⟩
  · simp at h1
  · refine ⟨BA, cap, by simp, h3, ?_, ⟨fun c hc => ?_, .inr ⟨BA, cap, rest, by simp, by simpa using h2, h3, ?_, by simpa using hr⟩⟩, Mod.put (by simp)⟩
    · exact stOk_many h4 (by rw [flat_snoc]; simp only [List.length_append]; omega) hone
    · rcases List.mem_append.1 hc with hc | hc
      · exact h5c c hc
      · simp only [List.mem_singleton] at hc; subst hc; exact h5
    · have hput := h4.put (o := css.length * 5) (vs := cs) (by rw [flat_snoc]; simp only [List.length_append]; omega)
      have : splice ((css ++ [es]).flatten ++ rest) (css.length * 5) cs = (css ++ [cs]).flatten ++ rest := by
        rw [flat_snoc, flat_snoc, List.append_assoc, splice_mid hfl (by omega), List.append_assoc]
      rwa [this] at hput

/-- A field's list under way. -/
structure LS (w0 w : World) (Tb Lb n : Nat) (pre post : List Value) (nl : Bool) (lv : Value) (ts : List TR) (tcs : List (List Value)) : Prop where
  tw : TW w Tb Lb n (pre ++ ([.int .i64 0, .slice none 0 0, .bool nl, lv, .slice none 0 0] ++ post))
  raw : LRaw w w0.heap.size lv tcs
  rep : RepTL (fun b => w0.heap.size ≤ b ∧ own lv ≠ some b) w ts tcs
  mod : Mod [Lb] w0 w
  ltb : Tb < w0.heap.size
  llb : Lb < w0.heap.size

theorem TW.mod {w w' : World} {Tb Lb n : Nat} {cs : List Value} {S : List Nat} (h : TW w Tb Lb n cs) (hm : Mod S w w') (h1 : Tb ∉ S) (h2 : Lb ∉ S) : TW w' Tb Lb n cs := ⟨h.tb.mod hm h1, h.lb.mod hm h2, h.ne⟩

theorem LS.same {w0 w w' : World} {Tb Lb n : Nat} {pre post : List Value} {nl : Bool} {lv : Value} {ts : List TR} {tcs : List (List Value)} (h : LS w0 w Tb Lb n pre post nl lv ts tcs) (hm : Mod [] w w') : LS w0 w' Tb Lb n pre post nl lv ts tcs :=
  ⟨h.tw.mod hm (by simp) (by simp), h.raw.mod hm (by simp), h.rep.mod hm (by simp) (fun _ _ h => h), h.mod.trans hm.nil, h.ltb, h.llb⟩

/-- Behind an append: the tree is as it was; what was told is kept; what was told since the start of the region is apart. -/
theorem LS.appended {w0 w wr w' : World} {Tb Lb n : Nat} {pre post : List Value} {nl : Bool} {lv lv' : Value} {ts : List TR} {tcs : List (List Value)} (h : LS w0 w Tb Lb n pre post nl lv ts tcs)
    (hown : (own lv' = own lv ∧ Mod (own lv).toList w w') ∨ (own lv' = some w.heap.size ∧ Mod [] w w')) (hwr : ∀ b, own lv = some b → b < wr.heap.size) (hr0 : w0.heap.size ≤ wr.heap.size) :
    TW w' Tb Lb n (pre ++ ([.int .i64 0, .slice none 0 0, .bool nl, lv, .slice none 0 0] ++ post)) ∧ RepTL (fun b => w0.heap.size ≤ b ∧ own lv' ≠ some b) w' ts tcs ∧ Mod [Lb] w0 w' ∧
    ∀ t cs, RepT (fun b => wr.heap.size ≤ b) w t cs → RepT (fun b => w0.heap.size ≤ b ∧ own lv' ≠ some b) w' t cs := by
  have hlt : ∀ b, own lv = some b → w0.heap.size ≤ b := fun b hb => (h.raw.own hb).1
  have h1 := h.ltb
  have h2 := h.llb
  rcases hown with ⟨ho, hm⟩ | ⟨ho, hm⟩
  · have hS : ∀ b ∈ (own lv).toList, own lv = some b := fun b hb => by simpa using hb
    refine ⟨h.tw.mod hm (fun hc => by have := hlt _ (hS _ hc); omega) (fun hc => by have := hlt _ (hS _ hc); omega), h.rep.mod hm (fun b hb hc => hc.2 (hS b hb)) (fun b _ hb => by rw [ho]; exact hb), ?_, fun t cs ht => ?_⟩
    · refine ⟨hm.os.trans h.mod.os, hm.tape.trans h.mod.tape, hm.output.trans h.mod.output, Nat.le_trans h.mod.size hm.size, fun k hk hn => ?_⟩
      rw [hm.block k (Nat.lt_of_lt_of_le hk h.mod.size) (fun hc => by have := hlt _ (hS _ hc); omega)]
      exact h.mod.block k hk hn
    · refine ht.mod hm (fun b hb hc => by have := hwr _ (hS _ hb); omega) fun b _ hb => ⟨by omega, fun hc => ?_⟩
      rw [ho] at hc
      have := hwr _ hc; omega
  · refine ⟨h.tw.mod hm (by simp) (by simp), h.rep.mod hm (by simp) (fun b hb hc => ⟨hc.1, fun e => ?_⟩), h.mod.trans hm.nil, fun t cs ht => ht.mod hm (by simp) fun b hb hc => ⟨by omega, fun e => ?_⟩⟩
    · rw [ho] at e; simp only [Option.some.injEq] at e; omega
    · rw [ho] at e; simp only [Option.some.injEq] at e; omega

/-- The tree's list is set. -/
theorem TW.setL {w : World} {Tb Lb n i : Nat} {pre post : List Value} {nl : Bool} {lv lv' : Value} (h : TW w Tb Lb n (pre ++ ([.int .i64 0, .slice none 0 0, .bool nl, lv, .slice none 0 0] ++ post))) (hpre : pre.length = i * 5) (hone : lv'.cells = #[lv']) (h1 : lv'.oneCell' = true) :
    StOk w ⟨Lb, i * 5 + 3, none⟩ lv'.cells.toList ∧ TW (putCells w ⟨Lb, i * 5 + 3, none⟩ 0 lv'.cells.toList) Tb Lb n (pre ++ ([.int .i64 0, .slice none 0 0, .bool nl, lv', .slice none 0 0] ++ post)) ∧
      Mod [Lb] w (putCells w ⟨Lb, i * 5 + 3, none⟩ 0 lv'.cells.toList) := by
  rw [hone]
  have hput : Mod [Lb] w (putCells w ⟨Lb, i * 5 + 3, none⟩ 0 [lv']) := Mod.put (by simp)
  refine ⟨stOk_many h.lb (by simp; omega) (by simpa using h1), ⟨h.tb.mod hput (by simpa using h.ne), ?_, h.ne⟩, hput⟩
  have hp := h.lb.put (o := i * 5 + 3) (vs := [lv']) (by simp; omega)
  have : splice (pre ++ ([.int .i64 0, .slice none 0 0, .bool nl, lv, .slice none 0 0] ++ post)) (i * 5 + 3) [lv'] = pre ++ ([.int .i64 0, .slice none 0 0, .bool nl, lv', .slice none 0 0] ++ post) := by
    have e1 : ∀ x, pre ++ ([.int .i64 0, .slice none 0 0, .bool nl, x, .slice none 0 0] ++ post) = (pre ++ [.int .i64 0, .slice none 0 0, .bool nl]) ++ ([x] ++ ([.slice none 0 0] ++ post)) := fun x => by simp
    rw [e1, e1]
    exact splice_mid (old := [lv]) (vs := [lv']) (by simp only [List.length_append, List.length_cons, List.length_nil]; omega) rfl
  rwa [this] at hp

end
end Go.Msk

/-! Telling: the loop over a list. -/
namespace Go.Msk
open Go.RowKit
set_option maxRecDepth 100000

def headA (t i off iv esz : Nat) : List DI :=
  [nd ⟨some t, .fad (.tmp 3) 3, none⟩, nd ⟨some (t + 1), .ld (.tmp t), none⟩, nd ⟨some (t + 2), .iad (.tmp (t + 1)) (.const (.int .i64 i)) 5, none⟩, nd ⟨some (t + 3), .fad (.tmp (t + 2)) 3, none⟩, nd ⟨some (t + 4), .ld (.tmp (t + 3)), none⟩,
   nd ⟨some (t + 5), .mv (.tmp 0), none⟩, nd ⟨some (t + 6), .nilc (.tmp (t + 5)), none⟩, nd ⟨some (t + 7), .fad (.tmp (t + 6)) off, none⟩, nd ⟨some (t + 8), .ld (.tmp (t + 7)), none⟩, nd ⟨some (t + 9), .mv (.tmp iv), none⟩,
   nd ⟨some (t + 10), .iad (.tmp (t + 8)) (.tmp (t + 9)) esz, none⟩]

/-- One more, in the one order. -/
def appA (k : EK) (a i off iv esz : Nat) : IC :=
  .seq (.drw (headA a i off iv esz ++ (k.dis (a + 10) (a + 11) 11 ++ [nd ⟨some (a + 11 + k.n), .len (.tmp (a + 4)), none⟩, ⟨⟨some (a + 12 + k.n), .bslice 1 tzero [(0, 5, .const (.agg tzero.toArray))], none⟩, true, []⟩]))
      [⟨some (a + 13 + k.n), .append (.tmp (a + 4)) (.tmp (a + 12 + k.n)) 5 88, none⟩, ⟨some (a + 14 + k.n), .iad (.tmp (a + 1)) (.const (.int .i64 i)) 5, none⟩, ⟨some (a + 15 + k.n), .fad (.tmp (a + 14 + k.n)) 3, none⟩,
       ⟨none, .st (.tmp (a + 15 + k.n)) 1 (.tmp (a + 13 + k.n)), none⟩])
    (.blk [⟨some (a + 16 + k.n), .iad (.tmp (a + 13 + k.n)) (.tmp (a + 11 + k.n)) 5, none⟩, ⟨none, .st (.tmp (a + 16 + k.n)) 5 (.tmp (k.val (a + 11))), none⟩])

/-- One more, in the other order. -/
def appBl (k : EK) (b i off iv esz : Nat) : List DI :=
  [nd ⟨some b, .fad (.tmp 3) 3, none⟩, nd ⟨some (b + 1), .ld (.tmp b), none⟩] ++ (headA (b + 2) i off iv esz ++ (k.dis (b + 12) (b + 13) 13 ++
      [⟨⟨some (b + 13 + k.n), .bslice 1 tzero [(0, 5, .tmp (k.val (b + 13)))], none⟩, true, k.node 13⟩,
       ⟨⟨some (b + 14 + k.n), .append (.tmp (b + 6)) (.tmp (b + 13 + k.n)) 5 88, none⟩, true, k.node 13 ++ [13 + k.n]⟩,
       ⟨⟨some (b + 15 + k.n), .iad (.tmp (b + 1)) (.const (.int .i64 i)) 5, none⟩, false, k.node 13 ++ [13 + k.n, 14 + k.n]⟩,
       ⟨⟨some (b + 16 + k.n), .fad (.tmp (b + 15 + k.n)) 3, none⟩, false, k.node 13 ++ [13 + k.n, 14 + k.n]⟩]))

def appB (k : EK) (b i off iv esz : Nat) : IC :=
  .drw (appBl k b i off iv esz) [⟨none, .st (.tmp (b + 16 + k.n)) 1 (.tmp (b + 14 + k.n)), none⟩]

section
variable {P : Program}

theorem headA_walk {l : List DI} {R : World → World → Prop} {Φ : Nat → Value → World → Prop} {w0 : World} {E : Sl → Prop} {r : List DI} {idx t i off iv esz Tb Lb n B base A ao len cap j : Nat} {σ : Sl} {lv : Value} (ht : 4 ≤ t) (hiv : iv < t)
    (h0 : σ 0 = .pointer (some ⟨B, base, none⟩)) (h3 : σ 3 = .pointer (some ⟨Tb, 0, none⟩)) (hj : σ iv = .int .i64 j) (hi : i < n) (hjl : j < len)
    (c3 : ∀ w, R w0 w → w.cell? ⟨Tb, 3, none⟩ = some (.slice (some ⟨Lb, 0, none⟩) n n)) (cl : ∀ w, R w0 w → w.cell? ⟨Lb, i * 5 + 3, none⟩ = some lv) (hc : ∀ w, R w0 w → w.cell? ⟨B, base + off, none⟩ = some (.slice (some ⟨A, ao, none⟩) len cap))
    (h : ∀ σ', Ag t σ σ' → σ' (t + 1) = .slice (some ⟨Lb, 0, none⟩) n n → σ' (t + 4) = lv → σ' (t + 10) = .pointer (some ⟨A, ao + j * esz, none⟩) → walk P l R Φ NT w0 E (idx + 11) r σ') : walk P l R Φ NT w0 E idx (headA t i off iv esz ++ r) σ := by
  simp only [headA, nd, List.cons_append, List.nil_append]
  refine walk_step (v := .pointer (some ⟨Tb, 3, none⟩)) (fun w hw => by simp only [RK.val?, ev, h3, Addr.add_mk, Nat.zero_add]) ?_
  refine walk_step (v := .slice (some ⟨Lb, 0, none⟩) n n) (fun w hw => by simp only [RK.val?, ev, updo, upd_same, c3 w hw]) ?_
  refine walk_step (v := .pointer (some ⟨Lb, i * 5, none⟩)) (fun w hw => by
    simp only [RK.val?, ev, updo, upd_same]; rw [if_pos (by omega)]; simp [Addr.add_mk]) ?_
  refine walk_step (v := .pointer (some ⟨Lb, i * 5 + 3, none⟩)) (fun w hw => by simp only [RK.val?, ev, updo, upd_same, Addr.add_mk]) ?_
  refine walk_step (v := lv) (fun w hw => by simp only [RK.val?, ev, updo, upd_same, cl w hw]) ?_
  refine walk_step (v := .pointer (some ⟨B, base, none⟩)) (fun w hw => by
    simp only [RK.val?, ev, updo, upd, show (0 : Nat) ≠ t by omega, show (0 : Nat) ≠ t + 1 by omega, show (0 : Nat) ≠ t + 2 by omega, show (0 : Nat) ≠ t + 3 by omega, show (0 : Nat) ≠ t + 4 by omega, if_false, h0]) ?_
  refine walk_step (v := .pointer (some ⟨B, base, none⟩)) (fun w hw => by simp only [RK.val?, ev, updo, upd_same]) ?_
  refine walk_step (v := .pointer (some ⟨B, base + off, none⟩)) (fun w hw => by simp only [RK.val?, ev, updo, upd_same, Addr.add_mk]) ?_
  refine walk_step (v := .slice (some ⟨A, ao, none⟩) len cap) (fun w hw => by simp only [RK.val?, ev, updo, upd_same, hc w hw]) ?_
  refine walk_step (v := .int .i64 j) (fun w hw => by
    simp only [RK.val?, ev, updo, upd, show iv ≠ t by omega, show iv ≠ t + 1 by omega, show iv ≠ t + 2 by omega, show iv ≠ t + 3 by omega, show iv ≠ t + 4 by omega, show iv ≠ t + 5 by omega, show iv ≠ t + 6 by omega, show iv ≠ t + 7 by omega,
      show iv ≠ t + 8 by omega, if_false, hj]) ?_
  refine walk_step (v := .pointer (some ⟨A, ao + j * esz, none⟩)) (fun w hw => by
    simp only [RK.val?, ev, updo, upd, show t + 8 ≠ t + 9 by omega, if_false, if_true]; rw [if_pos (by omega)]; simp [Addr.add_mk]) ?_
  refine h _ (fun k hk => ?_) ?_ ?_ ?_
  · simp only [updo, upd, show k ≠ t by omega, show k ≠ t + 1 by omega, show k ≠ t + 2 by omega, show k ≠ t + 3 by omega, show k ≠ t + 4 by omega, show k ≠ t + 5 by omega, show k ≠ t + 6 by omega, show k ≠ t + 7 by omega,
      show k ≠ t + 8 by omega, show k ≠ t + 9 by omega, show k ≠ t + 10 by omega, if_false]
  · simp only [updo, upd, show t + 1 ≠ t + 2 by omega, show t + 1 ≠ t + 3 by omega, show t + 1 ≠ t + 4 by omega, show t + 1 ≠ t + 5 by omega, show t + 1 ≠ t + 6 by omega, show t + 1 ≠ t + 7 by omega,
      show t + 1 ≠ t + 8 by omega, show t + 1 ≠ t + 9 by omega, show t + 1 ≠ t + 10 by omega, if_false, if_true]
  · simp only [updo, upd, show t + 4 ≠ t + 5 by omega, show t + 4 ≠ t + 6 by omega, show t + 4 ≠ t + 7 by omega, show t + 4 ≠ t + 8 by omega, show t + 4 ≠ t + 9 by omega, show t + 4 ≠ t + 10 by omega, if_false, if_true]
  · simp only [updo, upd_same]

theorem LRaw.len {w : World} {n0 : Nat} {lv : Value} {css : List (List Value)} (h : LRaw w n0 lv css) : ∃ b c, lv = .slice b css.length c := by
  rcases h.sl with ⟨rfl, rfl⟩ | ⟨BA, cap, rest, h1, -⟩
  · exact ⟨_, _, rfl⟩
  · exact ⟨_, _, h1⟩

theorem LRaw.one {w : World} {n0 : Nat} {lv : Value} {css : List (List Value)} (h : LRaw w n0 lv css) : lv.cells = #[lv] ∧ lv.oneCell' = true := by
  obtain ⟨b, c, rfl⟩ := h.len
  exact ⟨rfl, rfl⟩

theorem EK.n_pos (k : EK) : 1 ≤ k.n := by cases k with | num c => cases c <;> simp [EK.n] | _ => simp [EK.n]
theorem EK.node_lt {k : EK} {idx j : Nat} (h : j ∈ k.node idx) : idx ≤ j ∧ j < idx + k.n := by
  cases k with
  | num c => simp [EK.node] at h
  | str => simp only [EK.node, List.mem_singleton] at h; subst h; simp [EK.n]
  | tell f => simp only [EK.node, List.mem_singleton] at h; subst h; simp [EK.n]

/-- The instruction at a node of an element. -/
theorem EK.dis_node {k : EK} {p e idx j : Nat} (h : j ∈ k.node idx) : ∃ d, (k.dis p e idx)[j - idx]? = some d ∧ d.node = true ∧ d.ri.guard = none ∧ d.ri.dst = some (e + (j - idx)) := by
  cases k with
  | num c => simp [EK.node] at h
  | str => simp only [EK.node, List.mem_singleton] at h; subst h; simp [EK.dis]
  | tell f => simp only [EK.node, List.mem_singleton] at h; subst h; simp [EK.dis]

theorem EK.dis_length (k : EK) (p e idx : Nat) : (k.dis p e idx).length = k.n := by
  cases k with | num c => cases c <;> rfl | _ => rfl

/-- What the region's making of one new slice leaves. -/
def BS (n0 : Nat) (es : Value → Prop) (v : Value) (w : World) : Prop := ∃ sb cs, v = .slice (some ⟨sb, 0, none⟩) 1 1 ∧ n0 ≤ sb ∧ Blk w sb cs ∧ cs.length = 5 ∧ es (.agg cs.toArray)

theorem bslice_run {σ : Sl} {w : World} {x : Operand} {cs : List Value} {n0 : Nat} {K : Value → World → Prop} (hx : ev σ x = .agg cs.toArray) (h5 : cs.length = 5) (hn : n0 ≤ w.heap.size)
    (hK : ∀ v w', BS n0 (fun v => v = .agg cs.toArray) v w' → Mod [] w w' → K v w') : (RK.bslice 1 tzero [(0, 5, x)]).run P σ w K := by
  have hf : fillL (zrep 1 tzero) [(0, 5, Value.agg cs.toArray)] = some cs := by
    have e : zrep 1 tzero = tzero := by simp [zrep]
    rw [e]
    have ec : (Value.agg cs.toArray).cells = cs.toArray := rfl
    simp only [fillL]
    rw [if_pos ⟨by rw [ec]; simp [h5], by simp [tzero]⟩, ec]
    simp [splice, h5, tzero]
  simp only [RK.run, List.map_cons, List.map_nil, hx, hf]
  intro T
  exact hK _ _ ⟨w.heap.size, cs, rfl, hn, Blk.new _ _ _, h5, rfl⟩ (Mod.alloc _ _ _)

/-- One more told, in the one order. -/
theorem appA_wp {k : EK} {T : List GV → Prop} (hk : k.Ok P T) {a i off iv esz Tb Lb n B base A ao len cap j : Nat} {O : List Nat} {pre post : List Value} {nl : Bool} {lv : Value} {ts : List TR} {tcs : List (List Value)} {g : GV} {gcs : List Value}
    {σ : Sl} {w0 w : World} {Q : Exit → Sl → World → Prop} (ht : 4 ≤ a) (hiv : iv < a) (h0 : σ 0 = .pointer (some ⟨B, base, none⟩)) (h3 : σ 3 = .pointer (some ⟨Tb, 0, none⟩)) (hj : σ iv = .int .i64 j) (hi : i < n) (hjl : j < len)
    (hls : LS w0 w Tb Lb n pre post nl lv ts tcs) (hpre : pre.length = i * 5) (hc : w.cell? ⟨B, base + off, none⟩ = some (.slice (some ⟨A, ao, none⟩) len cap))
    (hg : k.ty T g) (hr : Rep O w g gcs) (hcs : Cells w ⟨A, ao + j * esz, none⟩ gcs) (hlen : tcs.length ≤ 2147483647)
    (hQ : ∀ σ' w' lv' cs, Ag a σ σ' → LS w0 w' Tb Lb n pre post nl lv' (ts ++ [g.told]) (tcs ++ [cs]) → Q .normal σ' w') : wpC P (appA k a i off iv esz) Q σ w := by
  have hn := k.n_pos
  have hls' : LS w0 w.drew Tb Lb n pre post nl lv ts tcs := hls.same (Mod.drew _ _)
  obtain ⟨lb, lc, hlv⟩ := hls.raw.len
  have hcl : ∀ w1, Mod [] w.drew w1 → w1.cell? ⟨Lb, i * 5 + 3, none⟩ = some lv := fun w1 hm => by
    rw [(hls'.same hm).tw.lb.cell]
    rw [← hpre]; simp
  simp only [appA, wpC]
  refine ⟨fun w w' => Mod [] w w', fun jj v w1 => if jj = 12 + k.n then BS w.heap.size (fun v => v = .agg tzero.toArray) v w1 else k.Phi w.heap.size g v w1, NT, fun w => Mod.refl _ w, fun _ _ _ => Mod.trans, fun jj v w1 w2 h hm => ?_, fun _ => trivial, ?_⟩
  · dsimp only at h hm ⊢
    split at h
    · rename_i hjj
      rw [if_pos hjj]
      obtain ⟨sb, cs, h1, h2, h3, h4⟩ := h
      exact ⟨sb, cs, h1, h2, h3.mod hm (by simp), h4⟩
    · rename_i hjj
      rw [if_neg hjj]; exact h.mod hm (by simp)
  refine headA_walk (R := fun w w' => Mod [] w w') ht hiv h0 h3 hj hi hjl (fun w1 hm => (hls'.same hm).tw.tb.cell 3) hcl (fun w1 hm => cell_mod (w := w.drew) hc hm (by simp)) fun σ1 a1 s1 s4 s10 => ?_
  refine EK.walk_wp (S := []) hk (by omega) s10 (fun w1 hm => hm) (fun _ _ h => h) (by simp) hg (hr.fresh (Mod.drew [] w) (by simp) (fun x hx => .inl hx)) (hcs.mod (Mod.drew [] w) (.inr (by simp))) (.inr trivial) (fun jj v w1 hjj => ?_) fun σ2 a2 hval => ?_
  · have := EK.node_lt hjj
    rw [if_neg (by omega)]; exact Iff.rfl
  refine walk_step (v := .int .i64 tcs.length) (fun w1 _ => by simp only [RK.val?, ev, a2 (a + 4) (by omega), s4, hlv]) ?_
  refine walk_node (fun w1 hm _ => ?_) fun u hu => ?_
  · refine bslice_run (cs := tzero) (n0 := w.heap.size) rfl rfl hm.size fun v w2 hbs hm2 => ?_
    refine ⟨hm2, ?_⟩
    rw [if_pos (by omega)]; exact hbs
  simp only [walk]
  intro w1 hm hkn
  have hm1 : Mod [] w w1 := (Mod.drew _ _).trans hm
  have hls1 := hls.same hm1
  have fr : ∀ q, q < a + 11 + k.n → (updo (updo σ2 (some (a + 11 + k.n)) (.int .i64 tcs.length)) (some (a + 12 + k.n)) u) q = σ2 q := fun q hq => by
    simp only [updo, upd, show q ≠ a + 12 + k.n by omega, show q ≠ a + 11 + k.n by omega, if_false]
  have hkv : k.val (a + 11) < a + 11 + k.n := by unfold EK.val; omega
  have hlen0 : (headA a i off iv esz).length = 11 := rfl
  obtain ⟨cs, hv, htree⟩ := hval w1 fun jj hjj => by
    obtain ⟨d, hd1, hd2, hd3, hd4⟩ := EK.dis_node (p := a + 10) (e := a + 11) hjj
    have hlt := EK.node_lt hjj
    have := hkn jj (by simp [headA, EK.dis_length]; omega) d (by
      rw [List.getElem?_append_right (by omega), hlen0, List.getElem?_append_left (by rw [EK.dis_length]; omega)]; exact hd1) hd2 (by rw [hd3]; rfl) _ hd4
    rwa [fr _ (by omega)] at this
  have hbs := hkn (12 + k.n) (by simp [headA, EK.dis_length]; omega) ⟨⟨some (a + 12 + k.n), .bslice 1 tzero [(0, 5, .const (.agg tzero.toArray))], none⟩, true, []⟩ (by
    rw [List.getElem?_append_right (by omega), hlen0, List.getElem?_append_right (by rw [EK.dis_length]; omega), EK.dis_length, show 12 + k.n - 11 - k.n = 1 by omega]; rfl) rfl rfl _ rfl
  dsimp only at hbs
  rw [if_pos rfl] at hbs
  simp only [updo, upd_same] at hbs
  obtain ⟨sb, es, rfl, hsb, hblk, h5, hes⟩ := hbs
  have hes' : es = tzero := by
    have := congrArg (fun v => match v with | Value.agg a => a.toList | _ => []) hes
    simpa using this
  subst hes'
  simp only [wpR, RI.wp, gOk, if_true]
  refine append_tree (lv := lv) (css := tcs) (n0 := w0.heap.size) ((fr (a + 4) (by omega)).trans ((a2 _ (by omega)).trans s4)) hls1.raw hls1.mod.size (by simp only [ev, updo, upd_same]) hblk rfl (by simp [tzero, Value.oneCell'])
    hlen fun lv' w2 hraw2 hown => ?_
  obtain ⟨htw2, hrep2, hm02, htree2⟩ := hls1.appended (wr := w) (hown.imp And.left id) (fun b hb => (hls.raw.own hb).2) hls.mod.size
  obtain ⟨o1, o2⟩ := hraw2.one
  obtain ⟨k1, k2, k3⟩ := htw2.setL hpre o1 o2
  have b1 : ∀ q, q < a + 11 + k.n → ∀ x y z, (updo (updo (updo (updo (updo σ2 (some (a + 11 + k.n)) (.int .i64 tcs.length)) (some (a + 12 + k.n)) (.slice (some ⟨sb, 0, none⟩) 1 1)) (some (a + 13 + k.n)) x) (some (a + 14 + k.n)) y) (some (a + 15 + k.n)) z) q = σ2 q := fun q hq x y z => by
    simp only [updo, upd, show q ≠ a + 11 + k.n by omega, show q ≠ a + 12 + k.n by omega, show q ≠ a + 13 + k.n by omega, show q ≠ a + 14 + k.n by omega, show q ≠ a + 15 + k.n by omega, if_false]
  have st1 : σ2 (a + 1) = .slice (some ⟨Lb, 0, none⟩) n n := by rw [a2 _ (by omega), s1]
  simp only [RK.run, ev]
  have c1 : ∀ x, updo (updo (updo σ2 (some (a + 11 + k.n)) (.int .i64 tcs.length)) (some (a + 12 + k.n)) (.slice (some ⟨sb, 0, none⟩) 1 1)) (some (a + 13 + k.n)) x (a + 1) = .slice (some ⟨Lb, 0, none⟩) n n := fun x => by
    simp only [updo, upd, show a + 1 ≠ a + 11 + k.n by omega, show a + 1 ≠ a + 12 + k.n by omega, show a + 1 ≠ a + 13 + k.n by omega, if_false, st1]
  simp only [c1]
  refine ⟨by omega, by omega, ?_⟩
  simp only [updo, upd_same, Int.toNat_natCast, Addr.add_mk, Nat.zero_add]
  have c13 : ∀ x y z q, upd (upd (upd q (a + 13 + k.n) x) (a + 14 + k.n) y) (a + 15 + k.n) z (a + 13 + k.n) = x := fun x y z q => by
    simp only [upd, show a + 13 + k.n ≠ a + 14 + k.n by omega, show a + 13 + k.n ≠ a + 15 + k.n by omega, if_false, if_true]
  simp only [c13]
  refine ⟨by rw [o1]; rfl, k1, ?_⟩
  simp only [thenC, wpR, RI.wp, gOk, if_true, RK.run, ev, c13]
  have hraw3 := hraw2.mod k3 (fun b hb => by
    have := (hraw2.own hb).1; have := hls.llb; simp; omega)
  obtain ⟨BA, cap', rfl, hBA, q1, q2, q3⟩ := hraw3.setLast htree.five htree.oneCell
  have c11 : ∀ x y z, upd (upd (upd (upd (upd σ2 (a + 11 + k.n) (.int .i64 tcs.length)) (a + 12 + k.n) x) (a + 13 + k.n) y) (a + 14 + k.n) z) (a + 15 + k.n) (.pointer (some ⟨Lb, i * 5 + 3, none⟩)) (a + 11 + k.n) = .int .i64 tcs.length := fun x y z => by
    simp only [upd, show a + 11 + k.n ≠ a + 12 + k.n by omega, show a + 11 + k.n ≠ a + 13 + k.n by omega, show a + 11 + k.n ≠ a + 14 + k.n by omega, show a + 11 + k.n ≠ a + 15 + k.n by omega, if_false, if_true]
  simp only [c11]
  refine ⟨by omega, by omega, ?_⟩
  simp only [Int.toNat_natCast, Addr.add_mk, Nat.zero_add]
  have cv : ∀ x y z u, upd (upd (upd (upd (upd (upd σ2 (a + 11 + k.n) (.int .i64 tcs.length)) (a + 12 + k.n) x) (a + 13 + k.n) y) (a + 14 + k.n) z) (a + 15 + k.n) (.pointer (some ⟨Lb, i * 5 + 3, none⟩))) (a + 16 + k.n) u (k.val (a + 11)) = .agg cs.toArray := fun x y z u => by
    rw [← hv]
    simp only [upd, show k.val (a + 11) ≠ a + 11 + k.n by omega, show k.val (a + 11) ≠ a + 12 + k.n by omega, show k.val (a + 11) ≠ a + 13 + k.n by omega, show k.val (a + 11) ≠ a + 14 + k.n by omega, show k.val (a + 11) ≠ a + 15 + k.n by omega,
      show k.val (a + 11) ≠ a + 16 + k.n by omega, if_false]
  simp only [upd_same, cv]
  have ec : (Value.agg cs.toArray).cells = cs.toArray := rfl
  rw [ec]
  refine ⟨by simp [htree.five], by simpa using q1, ?_⟩
  have hok : own (.slice (some ⟨BA, 0, none⟩) (tcs.length + 1) cap') = some BA := rfl
  have hLB : Lb < w0.heap.size := hls.llb
  have hTB : Tb < w0.heap.size := hls.ltb
  refine hQ _ _ (.slice (some ⟨BA, 0, none⟩) (tcs.length + 1) cap') cs (fun q hq => ?_) ⟨(k2.mod q3 (by simp; omega) (by simp; omega)), q2, ?_, ?_, hls.ltb, hls.llb⟩
  · simp only [upd, show q ≠ a + 11 + k.n by omega, show q ≠ a + 12 + k.n by omega, show q ≠ a + 13 + k.n by omega, show q ≠ a + 14 + k.n by omega, show q ≠ a + 15 + k.n by omega, show q ≠ a + 16 + k.n by omega, if_false]
    rw [a2 _ (by omega), a1 _ hq]
  · have hx : RepTL (fun b => w0.heap.size ≤ b ∧ own (.slice (some ⟨BA, 0, none⟩) (tcs.length + 1) cap') ≠ some b) w2 (ts ++ [g.told]) (tcs ++ [cs]) := hrep2.append (.cons (htree2 _ _ htree) .nil)
    refine (hx.mod k3 (fun b hb hc => ?_) (fun _ _ h => h)).mod q3 (fun b hb hc => ?_) (fun _ _ h => h)
    · simp only [List.mem_singleton] at hb; omega
    · simp only [List.mem_singleton] at hb; exact hc.2 (by rw [hok, hb])
  · refine ⟨q3.os.trans (k3.os.trans hm02.os), q3.tape.trans (k3.tape.trans hm02.tape), q3.output.trans (k3.output.trans hm02.output), Nat.le_trans hm02.size (Nat.le_trans k3.size q3.size), fun b hb hnb => ?_⟩
    rw [q3.block b (Nat.lt_of_lt_of_le hb (Nat.le_trans hm02.size k3.size)) (by simp; omega), k3.block b (Nat.lt_of_lt_of_le hb hm02.size) hnb]
    exact hm02.block b hb hnb

end
end Go.Msk
