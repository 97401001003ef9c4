/- A small language of resolved operations, and what the generic and the generated functions do in it (part 14). -/
import Derived.Test.YtfoljfjkifiboaaFm

namespace Go.Msk
open Go.RowKit
set_option maxRecDepth 100000
def fillV (p : PK) (x : TR) : Value :=
  match p with
  | .bool => .bool (decide (x.n % 2 = 1))
  | .i8 => .int .i8 (IntKind.i8.wrap x.n)
  | .i16 => .int .i16 (IntKind.i16.wrap x.n)
  | .u16 => .int .u16 (IntKind.u16.wrap x.n)
  | .i32 => .int .i32 (IntKind.i32.wrap x.n)
  | .str => str x.s
  | .uuid => .agg (u8s (uuidP x.s)).toArray
  | _ => .int .i64 x.n
def fillP (p : PK) (x : TR) : GV := match p with | .uuid => .arr (uuidP x.s) | _ => .num (fillV p x)
def fOk : PK → Bool
  | .bool | .i8 | .i16 | .u16 | .i32 | .i64 | .str | .uuid => true
  | _ => false
def Raw (ok : Nat → Prop) (w : World) (p : PK) (x : TR) (v : Value) : Prop :=
  match p with
  | .str => SlC ok w v x.s.length (u8s x.s)
  | .uuid => SlC ok w v x.s.length (u8s x.s)
  | _ => v = .int .i64 x.n
theorem Raw.of {ok : Nat → Prop} {w : World} {x : TR} {cs : List Value} (h : RepT ok w x cs) (p : PK) : ∃ v, cs[fldOf p]? = some v ∧ Raw ok w p x v := by
  cases h with
  | @mk n s null l u sv lv uv css uss q1 q2 q3 q4 q5 => cases p <;> first | exact ⟨_, rfl, rfl⟩ | exact ⟨_, rfl, q1⟩
def AtC (P : Program) (f : FuncId) : Prop := ∀ {ok : Nat → Prop} {w : World} {t : TR} {ts : List Value} {i : Nat}, RepT ok w t ts → Calls P f [.agg ts.toArray, .int .i64 (i : Nat)].toArray w fun e w' => ∃ cs, e = .returned (.agg cs.toArray) ∧ RepT ok w' (t.at i) cs ∧ Mod [] w w'
def SxC (P : Program) (f : FuncId) : Prop := ∀ {ok : Nat → Prop} {w : World} {v : Value} {s : List UInt8}, SlC ok w v s.length (u8s s) → Calls P f [v].toArray w fun e w' => e = .returned (.agg (u8s (uuidP s)).toArray) ∧ Mod [] w w'
theorem iAt_call {P : Program} {F : Nat → Nat} (hm : P.follows .mixedOrders = true) (h : liftF P (F iAt) = some (ir_iAt F)) : AtC P (F iAt) := by
  have h' : liftF P ((fun c => if c = sAt then F iAt else F c) sAt) = some (ir_sAt (fun c => if c = sAt then F iAt else F c)) := h
  intro ok w t ts i ht
  exact at_callO (F := fun c => if c = sAt then F iAt else F c) hm h' ht
theorem str_read {ok : Nat → Prop} {w : World} {v : Value} {s : List UInt8} {σ : Sl} {x : Operand} (hx : ev σ x = v) (h : SlC ok w v s.length (u8s s)) : (RK.b2s x).val? σ w = some (str s) := by
  obtain ⟨base, cap, rfl, h2, h3, h4⟩ := h
  simp only [RK.val?, hx]
  cases base with
  | none =>
    have h0 := h3 rfl
    have : s = [] := List.eq_nil_of_length_eq_zero (by omega)
    subst this; rfl
  | some a =>
    have hc : cellsAt w a 0 s.length = some (u8s s) := by
      by_cases h0 : 0 < cap
      · exact cellsAt_of' (h4 a rfl h0).2.2 (u8s_length s)
      · have : s = [] := List.eq_nil_of_length_eq_zero (by omega)
        subst this; rfl
    simp only [hc, Option.bind_some, bytesOf_u8s, Option.map_some, str]
section
variable {P : Program} {F : Nat → Nat}
attribute [local simp] gOk updo upd ev RK.val? isShift intBin Addr.add_mk args0 Value.cells undef
theorem iSx_call (hm : P.follows .mixedOrders = true) (h : liftF P (F iSixteen) = some (ir_iSixteen F)) : SxC P (F iSixteen) := by
  intro ok w v s hv
  unfold ir_iSixteen at h
  refine call_of h hm (by simp) ?_
  clear h
  rw [wpC_seq, wpC_blk]
  refine goAlloc fun w1 hb1 hm1 => ?_
  have hb1 : Blk w1 w.heap.size (u8s (List.replicate 16 0)) := hb1
  refine wpR_done ?_
  rw [wpC_seq, wpC_blk]
  refine go1 (v := .slice (some ⟨w.heap.size, 0, none⟩) 16 16) rfl (by simp) ?_
  refine go1 (v := v) rfl (by simp) ?_
  have hsrc : srcCells w1 1 v = some (s.length, u8s s) := (hv.mod (ok' := ok) hm1 (by simp) fun _ _ h => h).src
  refine wpR_run ?_
  simp only [RK.run, ev, updo, upd, if_true, show (3 : Nat) ≠ 4 by decide, if_false, hsrc]
  have hmin : Nat.min s.length 16 ≤ s.length := Nat.min_le_left _ _
  have hmin2 : Nat.min s.length 16 ≤ 16 := Nat.min_le_right _ _
  have hl : ((u8s s).take (Nat.min s.length 16 * 1)).length = Nat.min s.length 16 := by rw [List.length_take, u8s_length]; omega
  have hp := hb1.put (o := 0) (vs := (u8s s).take (Nat.min s.length 16 * 1)) (by rw [hl, u8s_length]; simp; omega)
  rw [uuid_splice] at hp
  refine ⟨stOk_many hb1 (by rw [hl, u8s_length]; simp; omega) (fun y hy => ?_), ?_⟩
  · have := List.mem_of_mem_take hy
    simp [u8s] at this; obtain ⟨b, -, rfl⟩ := this; rfl
  have hmp : Mod [w.heap.size] w1 (putCells w1 ⟨w.heap.size, 0, none⟩ 0 ((u8s s).take (Nat.min s.length 16 * 1))) := Mod.put (by simp)
  generalize putCells w1 ⟨w.heap.size, 0, none⟩ 0 ((u8s s).take (Nat.min s.length 16 * 1)) = w2 at hp hmp ⊢
  have hm02 : Mod [] w w2 := Mod.drop (b := w.heap.size) (S := []) (hm1.nil.trans hmp) (Nat.le_refl _)
  have hul : (u8s (uuidP s)).length = 16 := by rw [u8s_length, uuidP]; simp; omega
  refine wpR_done ?_
  rw [wpC_seq, wpC_blk]
  refine go1 (v := .agg (u8s (uuidP s)).toArray) rfl (by simp [cellsAt_of' hp.cells hul]) ?_
  refine goSt (b := w.heap.size) (v := .agg (u8s (uuidP s)).toArray) (by simp) (by simp) hp (by simp [hul]) hul (fun y hy => by
    simp [u8s] at hy; obtain ⟨b, -, rfl⟩ := hy; rfl) fun w3 hb3 hm3 => ?_
  have hb3 : Blk w3 w.heap.size (u8s (uuidP s)) := by simpa using hb3
  refine wpR_done (retN (by simp) hb3 hul ⟨rfl, Mod.drop (b := w.heap.size) (S := []) (hm02.nil.trans hm3) (Nat.le_refl _)⟩)
theorem atO_wp {E : FE} (hat : AtC P E.fat) {ok : Nat → Prop} {tb t i : Nat} {T : TR} {ts : List Value} {r : List RI} {σ : Sl} {w : World} {Q : Sl → World → Prop} (h : σ E.tr = .pointer (some ⟨tb, 0, none⟩)) (hb : Blk w tb ts) (hT : RepT ok w T ts)
    (hQ : ∀ σ' w' cs, (∀ s, s < t → σ' s = σ s) → σ' (t + 1) = .agg cs.toArray → RepT ok w' (T.at i) cs → Mod [] w w' → wpR P r σ' w' Q) : wpR P (E.atO t i ++ r) σ w Q := by
  unfold FE.atO
  simp only [List.cons_append, List.nil_append]
  refine go1 (v := .agg ts.toArray) rfl (by simp [h, cellsAt_of' hb.cells hT.five]) ?_
  refine goCall rfl (vs := [.agg ts.toArray, .int .i64 (i : Nat)]) (by simp) (hat hT) ?_
  rintro e w' ⟨cs, rfl, h1, h2⟩
  refine ⟨_, rfl, hQ _ w' cs (fun s hs => ?_) (by simp) h1 h2⟩
  simp only [updo, upd]
  repeat rw [if_neg (by omega)]
theorem aOps_wp {E : FE} {t : Nat} {r : List RI} {σ : Sl} {w : World} {Q : Sl → World → Prop} (hQ : ∀ σ', (∀ s, s < t → σ' s = σ s) → (E.ptr = true → σ' t = σ 0) → wpR P r σ' w Q) : wpR P (E.aOps t ++ r) σ w Q := by
  unfold FE.aOps
  cases he : E.ptr with
  | true =>
    simp only [if_true, List.cons_append, List.nil_append]
    refine go1 (v := σ 0) rfl (by simp) (hQ _ (fun s hs => ?_) fun _ => by simp)
    simp only [updo, upd]; rw [if_neg (by omega)]
  | false => exact hQ σ (fun _ _ => rfl) fun h => by rw [he] at h; cases h
theorem stO_wp {E : FE} {t u off sz v B : Nat} {x : Value} {cells : List Value} {σ : Sl} {w : World} {Q : Sl → World → Prop} (hp : E.ptr = true → σ t = .pointer (some ⟨B, 0, none⟩)) (h3 : E.ptr = false → σ 3 = .pointer (some ⟨B, 0, none⟩)) (hv : σ v = x) (hvu : v < u) (h3u : 3 < u)
    (hb : Blk w B cells) (hx : x.cells.size = sz) (h1 : ∀ y ∈ x.cells.toList, y.oneCell' = true) (ho : off + sz ≤ cells.length) (hQ : ∀ σ' w', (∀ s, s < u → σ' s = σ s) → Blk w' B (splice cells off x.cells.toList) → Mod [B] w w' → Q σ' w') : wpR P (E.stO t u off sz v) σ w Q := by
  have hl : x.cells.toList.length = sz := by simpa using hx
  unfold FE.stO
  cases he : E.ptr with
  | true =>
    simp only [if_true]
    refine go1 (v := .pointer (some ⟨B, 0, none⟩)) rfl (by simp [hp he]) ?_
    refine go1 (v := .pointer (some ⟨B, off, none⟩)) rfl (by simp) ?_
    refine wpR_run ?_
    have e1 : updo (updo σ (some u) (.pointer (some ⟨B, 0, none⟩))) (some (u + 1)) (.pointer (some ⟨B, off, none⟩)) v = x := by
      simp only [updo, upd]; rw [if_neg (by omega), if_neg (by omega)]; exact hv
    simp only [RK.run, ev, e1]
    simp only [updo, upd, if_true]
    refine ⟨hx, stOk_many hb (by omega) h1, goEnd (hQ _ _ (fun s hs => ?_) (hb.put (by omega)) (Mod.put (by simp)))⟩
    simp only [upd]; rw [if_neg (by omega), if_neg (by omega)]
  | false =>
    simp only [Bool.false_eq_true, if_false]
    refine go1 (v := .pointer (some ⟨B, off, none⟩)) rfl (by simp [h3 he]) ?_
    refine wpR_run ?_
    have e1 : updo σ (some u) (.pointer (some ⟨B, off, none⟩)) v = x := by
      simp only [updo, upd]; rw [if_neg (by omega)]; exact hv
    simp only [RK.run, ev, e1]
    simp only [updo, upd, if_true]
    refine ⟨hx, stOk_many hb (by omega) h1, goEnd (hQ _ _ (fun s hs => ?_) (hb.put (by omega)) (Mod.put (by simp)))⟩
    simp only [upd]; rw [if_neg (by omega)]
theorem conv_wp {K : IntKind} {a : Nat} {n : Int} {r : List RI} {σ : Sl} {w : World} {Q : Sl → World → Prop} (hr : σ a = .int .i64 n) (hQ : ∀ σ', (∀ s, s ≤ a → σ' s = σ s) → σ' (a + 1) = .int K (K.wrap n) → wpR P r σ' w Q) : wpR P (⟨some (a + 1), .conv K (.tmp a), none⟩ :: r) σ w Q := by
  refine go1 (v := .int K (K.wrap n)) rfl (by simp [hr]) (hQ _ (fun s hs => ?_) (by simp))
  simp only [updo, upd]; rw [if_neg (by omega)]
theorem cvR_wp {sx : FuncId} {p : PK} (hsx : p = .uuid → SxC P sx) (hp : fOk p = true) {ok : Nat → Prop} {a : Nat} {x : TR} {r : List RI} {σ : Sl} {w : World} {Q : Sl → World → Prop} (hr : Raw ok w p x (σ a))
    (hQ : ∀ σ' w', (∀ s, s ≤ a → σ' s = σ s) → σ' (a + cvN p) = fillV p x → Mod [] w w' → wpR P r σ' w' Q) : wpR P (cvR sx p a ++ r) σ w Q := by
  cases p <;> simp only [fOk, Bool.false_eq_true] at hp <;> simp only [cvR, List.cons_append, List.nil_append, Raw] at hr ⊢
  case bool =>
    refine go1 (v := .int .i64 (x.n % 2)) rfl (by simp only [RK.val?, ev, hr, isShift, decide_true, Bool.or_true, if_true]; exact and1_i64 x.n) ?_
    refine go1 (v := .bool (decide (x.n % 2 = 1))) rfl (by simp; by_cases e : x.n % 2 = 1 <;> simp [e]) ?_
    refine hQ _ w (fun s hs => ?_) (by simp [cvN, fillV]) (Mod.refl _ _)
    simp only [updo, upd]; rw [if_neg (by omega), if_neg (by omega)]
  case i64 => exact hQ σ w (fun _ _ => rfl) (by simpa [cvN, fillV] using hr) (Mod.refl _ _)
  case str =>
    refine go1 (v := Msk.str x.s) rfl (str_read rfl hr) ?_
    refine hQ _ w (fun s hs => ?_) (by simp [cvN, fillV]) (Mod.refl _ _)
    simp only [updo, upd]; rw [if_neg (by omega)]
  case uuid =>
    refine goCall rfl (vs := [σ a]) (by simp) (hsx rfl hr) ?_
    rintro e w' ⟨rfl, h2⟩
    refine ⟨_, rfl, hQ _ w' (fun s hs => ?_) (by simp [cvN, fillV]) h2⟩
    simp only [updo, upd]; rw [if_neg (by omega)]
  case i8 => exact conv_wp hr fun σ' h1 h2 => hQ σ' w h1 h2 (Mod.refl _ _)
  case i16 => exact conv_wp hr fun σ' h1 h2 => hQ σ' w h1 h2 (Mod.refl _ _)
  case u16 => exact conv_wp hr fun σ' h1 h2 => hQ σ' w h1 h2 (Mod.refl _ _)
  case i32 => exact conv_wp hr fun σ' h1 h2 => hQ σ' w h1 h2 (Mod.refl _ _)
end
end Go.Msk

namespace Go.Msk
open Go.RowKit
set_option maxRecDepth 100000
section
variable {P : Program} {F : Nat → Nat}
theorem tSetO_call {w : World} (hm : P.follows .mixedOrders = true) (h : liftF P (F tSet) = some (ir_tSet F)) {tb k o : Nat} {pre post : List Value} {mv v : Value} {m : List (Nat × List UInt8)} {l : List UInt8} {ok : Nat → Prop} (hb : Blk w tb (pre ++ mv :: post)) (ho : pre.length = o) (hM : TagM ok w mv m) (hk : k < 4294967296)
    (hv : SlC ok w v l.length (u8s l)) (htb : ¬ ok tb) (hr0 : ∀ r, mv = .map (some r) → ¬ ok r ∧ r ≠ tb) :
    Calls P (F tSet) [.pointer (some ⟨tb, o, none⟩), .int .u32 k, v].toArray w fun e w' => e = .returned (.tuple #[]) ∧ ∃ r, Blk w' tb (pre ++ .map (some r) :: post) ∧ MapRep (fun b => ok b ∧ b < w.heap.size) w' r (putTag m k l) ∧ r ≠ tb ∧
      ((mv = .map (some r) ∧ Mod [tb, r] w w') ∨ (mv = .map none ∧ w.heap.size ≤ r ∧ Mod [tb] w w')) := by
  unfold ir_tSet at h
  refine call_of h hm (by simp) ?_
  have a0 : args0 [.pointer (some ⟨tb, o, none⟩), .int .u32 k, v] 0 = .pointer (some ⟨tb, o, none⟩) := rfl
  have a1 : args0 [.pointer (some ⟨tb, o, none⟩), .int .u32 k, v] 1 = .int .u32 k := rfl
  have a2 : args0 [.pointer (some ⟨tb, o, none⟩), .int .u32 k, v] 2 = v := rfl
  generalize args0 [.pointer (some ⟨tb, o, none⟩), .int .u32 k, v] = σ0 at a0 a1 a2 ⊢
  have c0 : w.cell? ⟨tb, o, none⟩ = some mv := by rw [hb.cell o]; simp [← ho]
  have htl := hb.lt
  -- what happens once there is a map
  have key : ∀ (σ : Sl) (w1 : World) (r : Nat), σ 0 = .pointer (some ⟨tb, o, none⟩) → σ 1 = .int .u32 k → σ 2 = v → Blk w1 tb (pre ++ .map (some r) :: post) → MapRep (fun b => ok b ∧ b < w.heap.size) w1 r m → r ≠ tb → ¬ (ok r ∧ r < w.heap.size) → w.heap.size ≤ w1.heap.size → SlC (fun b => ok b ∧ b < w.heap.size) w1 v l.length (u8s l) →
      ((mv = .map (some r) ∧ w1 = w) ∨ (mv = .map none ∧ w.heap.size ≤ r ∧ Mod [tb] w w1)) →
      wpC P (.blk [⟨some 15, .mv (.tmp 0), none⟩, ⟨some 16, .nilc (.tmp 15), none⟩, ⟨some 17, .fad (.tmp 16) 0, none⟩, ⟨some 18, .ld (.tmp 17), none⟩, ⟨some 19, .mv (.tmp 1), none⟩, ⟨some 20, .mv (.tmp 2), none⟩, ⟨none, .mapup (.tmp 18) (.tmp 19) (.tmp 20), none⟩])
        (postC [] fun e w' => e = .returned (.tuple #[]) ∧ ∃ r, Blk w' tb (pre ++ .map (some r) :: post) ∧ MapRep (fun b => ok b ∧ b < w.heap.size) w' r (putTag m k l) ∧ r ≠ tb ∧
          ((mv = .map (some r) ∧ Mod [tb, r] w w') ∨ (mv = .map none ∧ w.heap.size ≤ r ∧ Mod [tb] w w'))) σ w1 := by
    intro σ w1 r s0 s1 s2 hb1 hM1 hrt hnr hsz hv1 hcase
    have c1 : w1.cell? ⟨tb, o, none⟩ = some (.map (some r)) := by rw [hb1.cell o]; simp [← ho]
    have hrl := hM1.lt
    obtain ⟨es, clock, he1, he2, he3, he4⟩ := hM1.ex
    obtain ⟨es', c', p1, p2, p3, p4⟩ := mapPut_list es clock k v he3 he4
    rw [wpC_blk]
    refine wpR_step (v := .pointer (some ⟨tb, o, none⟩)) (congrArg some s0) ?_
    refine wpR_step (v := .pointer (some ⟨tb, o, none⟩)) (by simp only [RK.val?, ev, updo, upd, if_true]) ?_
    refine wpR_step (v := .pointer (some ⟨tb, o, none⟩)) (by simp only [RK.val?, ev, updo, upd, if_true, Addr.add_mk, Nat.add_zero]) ?_
    refine wpR_step (v := .map (some r)) (by simp only [RK.val?, ev, updo, upd, if_true, c1]) ?_
    refine wpR_step (v := .int .u32 k) (by simp only [RK.val?, ev, updo, upd]; simp [s1]) ?_
    refine wpR_step (v := v) (by simp only [RK.val?, ev, updo, upd]; simp [s2]) ?_
    refine wpR_run ?_
    simp only [RK.run, ev, updo, upd, show (18 : Nat) ≠ 20 by decide, show (18 : Nat) ≠ 19 by decide, show (19 : Nat) ≠ 20 by decide, if_false, if_true, he1]
    refine ⟨he2.keys, ?_⟩
    simp only [wpR, postC, rvals, List.mapM_nil, Option.pure_def, tup]
    refine ⟨trivial, r, ?_, ?_, hrt, ?_⟩
    · exact hb1.mod (Mod.putObj (S := [r]) (by simp)) (by simp; omega)
    · rw [p1]
      have hmd : Mod [r] w1 (putObj w1 r (.map es' c')) := Mod.putObj (by simp)
      refine ⟨⟨es', c', putObj_get hrl, ?_, p3, p4⟩, putTag_nodup hM1.keys⟩
      rw [p2]
      exact (he2.put hk hv1).mod hmd (fun b hb hx => by simp only [List.mem_singleton] at hb; subst hb; exact hnr hx) fun _ _ h => h
    · rcases hcase with ⟨h1, h2⟩ | ⟨h1, h2, h3⟩
      · refine .inl ⟨h1, ?_⟩
        rw [h2]; exact Mod.putObj (by simp)
      · refine .inr ⟨h1, h2, ?_⟩
        have hmd : Mod [r, tb] w1 (putObj w1 r (mapPut es clock .u32 k v)) := Mod.putObj (by simp)
        exact Mod.drop (b := r) (S := [tb]) ((h3.mono (by simp)).trans hmd) h2
  generalize postC [] _ = Q at key ⊢
  rw [wpC_seq, wpC_seq, wpC_blk]
  refine wpR_step (v := .pointer (some ⟨tb, o, none⟩)) (congrArg some a0) ?_
  refine wpR_step (v := .pointer (some ⟨tb, o, none⟩)) (by simp only [RK.val?, ev, updo, upd, if_true]) ?_
  refine wpR_step (v := .pointer (some ⟨tb, o, none⟩)) (by simp only [RK.val?, ev, updo, upd, if_true, Addr.add_mk, Nat.add_zero]) ?_
  refine wpR_step (v := mv) (by simp only [RK.val?, ev, updo, upd, if_true, c0]) ?_
  have hv2 : SlC (fun b => ok b ∧ b < w.heap.size) w v l.length (u8s l) := hv.mod (Mod.refl [] _) (by simp) fun b hb hx => ⟨hx, hb⟩
  rcases hM with ⟨rfl, rfl⟩ | ⟨r, rfl, hM⟩
  · refine wpR_step (v := .bool true) (by simp only [RK.val?, ev, updo, upd, if_true]; rfl) ?_
    refine wpR_done ?_
    rw [wpC_cond_t rfl, wpC_blk]
    refine wpR_step (v := .pointer (some ⟨tb, o, none⟩)) (by simp only [RK.val?, ev, updo, upd]; simp [a0]) ?_
    refine wpR_run ?_
    simp only [RK.run]
    refine wpR_step (v := .pointer (some ⟨tb, o, none⟩)) (by simp only [RK.val?, ev, updo, upd]; simp) ?_
    refine wpR_step (v := .pointer (some ⟨tb, o, none⟩)) (by simp only [RK.val?, ev, updo, upd, if_true, Addr.add_mk, Nat.add_zero]) ?_
    refine wpR_run ?_
    have hma : Mod [] w (w.alloc (.map #[] 0)) := Mod.alloc _ _ _
    have hsz : (w.alloc (.map #[] 0)).heap.size = w.heap.size + 1 := by simp
    have hget : (w.alloc (.map #[] 0)).heap[w.heap.size]? = some (.map #[] 0) := heap_alloc_new w _
    have hba := hb.mod hma (by simp)
    generalize w.alloc (.map #[] 0) = w1 at hma hsz hget hba ⊢
    simp only [RK.run, ev, updo, upd, if_true, show (12 : Nat) ≠ 14 by decide, show (12 : Nat) ≠ 13 by decide, if_false]
    have ec : (Value.map (some w.heap.size)).cells = #[.map (some w.heap.size)] := rfl
    rw [ec]
    have hput : Mod [tb] w1 (putCells w1 ⟨tb, o, none⟩ 0 [.map (some w.heap.size)]) := Mod.put (by simp)
    have hp := hba.put (o := o) (vs := [.map (some w.heap.size)]) (by simp only [List.length_append, List.length_cons, List.length_nil]; omega)
    rw [show pre ++ (Value.map none) :: post = pre ++ ([Value.map none] ++ post) by rfl, splice_mid (old := [Value.map none]) (vs := [Value.map (some w.heap.size)]) ho rfl] at hp
    refine ⟨rfl, stOk_one hba (by simp only [List.length_append, List.length_cons]; omega) rfl, ?_⟩
    refine wpR_done ?_
    generalize hσ : upd _ 14 _ = σ1
    have s0 : σ1 0 = .pointer (some ⟨tb, o, none⟩) := by rw [← hσ]; simp [upd, a0]
    have s1 : σ1 1 = .int .u32 k := by rw [← hσ]; simp [upd, a1]
    have s2 : σ1 2 = v := by rw [← hσ]; simp [upd, a2]
    clear hσ
    refine key σ1 _ w.heap.size s0 s1 s2 hp ?_ (by omega) (fun h => by omega) (by rw [size_putCells]; omega) ?_ (.inr ⟨rfl, Nat.le_refl _, hma.nil.trans hput⟩)
    · refine ⟨⟨#[], 0, ?_, .nil, by simp, by simp⟩, by simp⟩
      rw [hput.block _ (by omega) (by simp; omega)]; exact hget
    · exact (hv2.mod hma (by simp) fun _ _ h => h).mod hput (fun b hb hx => by simp only [List.mem_singleton] at hb; subst hb; exact htb hx.1) fun _ _ h => h
  · refine wpR_step (v := .bool false) (by simp only [RK.val?, ev, updo, upd, if_true]; rfl) ?_
    refine wpR_done ?_
    rw [wpC_cond_f rfl, wpC_skip]
    simp only [thenC]
    obtain ⟨q1, q2⟩ := hr0 r rfl
    generalize hσ : updo _ (some 10) _ = σ1
    have s0 : σ1 0 = .pointer (some ⟨tb, o, none⟩) := by rw [← hσ]; simp [updo, upd, a0]
    have s1 : σ1 1 = .int .u32 k := by rw [← hσ]; simp [updo, upd, a1]
    have s2 : σ1 2 = v := by rw [← hσ]; simp [updo, upd, a2]
    clear hσ
    refine key σ1 _ r s0 s1 s2 hb (hM.mod (Mod.refl [] _) (by simp) (by simp) fun b hb hx => ⟨hx, hb⟩) q2 (fun h => q1 h.1) (Nat.le_refl _) hv2 (.inl ⟨rfl, rfl⟩)
end
end Go.Msk

namespace Go.Msk
open Go.RowKit
set_option maxRecDepth 100000
abbrev NTill (k0 : Nat) (A : World → Prop) : Nat → World → Prop := fun j w => j = k0 → A w
theorem wpD_of_R {P : Program} {l : List DI} {sinks : List RI} {σ : Sl} {w0 : World} {Q : Sl → World → Prop} (S : List Nat) (good A : World → Prop) (k0 : Nat) (Φ : Nat → Value → World → Prop)
    (hst : ∀ j v w w', Φ j v w → Mod S w w' → (good w → good w') → Φ j v w') (hA : A w0)
    (h : walk P l (fun w w' => Mod S w w' ∧ (good w → good w')) Φ (NTill k0 A) w0 (fun σ' => ∀ w, (Mod S w0 w ∧ (good w0 → good w)) → known l Φ (List.range l.length) σ' w → wpR P sinks σ' w Q) 0 l σ) : wpD P l sinks σ w0 Q :=
  ⟨_, Φ, NTill k0 A, fun _ => ⟨Mod.refl _ _, id⟩, fun _ _ _ h1 h2 => ⟨h1.1.trans h2.1, fun h => h2.2 (h1.2 h)⟩, fun j v w w' h1 h2 => hst j v w w' h1 h2.1 h2.2, fun _ _ => hA, h⟩
section
variable {P : Program} {l : List DI} {R : World → World → Prop} {Φ : Nat → Value → World → Prop} {N : Nat → World → Prop} {w0 : World} {E : Sl → Prop} {n : Nat} {k : RK} {d : Option Nat} {ds : List Nat} {r : List DI} {σ : Sl}
theorem wn_step {v : Value} (hv : ∀ w, R w0 w → k.val? σ w = some v) (h : walk P l R Φ N w0 E (n + 1) r (updo σ d v)) : walk P l R Φ N w0 E n (⟨⟨d, k, none⟩, false, ds⟩ :: r) σ := by
  simp only [walk, gOk, if_true, Bool.false_eq_true, if_false]
  exact ⟨v, fun w hw _ => hv w hw, h⟩
theorem wn_node (hn : ∀ w, R w0 w → N n w → known l Φ ds σ w → k.run P σ w fun v w' => R w w' ∧ Φ n v w' ∧ ∀ j, j ≠ n → N j w → N j w') (h : ∀ v, (∃ w, Φ n v w) → walk P l R Φ N w0 E (n + 1) r (updo σ d v)) : walk P l R Φ N w0 E n (⟨⟨d, k, none⟩, true, ds⟩ :: r) σ := by
  simp only [walk, gOk, if_true]
  exact ⟨fun w h1 h0 h2 => hn w h1 h0 h2, h⟩
end
theorem append_in {P : Program} {σ : Sl} {w : World} {x y : Operand} {BA j n sz bytes sb : Nat} {flat rest es : List Value} {K : Value → World → Prop} (hx : ev σ x = .slice (some ⟨BA, 0, none⟩) j n) (hy : ev σ y = .slice (some ⟨sb, 0, none⟩) 1 1) (hsb : Blk w sb es) (hba : Blk w BA (flat ++ rest))
    (hf : flat.length = j * sz) (he : es.length = sz) (hr : rest.length = (n - j) * sz) (hj : j < n) (h1 : ∀ v ∈ es, v.oneCell' = true) (hK : ∀ w', Blk w' BA (flat ++ (es ++ rest.drop sz)) → Mod [BA] w w' → K (.slice (some ⟨BA, 0, none⟩) (j + 1) n) w') : (RK.append x y sz bytes).run P σ w K := by
  have hsrc : srcCells w sz (.slice (some ⟨sb, 0, none⟩) 1 1) = some (1, es) := by
    simp only [srcCells, cellsAt_of' hsb.cells (n := 1 * sz) (by omega), Option.map_some]
  have hrl : sz ≤ rest.length := by
    rw [hr]
    have : 1 ≤ n - j := by omega
    calc sz = 1 * sz := by omega
      _ ≤ (n - j) * sz := Nat.mul_le_mul_right _ this
  simp only [RK.run, hx, hy, hsrc, appendRun]
  rw [if_pos (by omega)]
  simp only [Addr.add_mk, Nat.zero_add]
  have hput := hba.put (o := j * sz) (vs := es) (by simp only [List.length_append]; omega)
  refine ⟨stOk_many hba (by simp only [List.length_append]; omega) h1, hK _ ?_ (Mod.put (by simp))⟩
  have e : splice (flat ++ rest) (j * sz) es = flat ++ (es ++ rest.drop sz) := by rw [splice_end hf, he]
  rwa [e] at hput
structure LSt (w0 w : World) (B BA off n sz : Nat) (pre post : List Value) (O : List Nat) (gs : List GV) (css : List (List Value)) : Prop where
  po : pre.length = off
  b : Blk w B (pre ++ (.slice (some ⟨BA, 0, none⟩) css.length n :: post))
  a : ∃ rest, Blk w BA (css.flatten ++ rest) ∧ rest.length = (n - css.length) * sz
  rep : RepL (BA :: O) w gs css
  sz : ∀ cs ∈ css, cs.length = sz
  m : Mod [B] w0 w
  bo : B ∈ O
  ba : w0.heap.size ≤ BA
  bl : B < w0.heap.size
theorem flat_len' {n : Nat} : ∀ {css : List (List Value)}, (∀ c ∈ css, c.length = n) → css.flatten.length = css.length * n
  | [], _ => by simp
  | c :: css, h => by
    have h1 := h c (by simp)
    have h2 := flat_len' (css := css) fun x hx => h x (by simp [hx])
    simp only [List.flatten_cons, List.length_append, List.length_cons, h1, h2, Nat.add_mul, Nat.one_mul]; omega
theorem LSt.same {w0 w w' : World} {B BA off n sz : Nat} {pre post : List Value} {O : List Nat} {gs : List GV} {css : List (List Value)} (h : LSt w0 w B BA off n sz pre post O gs css) (hm : Mod [] w w') : LSt w0 w' B BA off n sz pre post O gs css := by
  obtain ⟨rest, h1, h2⟩ := h.a
  exact ⟨h.po, h.b.mod hm (by simp), ⟨rest, h1.mod hm (by simp), h2⟩, h.rep.mod hm (by simp), h.sz, h.m.trans hm.nil, h.bo, h.ba, h.bl⟩
theorem LSt.cell {w0 w : World} {B BA off n sz : Nat} {pre post : List Value} {O : List Nat} {gs : List GV} {css : List (List Value)} (h : LSt w0 w B BA off n sz pre post O gs css) : w.cell? ⟨B, off, none⟩ = some (.slice (some ⟨BA, 0, none⟩) css.length n) := by
  rw [h.b.cell off, ← h.po]; simp
theorem LSt.snoc {w0 w w' w'' : World} {B BA off n sz : Nat} {pre post rest es : List Value} {O : List Nat} {gs : List GV} {css : List (List Value)} {g : GV} (h : LSt w0 w B BA off n sz pre post O gs css) (hrl : rest.length = (n - css.length) * sz)
    (hes : es.length = sz) (hm : Mod [BA] w w') (hba : Blk w' BA (css.flatten ++ (es ++ rest.drop sz))) (hrep : Rep (BA :: O) w' g es) (hm2 : Mod [B] w' w'') (hb : Blk w'' B (pre ++ (.slice (some ⟨BA, 0, none⟩) (css.length + 1) n :: post))) :
    LSt w0 w'' B BA off n sz pre post O (gs ++ [g]) (css ++ [es]) := by
  have hBB : BA ≠ B := fun e => by have := h.ba; have := h.bl; omega
  refine ⟨h.po, by simpa using hb, ⟨rest.drop sz, ?_, ?_⟩, ?_, ?_, ?_, h.bo, h.ba, h.bl⟩
  · have := hba.mod hm2 (by simpa using hBB)
    simpa [List.append_assoc] using this
  · rw [List.length_drop, hrl]
    simp only [List.length_append, List.length_cons, List.length_nil]
    rw [show n - (css.length + (0 + 1)) = n - css.length - 1 by omega, Nat.sub_mul (n - css.length) 1 sz, Nat.one_mul]
  · have h1 : RepL (BA :: O) w' gs css := h.rep.mod hm (by simp)
    exact (h1.append (.cons hrep .nil)).mod hm2 (by simp [h.bo])
  · intro cs hc
    rcases List.mem_append.1 hc with hc | hc
    · exact h.sz cs hc
    · simp only [List.mem_singleton] at hc; subst hc; exact hes
  · have e1 : Mod [BA, B] w0 w' := ((h.m.mono (by simp)).trans (hm.mono (by simp)))
    exact Mod.drop (b := BA) (S := [B]) (e1.trans (hm2.mono (by simp))) h.ba
def MakeC (P : Program) (f : FuncId) (vals : TR → List GV) : Prop :=
  ∀ (O : List Nat) (w : World) (T : TR) (ts : List Value), (∀ b ∈ O, b < w.heap.size) → T.sml → T.kok → RepT (fun b => b ∉ O) w T ts →
    Calls P f [.agg ts.toArray].toArray w fun e w' => ∃ css, e = .returned (.agg css.flatten.toArray) ∧ RepL O w' (vals T) css ∧ Mod [] w w'
theorem RepL.wid {O : List Nat} {w : World} : ∀ {l : List GV} {css : List (List Value)}, RepL O w l css → css.flatten.length = GV.wids l
  | [], _, h => by cases h; rfl
  | g :: l, _, h => by cases h with | cons h1 h2 => simp [GV.wids, h1.wid, RepL.wid h2]
section
variable {P : Program} {F : Nat → Nat}
attribute [local simp] gOk updo upd ev RK.val? isShift intBin Addr.add_mk args0 Value.cells undef
theorem appS_wp {E : FE} {c xv off bytes B BA n xb : Nat} {f : FuncId} {z : List Value} {vals : TR → List GV} {w0 w : World} {pre post : List Value} {O : List Nat} {gs : List GV} {css : List (List Value)} {x : TR} {xs : List Value} {σ : Sl} {Q : Exit → Sl → World → Prop}
    (hmk : MakeC P f vals) (hw : GV.wids (vals x) = z.length) (hxs : x.sml) (hxk : x.kok) (hc : 3 < c) (hxc : xv < c) (hp : E.ptr = true → σ 0 = .pointer (some ⟨B, 0, none⟩)) (h3 : E.ptr = false → σ 3 = .pointer (some ⟨B, 0, none⟩)) (hxv : σ xv = .pointer (some ⟨xb, 0, none⟩))
    (hb : Blk w xb xs) (hx : RepT (fun b => b ∉ BA :: O) w x xs) (hxB : xb ≠ BA) (hl : LSt w0 w B BA off n z.length pre post O gs css) (hn : css.length < n) (hO : ∀ b ∈ BA :: O, b < w.heap.size)
    (hQ : ∀ σ' w' css', (∀ s, s < c → σ' s = σ s) → LSt w0 w' B BA off n z.length pre post O (gs ++ [.rcd (vals x)]) (css ++ [css']) → Mod [BA, B] w w' → Q .normal σ' w') : wpC P (appS E c xv off bytes f z) Q σ w := by
  have hBB : BA ≠ B := fun e => by have := hl.ba; have := hl.bl; omega
  have fin : ∀ (w5 w6 w7 : World) (rest : List Value) (ecss : List (List Value)), rest.length = (n - css.length) * z.length → Mod [BA] w w5 → Blk w5 BA (css.flatten ++ (ecss.flatten ++ rest.drop z.length)) → RepL (BA :: O) w5 (vals x) ecss → Mod [B] w5 w6 → Blk w6 B (pre ++ (.slice (some ⟨BA, 0, none⟩) (css.length + 1) n :: post)) →
      LSt w0 w6 B BA off n z.length pre post O (gs ++ [.rcd (vals x)]) (css ++ [ecss.flatten]) ∧ Mod [BA, B] w w6 := by
    intro w5 w6 _ rest ecss hr h1 h2 h4 h5 h6
    exact ⟨hl.snoc hr (by rw [RepL.wid h4, hw]) h1 h2 (.rcd h4) h5 h6, (h1.mono (by simp)).trans (h5.mono (by simp))⟩
  unfold appS
  cases he : E.ptr with
  | false =>
    simp only [Bool.false_eq_true, if_false, wpC]
    have s3 := h3 he
    have hld := hl.same (Mod.drew [] w)
    have hbd : Blk w.drew xb xs := hb.mod (Mod.drew [] w) (by simp)
    have hxd : RepT (fun b => b ∉ BA :: O) w.drew x xs := hx.mod (Mod.drew [] w) (by simp) fun _ _ h => h
    refine wpD_of_B (fun i v w' => match i with | 3 => ∃ es, v = .agg es.flatten.toArray ∧ RepL (BA :: O) w' (vals x) es | 4 => ∃ sb es, v = .slice (some ⟨sb, 0, none⟩) 1 1 ∧ Blk w' sb es.flatten ∧ RepL (BA :: O) w' (vals x) es | _ => True) (by
      intro i v w w' h hm
      split at h
      · obtain ⟨es, e1, e2⟩ := h; exact ⟨es, e1, e2.mod hm (by simp)⟩
      · obtain ⟨sb, es, e1, e2, e3⟩ := h; exact ⟨sb, es, e1, e2.mod hm (by simp), e3.mod hm (by simp)⟩
      · trivial) ?_
    refine bo1 (v := .pointer (some ⟨B, off, none⟩)) rfl (by simp [s3]) ?_
    refine bo1 (v := .slice (some ⟨BA, 0, none⟩) css.length n) rfl (by simp [hld.cell]) ?_
    refine bo1 (v := .agg xs.toArray) rfl (by simp [show xv ≠ c + 1 by omega, show xv ≠ c by omega, hxv, cellsAt_of' hbd.cells hx.five]) ?_
    refine boCall (vs := [.agg xs.toArray]) rfl (by simp) (fun w' hm' _ => (hmk (BA :: O) w' x xs (fun b hb => Nat.lt_of_lt_of_le (hO b hb) (Nat.le_trans (Mod.drew [] w).size hm'.size)) hxs hxk (hxd.mod hm' (by simp) fun _ _ h => h)).mono ?_) ?_
    · rintro e w'' ⟨es, rfl, h1, h2⟩; exact ⟨_, rfl, h2, es, rfl, h1⟩
    rintro v3 ⟨_, es3, rfl, hr3⟩
    have hl3 : es3.flatten.length = z.length := by rw [RepL.wid hr3, hw]
    refine boN rfl (fun w' hm' hkn => ?_) ?_
    · obtain ⟨es, e1, e2⟩ := known_get (j := 3) (t := c + 3) hkn (by simp) rfl rfl rfl rfl
      simp only [updo, upd, if_true] at e1
      have e1' : es3.flatten = es.flatten := by
        have := congrArg (fun v => match v with | Value.agg a => a.toList | _ => []) e1
        simpa using this
      have hf : fillL (zrep 1 z) [(0, z.length, Value.agg es3.flatten.toArray)] = some es3.flatten := by
        simp only [fillL, zrep, List.replicate, List.flatten_cons, List.flatten_nil, List.append_nil]
        rw [if_pos ⟨by simp [Value.cells, hl3], by omega⟩]
        simp [splice, Value.cells, hl3]
      simp only [RK.run, List.map_cons, List.map_nil, ev, updo, upd, if_true, hf]
      intro T
      exact ⟨Mod.alloc _ _ _, w'.heap.size, es, rfl, by rw [← e1']; exact Blk.new _ _ _, e2.mod (Mod.alloc [] _ _) (by simp)⟩
    rintro v4 -
    intro w5 hm5 hkn
    obtain ⟨sb, es, e8, hblk, hrep⟩ := known_get (j := 4) (t := c + 4) hkn (by simp) rfl rfl rfl rfl
    simp only [updo, upd, if_true] at e8
    subst e8
    have hl5 := hld.same hm5
    obtain ⟨rest, ha, hrest⟩ := hl5.a
    have hm05 : Mod [] w w5 := (Mod.drew _ _).trans hm5
    refine wpR_run ?_
    refine append_in (BA := BA) (j := css.length) (n := n) (sb := sb) (flat := css.flatten) (rest := rest) (es := es.flatten) (by simp) (by simp) hblk ha (flat_len' hl.sz) (by rw [RepL.wid hrep, hw]) hrest hn (fun v hv => (Rep.rcd hrep).oneCell v hv) fun w6 hb6 hm6 => ?_
    refine go1 (v := .pointer (some ⟨B, off, none⟩)) rfl (by
      simp only [RK.val?, ev, updo, upd]
      repeat rw [if_neg (by omega)]
      rw [s3]; simp) ?_
    have hB6 := hl5.b.mod hm6 (by simpa using hBB.symm)
    have hpo := hl.po
    refine goCell (b := B) (o := off) (v := .slice (some ⟨BA, 0, none⟩) (css.length + 1) n) (by simp) (by simp) hB6 rfl rfl (by simp; omega) fun w7 hb7 hm7 => ?_
    have e7 : splice (pre ++ (Value.slice (some ⟨BA, 0, none⟩) css.length n :: post)) off [.slice (some ⟨BA, 0, none⟩) (css.length + 1) n] = pre ++ (.slice (some ⟨BA, 0, none⟩) (css.length + 1) n :: post) :=
      splice_mid (old := [Value.slice (some ⟨BA, 0, none⟩) css.length n]) (vs := [.slice (some ⟨BA, 0, none⟩) (css.length + 1) n]) hpo rfl
    rw [e7] at hb7
    obtain ⟨k1, k2⟩ := fin w6 w7 w7 rest es hrest (hm05.nil.trans hm6) hb6 (hrep.mod hm6 (by simp)) hm7 hb7
    refine goEnd (hQ _ w7 es.flatten (fun s hs => ?_) k1 k2)
    simp only [updo, upd]
    repeat rw [if_neg (by omega)]
  | true =>
    simp only [if_true, wpC]
    have s0 := hp he
    have hld := hl.same (Mod.drew [] w)
    have hbd : Blk w.drew xb xs := hb.mod (Mod.drew [] w) (by simp)
    have hxd : RepT (fun b => b ∉ BA :: O) w.drew x xs := hx.mod (Mod.drew [] w) (by simp) fun _ _ h => h
    have hOd : ∀ b ∈ BA :: O, b < w.drew.heap.size := fun b hb => Nat.lt_of_lt_of_le (hO b hb) (Mod.drew [] w).size
    have hmd : Mod [] w w.drew := Mod.drew [] w
    generalize w.drew = wd at hld hbd hxd hOd hmd ⊢
    obtain ⟨rest, ha, hrest⟩ := hld.a
    have nO : ∀ b ∈ [BA], b ∈ BA :: O := by simp
    have cB : ∀ w1, Mod [BA] wd w1 → w1.cell? ⟨B, off, none⟩ = some (.slice (some ⟨BA, 0, none⟩) css.length n) := fun w1 hm => cell_mod hld.cell hm (by simpa using hBB.symm)
    have gst : ∀ w w', Mod [] w w' → (∃ es, Blk w BA (css.flatten ++ (List.flatten es ++ rest.drop z.length)) ∧ RepL (BA :: O) w (vals x) es) → ∃ es, Blk w' BA (css.flatten ++ (List.flatten es ++ rest.drop z.length)) ∧ RepL (BA :: O) w' (vals x) es :=
      fun w w' hm ⟨es, h1, h2⟩ => ⟨es, h1.mod hm (by simp), h2.mod hm (by simp)⟩
    refine wpD_of_R [BA] (fun w' => ∃ es, Blk w' BA (css.flatten ++ (List.flatten es ++ rest.drop z.length)) ∧ RepL (BA :: O) w' (vals x) es) (fun w' => Blk w' BA (css.flatten ++ rest)) 8
      (fun i v w' => match i with | 6 => ∃ es, v = .agg (List.flatten es).toArray ∧ RepL (BA :: O) w' (vals x) es | 7 => ∃ sb es, v = .slice (some ⟨sb, 0, none⟩) 1 1 ∧ Blk w' sb (List.flatten es) ∧ RepL (BA :: O) w' (vals x) es ∧ sb ≠ BA | 8 => v = .slice (some ⟨BA, 0, none⟩) (css.length + 1) n ∧ ∃ es, Blk w' BA (css.flatten ++ (List.flatten es ++ rest.drop z.length)) ∧ RepL (BA :: O) w' (vals x) es | _ => True) (by
      intro i v w w' h hm hg
      split at h
      · obtain ⟨es, e1, e2⟩ := h; exact ⟨es, e1, e2.mod hm nO⟩
      · obtain ⟨sb, es, e1, e2, e3, e4⟩ := h; exact ⟨sb, es, e1, e2.mod hm (by simpa using e4), e3.mod hm nO, e4⟩
      · exact ⟨h.1, hg h.2⟩
      · trivial) ha ?_
    refine wn_step (v := .pointer (some ⟨B, 0, none⟩)) (fun w1 h1 => by simp [s0]) ?_
    refine wn_step (v := .pointer (some ⟨B, 0, none⟩)) (fun w1 h1 => by simp only [RK.val?, ev, updo, upd]; rw [if_neg (by omega), s0]) ?_
    refine wn_step (v := .pointer (some ⟨B, 0, none⟩)) (fun w1 h1 => by simp) ?_
    refine wn_step (v := .pointer (some ⟨B, off, none⟩)) (fun w1 h1 => by simp) ?_
    refine wn_step (v := .slice (some ⟨BA, 0, none⟩) css.length n) (fun w1 h1 => by simp [cB w1 h1.1]) ?_
    refine wn_step (v := .agg xs.toArray) (fun w1 h1 => by
      simp only [RK.val?, ev, updo, upd]
      repeat rw [if_neg (by omega)]
      simp [hxv, cellsAt_of' ((hbd.mod h1.1 (by simpa using hxB)).cells) hx.five]) ?_
    refine wn_node (fun w1 h1 _ _ => ?_) ?_
    · simp only [RK.run, List.map_cons, List.map_nil, ev, updo, upd, if_true]
      have hx1 : RepT (fun b => b ∉ BA :: O) w1 x xs := hxd.mod h1.1 (by simp) fun _ _ h => h
      refine (hmk (BA :: O) w1 x xs (fun b hb => Nat.lt_of_lt_of_le (hOd b hb) h1.1.size) hxs hxk hx1).mono ?_
      rintro e w2 ⟨es, rfl, g1, g2⟩
      exact ⟨_, rfl, ⟨g2.nil, gst _ _ g2⟩, ⟨es, rfl, g1⟩, fun j _ hN hj => (hN hj).mod g2 (by simp)⟩
    rintro v6 ⟨_, es3, rfl, hr3⟩
    have hl3 : es3.flatten.length = z.length := by rw [RepL.wid hr3, hw]
    refine wn_node (fun w1 h1 _ hkn => ?_) ?_
    · obtain ⟨es, e1, e2⟩ := known_get (j := 6) (t := c + 6) hkn (by simp) rfl rfl rfl rfl
      simp only [updo, upd, if_true] at e1
      have e1' : es3.flatten = es.flatten := by
        have := congrArg (fun v => match v with | Value.agg a => a.toList | _ => []) e1
        simpa using this
      have hf : fillL (zrep 1 z) [(0, z.length, Value.agg es3.flatten.toArray)] = some es3.flatten := by
        simp only [fillL, zrep, List.replicate, List.flatten_cons, List.flatten_nil, List.append_nil]
        rw [if_pos ⟨by simp [Value.cells, hl3], by omega⟩]
        simp [splice, Value.cells, hl3]
      simp only [RK.run, List.map_cons, List.map_nil, ev, updo, upd, if_true, hf]
      intro T
      have g2 : Mod [] w1 (w1.alloc (.cells es3.flatten.toArray T)) := Mod.alloc _ _ _
      refine ⟨⟨Mod.nil g2, gst _ _ g2⟩, ⟨w1.heap.size, es, rfl, by rw [← e1']; exact Blk.new _ _ _, e2.mod g2 (by simp), ?_⟩, fun j _ hN hj => (hN hj).mod g2 (by simp)⟩
      have := hOd BA (by simp); have := h1.1.size; omega
    rintro v7 -
    refine wn_node (fun w1 h1 hN hkn => ?_) ?_
    · obtain ⟨sb, es, e8, hblk, hrep, hsb⟩ := known_get (j := 7) (t := c + 7) hkn (by simp) rfl rfl rfl rfl
      simp only [updo, upd, if_true] at e8
      subst e8
      have ha1 := hN rfl
      refine append_in (BA := BA) (j := css.length) (n := n) (sb := sb) (flat := css.flatten) (rest := rest) (es := es.flatten) (by
        simp only [ev, updo, upd]
        repeat rw [if_neg (by omega)]
        simp) (by simp) hblk ha1 (flat_len' hl.sz) (by rw [RepL.wid hrep, hw]) hrest hn (fun v hv => (Rep.rcd hrep).oneCell v hv) fun w6 hb6 hm6 => ?_
      have hg6 : ∃ es, Blk w6 BA (css.flatten ++ (List.flatten es ++ rest.drop z.length)) ∧ RepL (BA :: O) w6 (vals x) es := ⟨es, hb6, hrep.mod hm6 nO⟩
      exact ⟨⟨hm6, fun _ => hg6⟩, ⟨rfl, hg6⟩, fun j hj _ hj2 => absurd hj2 hj⟩
    rintro v8 ⟨_, rfl, -⟩
    refine wn_step (v := .pointer (some ⟨B, 0, none⟩)) (fun w1 h1 => by
      simp only [RK.val?, ev, updo, upd]
      repeat rw [if_neg (by omega)]
      simp) ?_
    refine wn_step (v := .pointer (some ⟨B, off, none⟩)) (fun w1 h1 => by simp) ?_
    intro w5 hm5 hkn
    obtain ⟨-, es, hb5, hrep5⟩ := known_get (j := 8) (t := c + 8) hkn (by simp) rfl rfl rfl rfl
    have hB5 := hld.b.mod hm5.1 (by simpa using hBB.symm)
    have hpo := hl.po
    refine goCell (b := B) (o := off) (v := .slice (some ⟨BA, 0, none⟩) (css.length + 1) n) (by simp) (by
      simp only [ev, updo, upd]
      repeat rw [if_neg (by omega)]
      simp) hB5 rfl rfl (by simp; omega) fun w7 hb7 hm7 => ?_
    have e7 : splice (pre ++ (Value.slice (some ⟨BA, 0, none⟩) css.length n :: post)) off [.slice (some ⟨BA, 0, none⟩) (css.length + 1) n] = pre ++ (.slice (some ⟨BA, 0, none⟩) (css.length + 1) n :: post) :=
      splice_mid (old := [Value.slice (some ⟨BA, 0, none⟩) css.length n]) (vs := [.slice (some ⟨BA, 0, none⟩) (css.length + 1) n]) hpo rfl
    rw [e7] at hb7
    obtain ⟨k1, k2⟩ := fin w5 w7 w7 rest es hrest (hmd.nil.trans hm5.1) hb5 hrep5 hm7 hb7
    refine goEnd (hQ _ w7 es.flatten (fun s hs => ?_) k1 k2)
    simp only [updo, upd]
    repeat rw [if_neg (by omega)]
end
end Go.Msk

namespace Go.Msk
open Go.RowKit
set_option maxRecDepth 100000
theorem fillV_one {p : PK} (hp : fOk p = true) (hu : p ≠ .uuid) (x : TR) : (fillV p x).oneCell' = true ∧ (fillV p x).cells = #[fillV p x] ∧ fillP p x = .num (fillV p x) := by
  cases p <;> simp only [fOk, Bool.false_eq_true] at hp <;> first | exact ⟨rfl, rfl, rfl⟩ | exact absurd rfl hu
theorem ziP_one {p : PK} (hp : fOk p = true) (hu : p ≠ .uuid) : (ziP p).length = 1 := by
  cases p <;> simp only [fOk, Bool.false_eq_true] at hp <;> first | rfl | exact absurd rfl hu
section
variable {P : Program} {F : Nat → Nat}
attribute [local simp] gOk updo upd ev RK.val? isShift intBin Addr.add_mk args0 Value.cells undef
theorem cvR_walk {sx : FuncId} {l : List DI} {R : World → World → Prop} {Φ : Nat → Value → World → Prop} {N : Nat → World → Prop} {w0 : World} {E : Sl → Prop} {p : PK} (hp : fOk p = true) (hu : p ≠ .uuid) {ok : Nat → Prop} {a n : Nat} {x : TR} {r : List DI} {σ : Sl} (hr : ∀ w, R w0 w → Raw ok w p x (σ a))
    (hR0 : R w0 w0) (hQ : ∀ σ', (∀ s, s ≤ a → σ' s = σ s) → σ' (a + cvN p) = fillV p x → walk P l R Φ N w0 E (n + cvN p) r σ') : walk P l R Φ N w0 E n ((cvR sx p a).map nd' ++ r) σ := by
  have cv : ∀ (K : IntKind), (∀ w, R w0 w → σ a = .int .i64 x.n) → (∀ σ', (∀ s, s ≤ a → σ' s = σ s) → σ' (a + 1) = .int K (K.wrap x.n) → walk P l R Φ N w0 E (n + 1) r σ') → walk P l R Φ N w0 E n (nd' ⟨some (a + 1), .conv K (.tmp a), none⟩ :: r) σ := by
    intro K h1 h2
    have h0 := h1 w0 hR0
    refine wn_step (v := .int K (K.wrap x.n)) (fun w hw => by simp [h0]) (h2 _ (fun s hs => ?_) (by simp))
    simp only [updo, upd]; rw [if_neg (by omega)]
  cases p <;> simp only [fOk, Bool.false_eq_true] at hp <;> simp only [cvR, List.map_cons, List.map_nil, List.cons_append, List.nil_append, Raw, cvN] at hr hQ ⊢
  case bool =>
    have h0 := hr w0 hR0
    refine wn_step (v := .int .i64 (x.n % 2)) (fun w hw => by simp only [RK.val?, ev, h0, isShift, decide_true, Bool.or_true, if_true]; exact and1_i64 x.n) ?_
    refine wn_step (v := .bool (decide (x.n % 2 = 1))) (fun w hw => by simp; by_cases e : x.n % 2 = 1 <;> simp [e]) ?_
    refine hQ _ (fun s hs => ?_) (by simp [fillV])
    simp only [updo, upd]; rw [if_neg (by omega), if_neg (by omega)]
  case i64 => exact hQ σ (fun _ _ => rfl) (by simpa [fillV] using hr w0 hR0)
  case str =>
    refine wn_step (v := Msk.str x.s) (fun w hw => str_read rfl (hr w hw)) ?_
    refine hQ _ (fun s hs => ?_) (by simp [fillV])
    simp only [updo, upd]; rw [if_neg (by omega)]
  case uuid => exact absurd rfl hu
  case i8 => exact cv .i8 hr hQ
  case i16 => exact cv .i16 hr hQ
  case u16 => exact cv .u16 hr hQ
  case i32 => exact cv .i32 hr hQ
theorem appP_wp {E : FE} {c xv off bytes B BA n xb : Nat} {p : PK} {w0 w : World} {pre post : List Value} {O : List Nat} {gs : List GV} {css : List (List Value)} {x : TR} {xs : List Value} {σ : Sl} {Q : Exit → Sl → World → Prop}
    (hfp : fOk p = true) (hfu : p ≠ .uuid) (hc : 3 < c) (hxc : xv < c) (hp : E.ptr = true → σ 0 = .pointer (some ⟨B, 0, none⟩)) (h3 : E.ptr = false → σ 3 = .pointer (some ⟨B, 0, none⟩)) (hxv : σ xv = .pointer (some ⟨xb, 0, none⟩))
    (hb : Blk w xb xs) (hx : RepT (fun b => b ∉ BA :: O) w x xs) (hxB : xb ≠ BA) (hl : LSt w0 w B BA off n 1 pre post O gs css) (hn : css.length < n) (hO : ∀ b ∈ BA :: O, b < w.heap.size)
    (hQ : ∀ σ' w' css', (∀ s, s < c → σ' s = σ s) → LSt w0 w' B BA off n 1 pre post O (gs ++ [fillP p x]) (css ++ [css']) → Mod [BA, B] w w' → Q .normal σ' w') : wpC P (appP E c xv off bytes p) Q σ w := by
  have hBB : BA ≠ B := fun e => by have := hl.ba; have := hl.bl; omega
  obtain ⟨q1, q2, q3⟩ := fillV_one hfp hfu x
  have hz1 := ziP_one hfp hfu
  have hpo := hl.po
  have e7 : splice (pre ++ (Value.slice (some ⟨BA, 0, none⟩) css.length n :: post)) off [.slice (some ⟨BA, 0, none⟩) (css.length + 1) n] = pre ++ (.slice (some ⟨BA, 0, none⟩) (css.length + 1) n :: post) :=
    splice_mid (old := [Value.slice (some ⟨BA, 0, none⟩) css.length n]) (vs := [.slice (some ⟨BA, 0, none⟩) (css.length + 1) n]) hpo rfl
  have fin : ∀ (w5 w6 : World) (rest : List Value), rest.length = (n - css.length) * 1 → Mod [BA] w w5 → Blk w5 BA (css.flatten ++ ([fillV p x] ++ rest.drop 1)) → Mod [B] w5 w6 → Blk w6 B (pre ++ (.slice (some ⟨BA, 0, none⟩) (css.length + 1) n :: post)) →
      LSt w0 w6 B BA off n 1 pre post O (gs ++ [fillP p x]) (css ++ [[fillV p x]]) ∧ Mod [BA, B] w w6 := by
    intro w5 w6 rest hr h1 h2 h5 h6
    exact ⟨hl.snoc hr rfl h1 h2 (by rw [q3]; exact .num q1) h5 h6, (h1.mono (by simp)).trans (h5.mono (by simp))⟩
  have hfill : ∀ v : Value, v = fillV p x → fillL (zrep 1 (ziP p)) [(0, 1, v)] = some [fillV p x] := by
    intro v hv
    subst hv
    obtain ⟨z0, hz⟩ : ∃ z0, ziP p = [z0] := by match ziP p, hz1 with | [z0], _ => exact ⟨z0, rfl⟩
    rw [hz]
    simp only [fillL, zrep, List.replicate, List.flatten_cons, List.flatten_nil, List.append_nil, q2]
    rw [if_pos ⟨rfl, by simp⟩]
    simp [splice]
  obtain ⟨rv, hrv, hraw⟩ := Raw.of hx p
  unfold appP
  cases he : E.ptr with
  | false =>
    simp only [Bool.false_eq_true, if_false, List.cons_append, List.nil_append]
    have s3 := h3 he
    rw [wpC_blk]
    refine go1 (v := .pointer (some ⟨B, off, none⟩)) rfl (by simp [s3]) ?_
    refine go1 (v := .slice (some ⟨BA, 0, none⟩) css.length n) rfl (by simp [hl.cell]) ?_
    refine go1 (v := .pointer (some ⟨xb, fldOf p, none⟩)) rfl (by
      simp only [RK.val?, ev, updo, upd]
      repeat rw [if_neg (by omega)]
      simp [hxv]) ?_
    refine go1 (v := rv) rfl (by simp [hb.cell, hrv]) ?_
    refine cvR_wp (fun e => absurd e hfu) hfp (ok := fun b => b ∉ BA :: O) (x := x) (by simpa using hraw) fun σ1 w1 fr1 hv1 hm1 => ?_
    refine wpR_run ?_
    simp only [RK.run, List.map_cons, List.map_nil, ev, hfill _ hv1]
    intro T
    have hmA : Mod [] w1 (w1.alloc (.cells [fillV p x].toArray T)) := Mod.alloc _ _ _
    have hbA : Blk (w1.alloc (.cells [fillV p x].toArray T)) w1.heap.size [fillV p x] := Blk.new _ _ _
    generalize w1.alloc (.cells [fillV p x].toArray T) = w5 at hmA hbA ⊢
    have hm05 := hm1.trans hmA
    have hl5 := hl.same hm05
    obtain ⟨rest, ha, hrest⟩ := hl5.a
    have f3 : ∀ s, s < c → σ1 s = σ s := fun s hs => by
      rw [fr1 s (by omega)]; simp only [updo, upd]; repeat rw [if_neg (by omega)]
    refine wpR_run ?_
    refine append_in (BA := BA) (j := css.length) (n := n) (sb := w1.heap.size) (flat := css.flatten) (rest := rest) (es := [fillV p x]) (by
      simp only [ev, updo, upd]
      rw [if_neg (by omega), fr1 _ (by omega)]; simp) (by simp) hbA ha (flat_len' hl.sz) rfl hrest hn (fun v hv => by simp only [List.mem_singleton] at hv; subst hv; exact q1) fun w6 hb6 hm6 => ?_
    refine go1 (v := .pointer (some ⟨B, off, none⟩)) rfl (by
      simp only [RK.val?, ev, updo, upd]
      rw [if_neg (by omega), if_neg (by omega), f3 3 (by omega), s3]; simp) ?_
    have hB6 := hl5.b.mod hm6 (by simpa using hBB.symm)
    refine goCell (b := B) (o := off) (v := .slice (some ⟨BA, 0, none⟩) (css.length + 1) n) (by simp) (by simp) hB6 rfl rfl (by simp; omega) fun w7 hb7 hm7 => ?_
    rw [e7] at hb7
    obtain ⟨k1, k2⟩ := fin w6 w7 rest hrest (hm05.nil.trans hm6) hb6 hm7 hb7
    refine goEnd (hQ _ w7 [fillV p x] (fun s hs => ?_) k1 k2)
    simp only [updo, upd]
    repeat rw [if_neg (by omega)]
    exact f3 s hs
  | true =>
    simp only [if_true, wpC]
    have s0 := hp he
    have hld := hl.same (Mod.drew [] w)
    have hbd : Blk w.drew xb xs := hb.mod (Mod.drew [] w) (by simp)
    have hxd : RepT (fun b => b ∉ BA :: O) w.drew x xs := hx.mod (Mod.drew [] w) (by simp) fun _ _ h => h
    have hOd : ∀ b ∈ BA :: O, b < w.drew.heap.size := fun b hb => Nat.lt_of_lt_of_le (hO b hb) (Mod.drew [] w).size
    have hmd : Mod [] w w.drew := Mod.drew [] w
    generalize w.drew = wd at hld hbd hxd hOd hmd ⊢
    obtain ⟨rest, ha, hrest⟩ := hld.a
    have cB : ∀ w1, Mod [BA] wd w1 → w1.cell? ⟨B, off, none⟩ = some (.slice (some ⟨BA, 0, none⟩) css.length n) := fun w1 hm => cell_mod hld.cell hm (by simpa using hBB.symm)
    refine wpD_of_R [BA] (fun w' => Blk w' BA (css.flatten ++ ([fillV p x] ++ rest.drop 1))) (fun w' => Blk w' BA (css.flatten ++ rest)) (8 + cvN p)
      (fun i v w' => if i = 7 + cvN p then ∃ sb, v = .slice (some ⟨sb, 0, none⟩) 1 1 ∧ Blk w' sb [fillV p x] ∧ sb ≠ BA else if i = 8 + cvN p then v = .slice (some ⟨BA, 0, none⟩) (css.length + 1) n ∧ Blk w' BA (css.flatten ++ ([fillV p x] ++ rest.drop 1)) else True) (by
      intro i v w w' h hm hg
      split at h
      · rename_i hi; rw [if_pos hi]
        obtain ⟨sb, e1, e2, e4⟩ := h; exact ⟨sb, e1, e2.mod hm (by simpa using e4), e4⟩
      · rename_i hi; rw [if_neg hi]
        split at h
        · rename_i hi2; rw [if_pos hi2]; exact ⟨h.1, hg h.2⟩
        · rename_i hi2; rw [if_neg hi2]; trivial) ha ?_
    refine wn_step (v := .pointer (some ⟨B, 0, none⟩)) (fun w1 h1 => by simp [s0]) ?_
    refine wn_step (v := .pointer (some ⟨B, 0, none⟩)) (fun w1 h1 => by simp only [RK.val?, ev, updo, upd]; rw [if_neg (by omega), s0]) ?_
    refine wn_step (v := .pointer (some ⟨B, 0, none⟩)) (fun w1 h1 => by simp) ?_
    refine wn_step (v := .pointer (some ⟨B, off, none⟩)) (fun w1 h1 => by simp) ?_
    refine wn_step (v := .slice (some ⟨BA, 0, none⟩) css.length n) (fun w1 h1 => by simp [cB w1 h1.1]) ?_
    refine wn_step (v := .pointer (some ⟨xb, fldOf p, none⟩)) (fun w1 h1 => by
      simp only [RK.val?, ev, updo, upd]
      repeat rw [if_neg (by omega)]
      simp [hxv]) ?_
    refine wn_step (v := rv) (fun w1 h1 => by simp [(hbd.mod h1.1 (by simpa using hxB)).cell, hrv]) ?_
    refine cvR_walk hfp hfu (ok := fun b => b ∉ BA :: O) (x := x) (fun w1 h1 => ?_) ⟨Mod.refl _ _, id⟩ fun σ1 fr1 hv1 => ?_
    · obtain ⟨rv', hrv', hraw'⟩ := Raw.of (hxd.mod (ok' := fun b => b ∉ BA :: O) h1.1 (by simp) fun _ _ h => h) p
      rw [hrv] at hrv'; cases hrv'
      simpa using hraw'
    have hidx : 0 + 1 + 1 + 1 + 1 + 1 + 1 + 1 + cvN p = 7 + cvN p := by omega
    rw [hidx]
    refine wn_node (fun w1 h1 _ hkn => ?_) ?_
    · simp only [RK.run, List.map_cons, List.map_nil, ev, hfill _ hv1]
      intro T
      have g2 : Mod [] w1 (w1.alloc (.cells [fillV p x].toArray T)) := Mod.alloc _ _ _
      rw [if_pos trivial]
      refine ⟨⟨Mod.nil g2, fun h => h.mod g2 (by simp)⟩, ⟨w1.heap.size, rfl, Blk.new _ _ _, ?_⟩, fun j _ hN hj => (hN hj).mod g2 (by simp)⟩
      have := hOd BA (by simp); have := h1.1.size; omega
    rintro v7 -
    refine wn_node (fun w1 h1 hN hkn => ?_) ?_
    · have hk := known_get (j := 7 + cvN p) (t := c + 7 + cvN p) (d := ⟨⟨some (c + 7 + cvN p), .bslice 1 (ziP p) [(0, 1, .tmp (c + 6 + cvN p))], none⟩, true, []⟩) hkn (by simp) (by cases p <;> rfl) rfl rfl rfl
      rw [if_pos rfl] at hk
      obtain ⟨sb, e8, hblk, hsb⟩ := hk
      simp only [updo, upd, if_true] at e8
      subst e8
      have ha1 := hN (by omega)
      refine append_in (BA := BA) (j := css.length) (n := n) (sb := sb) (flat := css.flatten) (rest := rest) (es := [fillV p x]) (by
        simp only [ev, updo, upd]
        rw [if_neg (by omega), fr1 _ (by omega)]
        simp only [updo, upd]
        repeat rw [if_neg (by omega)]
        simp) (by simp) hblk ha1 (flat_len' hl.sz) rfl hrest hn (fun v hv => by simp only [List.mem_singleton] at hv; subst hv; exact q1) fun w6 hb6 hm6 => ?_
      rw [if_neg (by omega), if_pos (by omega)]
      exact ⟨⟨hm6, fun _ => hb6⟩, ⟨rfl, hb6⟩, fun j hj _ hj2 => absurd hj2 (by omega)⟩
    rintro v8 ⟨_, h8⟩
    rw [if_neg (by omega), if_pos (by omega)] at h8
    obtain ⟨rfl, -⟩ := h8
    refine wn_step (v := .pointer (some ⟨B, 0, none⟩)) (fun w1 h1 => by
      simp only [RK.val?, ev, updo, upd]
      repeat rw [if_neg (by omega)]
      rw [fr1 _ (by omega)]
      simp only [updo, upd]
      repeat rw [if_neg (by omega)]
      simp) ?_
    refine wn_step (v := .pointer (some ⟨B, off, none⟩)) (fun w1 h1 => by simp) ?_
    intro w5 hm5 hkn
    have hk := known_get (j := 8 + cvN p) (t := c + 8 + cvN p) (d := ⟨⟨some (c + 8 + cvN p), .append (.tmp (c + 4)) (.tmp (c + 7 + cvN p)) 1 bytes, none⟩, true, [7 + cvN p]⟩) hkn (by cases p <;> simp [cvN, cvR, nd']) (by cases p <;> rfl) rfl rfl rfl
    rw [if_neg (by omega), if_pos (by omega)] at hk
    obtain ⟨-, hb5⟩ := hk
    have hB5 := hld.b.mod hm5.1 (by simpa using hBB.symm)
    refine goCell (b := B) (o := off) (v := .slice (some ⟨BA, 0, none⟩) (css.length + 1) n) (by simp) (by
      simp only [ev, updo, upd]
      repeat rw [if_neg (by omega)]
      simp) hB5 rfl rfl (by simp; omega) fun w7 hb7 hm7 => ?_
    rw [e7] at hb7
    obtain ⟨k1, k2⟩ := fin w5 w7 rest hrest (hmd.nil.trans hm5.1) hb5 hm7 hb7
    refine goEnd (hQ _ w7 [fillV p x] (fun s hs => ?_) k1 k2)
    simp only [updo, upd]
    repeat rw [if_neg (by omega)]
    rw [fr1 s (by omega)]
    simp only [updo, upd]
    repeat rw [if_neg (by omega)]
end
end Go.Msk

namespace Go.Msk
open Go.RowKit
set_option maxRecDepth 100000
def BodyOk (P : Program) (E : FE) (c xv off sz : Nat) (body : IC) (val : TR → GV) : Prop :=
  ∀ (B BA n xb : Nat) (w0 w : World) (pre post : List Value) (O : List Nat) (gs : List GV) (css : List (List Value)) (x : TR) (xs : List Value) (σ : Sl) (Q : Exit → Sl → World → Prop), x.sml → x.kok → (E.ptr = true → σ 0 = .pointer (some ⟨B, 0, none⟩)) → (E.ptr = false → σ 3 = .pointer (some ⟨B, 0, none⟩)) →
    σ xv = .pointer (some ⟨xb, 0, none⟩) → Blk w xb xs → RepT (fun b => b ∉ BA :: O) w x xs → xb ≠ BA → LSt w0 w B BA off n sz pre post O gs css → css.length < n → (∀ b ∈ BA :: O, b < w.heap.size) →
    (∀ σ' w' css', (∀ s, s < c → σ' s = σ s) → LSt w0 w' B BA off n sz pre post O (gs ++ [val x]) (css ++ [css']) → Mod [BA, B] w w' → Q .normal σ' w') → wpC P body Q σ w
structure FSt (E : FE) (σ : Sl) (w : World) (tb B : Nat) (T : TR) (ts : List Value) (O : List Nat) : Prop where
  tr : σ E.tr = .pointer (some ⟨tb, 0, none⟩)
  hp : E.ptr = true → σ 0 = .pointer (some ⟨B, 0, none⟩)
  h3 : E.ptr = false → σ 3 = .pointer (some ⟨B, 0, none⟩)
  hb : Blk w tb ts
  hT : RepT (fun b => b ∉ O) w T ts
  bo : B ∈ O
  ne : tb ≠ B
  lo : ∀ b ∈ O, b < w.heap.size
theorem FE.tr_lt (E : FE) : E.tr < 4 := by unfold FE.tr; split <;> omega
theorem FE.k_le (E : FE) : E.k ≤ 1 := by unfold FE.k; split <;> omega
theorem FSt.move {E : FE} {σ σ' : Sl} {w w' : World} {tb B : Nat} {T : TR} {ts : List Value} {O : List Nat} (h : FSt E σ w tb B T ts O) (hs : ∀ s, s < 4 → σ' s = σ s) (hm : Mod [B] w w') : FSt E σ' w' tb B T ts O :=
  ⟨by rw [hs _ E.tr_lt]; exact h.tr, fun e => by rw [hs _ (by omega)]; exact h.hp e, fun e => by rw [hs _ (by omega)]; exact h.h3 e, h.hb.mod hm (by simpa using h.ne), h.hT.mod hm (by simpa using h.bo) fun _ _ h => h, h.bo, h.ne, fun b hb => Nat.lt_of_lt_of_le (h.lo b hb) hm.size⟩
def lstV (sz : Nat) (val : TR → GV) (x : TR) : GV := if x.null then .lst true sz [] else .lst false sz (x.l.map val)
theorem TR.sml_l {x : TR} (h : x.sml) : x.l.length ≤ 2147483647 ∧ ∀ y ∈ x.l, y.sml := by
  cases x with
  | mk n s null l u => exact ⟨h.1, TR.smlL_mem h.2.2⟩
theorem TR.kokL_l : ∀ {l : List TR}, TR.kokL l → ∀ y ∈ l, y.kok
  | [], _, y, h => by simp at h
  | a :: l, hs, y, h => by
    simp only [TR.kokL] at hs
    rcases List.mem_cons.1 h with rfl | h
    · exact hs.1
    · exact TR.kokL_l hs.2 y h
theorem TR.kok_l {x : TR} (h : x.kok) : ∀ y ∈ x.l, y.kok := by
  cases x with
  | mk n s null l u => exact TR.kokL_l h.2
theorem TR.sml_at {x : TR} (h : x.sml) (i : Nat) : (x.at i).sml := by
  unfold TR.at
  cases hx : x.l[i]? with
  | none => exact ⟨by decide, by decide, trivial⟩
  | some y => exact (TR.sml_l h).2 y (List.mem_of_getElem? hx)
theorem RepT.fields {ok : Nat → Prop} {w : World} {x : TR} {cs : List Value} (h : RepT ok w x cs) : ∃ sv lv uv lcss ucss, cs = [.int .i64 x.n, sv, .bool x.null, lv, uv] ∧ SlC ok w lv x.l.length (List.flatten lcss) ∧ RepTL ok w x.l lcss ∧ SlC ok w uv x.u.length (List.flatten ucss) ∧ RepU ok w x.u ucss := by
  cases h with
  | mk q1 q2 q3 q4 q5 => exact ⟨_, _, _, _, _, rfl, q2, q3, q4, q5⟩
section
variable {P : Program} {F : Nat → Nat}
attribute [local simp] gOk updo upd ev RK.val? isShift intBin Addr.add_mk args0 Value.cells undef
theorem lst_fill {E : FE} (hat : AtC P E.fat) {i off t nb xv bytes nx B tb : Nat} {z : List Value} {val : TR → GV} {body : IC} {T : TR} {ts : List Value} {O : List Nat} {pre post : List Value} {σ : Sl} {w : World} {Q : Exit → Sl → World → Prop}
    (hbody : BodyOk P E (t + 18 + 2 * E.k) xv off z.length body val) (hby : bytes ≤ 32768) (hs : T.sml) (hk : T.kok) (hxv : 3 < xv) (hxt : xv < t) (hnx : t + 18 + 2 * E.k ≤ nx) (h : FSt E σ w tb B T ts O) (hpo : pre.length = off) (hb : Blk w B (pre ++ (.slice none 0 0 :: post)))
    (hQ : ∀ σ' w' v, (∀ s, s < 4 → σ' s = σ s) → Mod [B] w w' → Rep O w' (lstV z.length val (T.at i)) [v] → Blk w' B (pre ++ (v :: post)) → Q .normal σ' w') : wpC P (lstF' E i off t nb xv bytes nx z body) Q σ w := by
  have htr := E.tr_lt
  have hk1 := E.k_le
  have hsx := TR.sml_at hs i
  have hkx : (T.at i).kok := hk.at i
  obtain ⟨hsl, hsy⟩ := TR.sml_l hsx
  have hky := TR.kok_l hkx
  unfold lstF'
  rw [wpC_seq, wpC_blk]
  refine atO_wp hat h.tr h.hb h.hT fun σ1 w1 cs1 f1 e1 r1 m1 => ?_
  obtain ⟨sv1, lv1, uv1, lcss1, ucss1, rfl, -⟩ := r1.fields
  refine go1 (v := .bool (T.at i).null) rfl (by simp [e1]) ?_
  refine go1 (v := .bool !(T.at i).null) rfl (by simp) (wpR_done ?_)
  have h1 : FSt E σ1 w1 tb B T ts O := h.move (fun s hs => f1 s (by omega)) m1.nil
  have hb1 := hb.mod m1 (by simp)
  -- null
  cases hnull : (T.at i).null with
  | true =>
    rw [wpC_cond_f (by simp), wpC_skip]
    refine hQ _ w1 (.slice none 0 0) (fun s hs => ?_) m1.nil ?_ hb1
    · simp only [updo, upd]; repeat rw [if_neg (by omega)]
      exact f1 s (by omega)
    · unfold lstV; rw [hnull]; exact .lst0
  | false =>
  rw [wpC_cond_t (by simp)]
  generalize hσ2 : updo (updo σ1 (some (t + 2)) _) (some (t + 3)) _ = σ2
  have f2 : ∀ s, s < t → σ2 s = σ s := fun s hs => by
    rw [← hσ2]; simp only [updo, upd]; repeat rw [if_neg (by omega)]
    exact f1 s (by omega)
  clear hσ2
  have h2 : FSt E σ2 w1 tb B T ts O := h.move (fun s hs => f2 s (by omega)) m1.nil
  rw [wpC_seq, wpC_blk]
  refine aOps_wp fun σ3 f3 p3 => ?_
  have h3 : FSt E σ3 w1 tb B T ts O := h2.move (fun s hs => f3 s (by omega)) (Mod.refl _ _)
  refine atO_wp hat h3.tr h3.hb h3.hT fun σ4 w2 cs2 f4 e4 r4 m4 => ?_
  obtain ⟨sv2, lv2, uv2, lcss2, ucss2, rfl, hl2, -⟩ := r4.fields
  obtain ⟨lb2, lc2, elv2⟩ := hl2.shape
  simp only [List.cons_append, List.nil_append]
  refine go1 (v := lv2) rfl (by simp [e4]) ?_
  refine go1 (v := .int .i64 ((T.at i).l.length : Nat)) rfl (by simp [elv2]) ?_
  refine wpR_run ?_
  have el : ev (updo (updo σ4 (some (t + 4 + E.k + 2)) lv2) (some (t + 4 + E.k + 3)) (.int .i64 ((T.at i).l.length : Nat))) (.tmp (t + 4 + E.k + 3)) = .int .i64 ((T.at i).l.length : Nat) := by simp
  simp only [RK.run, el, show ∀ σ, ev σ (.const (.int .i64 0)) = .int .i64 0 from fun _ => rfl]
  have hmul : (((T.at i).l.length : Nat) : Int) * (bytes : Nat) ≤ 70368744177664 := by
    have : (T.at i).l.length * bytes ≤ 2147483647 * 32768 := Nat.mul_le_mul hsl hby
    have h2 : (((T.at i).l.length : Nat) : Int) * (bytes : Nat) = (((T.at i).l.length * bytes : Nat) : Int) := by simp
    rw [h2]; omega
  refine ⟨by omega, by omega, hmul, by omega, fun Ty => ?_⟩
  have m5 : Mod [] w2 (w2.alloc (.cells (zrep ((T.at i).l.length : Int).toNat z).toArray Ty)) := Mod.alloc _ _ _
  have b5 : Blk (w2.alloc (.cells (zrep ((T.at i).l.length : Int).toNat z).toArray Ty)) w2.heap.size (zrep ((T.at i).l.length : Int).toNat z) := Blk.new _ _ _
  generalize w2.alloc (.cells (zrep ((T.at i).l.length : Int).toNat z).toArray Ty) = w3 at m5 b5 ⊢
  rw [Int.toNat_natCast] at b5 ⊢
  have hm12 : Mod [] w w2 := m1.trans m4
  have hb3 := (hb1.mod m4 (by simp)).mod m5 (by simp)
  have hBl := hb.lt
  have hs12 := hm12.size
  have f4' : ∀ s, s < t → σ4 s = σ s := fun s hs => by rw [f4 s (by omega), f3 s (by omega), f2 s hs]
  refine stO_wp (B := B) (x := .slice (some ⟨w2.heap.size, 0, none⟩) 0 (T.at i).l.length) (cells := pre ++ (.slice none 0 0 :: post)) (fun e => ?_) (fun e => ?_) (by simp) (by omega) (by omega) hb3 rfl (by simp [Value.oneCell']) (by simp; omega) fun σ5 w4 f5 hb4 m6 => ?_
  · have hk2 : E.k = 1 := by unfold FE.k; rw [e]; rfl
    simp only [updo, upd]
    repeat rw [if_neg (by omega)]
    rw [f4 _ (by omega), p3 e]; exact h2.hp e
  · simp only [updo, upd]
    repeat rw [if_neg (by omega)]
    rw [f4' 3 (by omega)]; exact h.h3 e
  have e7 : splice (pre ++ (Value.slice none 0 0 :: post)) off [.slice (some ⟨w2.heap.size, 0, none⟩) 0 (T.at i).l.length] = pre ++ (.slice (some ⟨w2.heap.size, 0, none⟩) 0 (T.at i).l.length :: post) :=
    splice_mid (old := [Value.slice none 0 0]) (vs := [.slice (some ⟨w2.heap.size, 0, none⟩) 0 (T.at i).l.length]) hpo rfl
  have hb4 : Blk w4 B (pre ++ (.slice (some ⟨w2.heap.size, 0, none⟩) 0 (T.at i).l.length :: post)) := by rw [← e7]; exact hb4
  have f5' : ∀ s, s < t → σ5 s = σ s := fun s hs => by
    rw [f5 s (by omega)]; simp only [updo, upd]; repeat rw [if_neg (by omega)]
    exact f4' s hs
  have hm24 : Mod [B] w2 w4 := m5.nil.trans m6
  have hm04 : Mod [B] w w4 := hm12.nil.trans hm24
  have h5 : FSt E σ5 w4 tb B T ts O := h.move (fun s hs => f5' s (by omega)) hm04
  have hA4 : Blk w4 w2.heap.size (zrep (T.at i).l.length z) := b5.mod m6 (by simp; omega)
  have hL4 : LSt w2 w4 B w2.heap.size off (T.at i).l.length z.length pre post O [] [] :=
    ⟨hpo, by simpa using hb4, ⟨zrep (T.at i).l.length z, by simpa using hA4, by simp [zrep_length]⟩, .nil, by simp, hm24, h.bo, Nat.le_refl _, by omega⟩
  -- the tree lies apart from the new list
  have hT4 : RepT (fun b => b ∉ w2.heap.size :: O) w4 T ts := by
    have : RepT (fun b => b ∉ w2.heap.size :: O) w T ts := h.hT.mod (Mod.refl [] _) (by simp) fun b hb hn => by simp only [List.mem_cons, not_or]; exact ⟨by omega, hn⟩
    exact this.mod hm04 (by simp [h.bo]) fun _ _ h => h
  simp only [thenC]
  rw [wpC_seq, wpC_blk]
  refine atO_wp hat h5.tr h5.hb hT4 fun σ6 w5 cs3 f6 e6 r6 m7 => ?_
  obtain ⟨sv3, lv3, uv3, lcss3, ucss3, rfl, hl3, hr3, -⟩ := r6.fields
  obtain ⟨lb3, lc3, elv3⟩ := hl3.shape
  refine go1 (v := lv3) rfl (by simp [e6]) ?_
  refine go1 (v := .int .i64 ((T.at i).l.length : Nat)) rfl (by simp [elv3]) ?_
  refine go1 rfl rfl (wpR_done ?_)
  have hL5 := hL4.same m7
  have hm05 : Mod [B] w w5 := hm04.trans m7.nil
  have hs5 := hm05.size
  have hs45 := m7.size
  have lA5 := hA4.lt
  generalize hr' : t + 10 + 2 * E.k + 2 = r
  have hr3' : r + 1 = t + 10 + 2 * E.k + 3 := by omega
  have hr4' : r + 2 = t + 10 + 2 * E.k + 4 := by omega
  unfold rowL
  refine rangeLoop (n := (T.at i).l.length) (fun j σ' w' => (∀ s, s < 4 → σ' s = σ s) ∧ σ' r = lv3 ∧ σ' (r + 1) = .int .i64 ((T.at i).l.length : Nat) ∧ σ' (r + 2) = .int .i64 (j : Nat) ∧ Mod [w2.heap.size, B] w5 w' ∧
      ∃ css, LSt w2 w' B w2.heap.size off (T.at i).l.length z.length pre post O (((T.at i).l.take j).map val) css ∧ css.length = j) (by omega) (by omega) (fun j σ w h => ⟨h.2.2.2.1, h.2.2.1⟩) ?_ ?_ ?_
  · refine ⟨fun s hs => ?_, ?_, ?_, ?_, Mod.refl _ _, [], by simpa using hL5, rfl⟩
    · simp only [updo, upd]; repeat rw [if_neg (by omega)]
      rw [f6 s (by omega), f5' s (by omega)]
    · rw [← hr']; simp
    · rw [hr3']; simp
    · rw [hr4']; simp
  · rintro j σ7 w6 hj ⟨g4, gr, gr1, gr2, gm, css, hL, hcl⟩
    have hyj : (T.at i).l[j]? = some (T.at i).l[j] := List.getElem?_eq_getElem hj
    have nO : ∀ b ∈ [w2.heap.size, B], ¬ (b ∉ w2.heap.size :: O) := fun b hb hx => by
      simp only [List.mem_cons, List.not_mem_nil, or_false] at hb
      rcases hb with rfl | rfl
      · simp at hx
      · exact hx (by simp [h.bo])
    have hl6 : SlC (fun b => b ∉ w2.heap.size :: O) w6 lv3 (T.at i).l.length (List.flatten lcss3) := hl3.mod gm nO fun _ _ h => h
    have hr6 : RepTL (fun b => b ∉ w2.heap.size :: O) w6 (T.at i).l lcss3 := hr3.mod gm nO fun _ _ h => h
    obtain ⟨ys, hys, hy⟩ := hr6.nth hyj
    obtain ⟨a, c', ea, -, hcell⟩ := hl6.flat hr6.length hr6.five hys
    rw [wpC_seq, wpC_blk]
    refine go1 (v := .pointer (some (a.add (j * 5)))) rfl (by
      simp only [RK.val?, ev, upd]
      repeat rw [if_neg (by omega)]
      simp [gr, gr2, ea, hj]) ?_
    refine go1 (v := .agg ys.toArray) rfl (by simp [hcell]) ?_
    refine goAlloc fun w7 hb7 m8 => ?_
    refine goSt (b := w6.heap.size) (v := .agg ys.toArray) (by simp) (by
      simp only [ev, updo, upd]
      repeat rw [if_neg (by omega)]
      simp) hb7 (by simp [hy.five]) rfl (by simpa using hy.oneCell) fun w8 hb8 m9 => ?_
    have hb8 : Blk w8 w6.heap.size ys := by simpa using hb8
    have m68 : Mod [] w6 w8 := Mod.drop (b := w6.heap.size) (S := []) (m8.nil.trans m9) (Nat.le_refl _)
    refine wpR_done ?_
    have hL8 := hL.same m68
    have hs68 := m68.size
    have hs56 := gm.size
    refine hbody B w2.heap.size (T.at i).l.length w6.heap.size w2 w8 pre post O _ css (T.at i).l[j] ys _ _ (hsy _ (List.mem_of_getElem? hyj)) (hky _ (List.mem_of_getElem? hyj)) (fun e => ?_) (fun e => ?_) ?_ hb8 (hy.mod m68 (by simp) fun _ _ h => h) (by omega) hL8 (by omega) ?_ ?_
    · simp only [updo, upd]; repeat rw [if_neg (by omega)]
      rw [g4 0 (by omega)]; exact h.hp e
    · simp only [updo, upd]; repeat rw [if_neg (by omega)]
      rw [g4 3 (by omega)]; exact h.h3 e
    · simp only [updo, upd, if_true]
    · intro b hb
      simp only [List.mem_cons] at hb
      rcases hb with rfl | hb
      · omega
      · have := h.lo b hb; omega
    · intro σ8 w9 css' f8 hL9 m89
      have fr : ∀ s, s < 4 ∨ s = r ∨ s = r + 1 ∨ s = r + 2 → σ8 s = σ7 s := fun s hs => by
        rw [f8 s (by omega)]; simp only [updo, upd]; repeat rw [if_neg (by omega)]
      simp only [rngP]
      refine ⟨(fr (r + 2) (by omega)).trans gr2, ?_⟩
      have fr2 : ∀ s, s < 4 ∨ s = r ∨ s = r + 1 → upd (upd σ8 nx (.int .i64 ((j + 1 : Nat) : Int))) (r + 2) (.int .i64 ((j + 1 : Nat) : Int)) s = σ7 s := fun s hs => by
        simp only [upd]; rw [if_neg (by omega), if_neg (by omega)]; exact fr s (by omega)
      refine ⟨fun s hs => (fr2 s (by omega)).trans (g4 s hs), (fr2 r (by omega)).trans gr, (fr2 (r + 1) (by omega)).trans gr1, by simp, (gm.trans (m68.mono (by simp))).trans m89, css ++ [css'], ?_, by simp [hcl]⟩
      rw [take_succ_of hyj, List.map_append]
      exact hL9
  · rintro σ7 w6 ⟨g4, gr, gr1, gr2, gm, css, hL, hcl⟩
    rw [List.take_length] at hL
    refine hQ _ w6 (.slice (some ⟨w2.heap.size, 0, none⟩) (T.at i).l.length (T.at i).l.length) (fun s hs => ?_) ?_ ?_ (by simpa [hcl] using hL.b)
    · simp only [upd]; rw [if_neg (by omega)]; exact g4 s hs
    · exact (hm12.nil).trans hL.m
    · obtain ⟨rest, ha, -⟩ := hL.a
      unfold lstV
      rw [hnull]
      simp only [Bool.false_eq_true, if_false]
      refine .lst1 (css := css) ?_ ha.lt (by simp) (Nat.le_refl _) hL.sz (hL.rep.weaken fun x hx => List.mem_cons_of_mem _ hx) ?_
      · intro hx
        have : w2.heap.size < w.heap.size := h.lo _ hx
        omega
      · have := ha.cells.take css.flatten.length
        rwa [List.take_left] at this
end
end Go.Msk

namespace Go.Msk
open Go.RowKit
set_option maxRecDepth 100000
def SetC (P : Program) (f : FuncId) : Prop := ∀ {w : World} {tb k o : Nat} {pre post : List Value} {mv v : Value} {m : List (Nat × List UInt8)} {l : List UInt8} {ok : Nat → Prop}, Blk w tb (pre ++ mv :: post) → pre.length = o → TagM ok w mv m → k < 4294967296 → SlC ok w v l.length (u8s l) → ¬ ok tb → (∀ r, mv = .map (some r) → ¬ ok r ∧ r ≠ tb) →
    Calls P f [.pointer (some ⟨tb, o, none⟩), .int .u32 k, v].toArray w fun e w' => e = .returned (.tuple #[]) ∧ ∃ r, Blk w' tb (pre ++ .map (some r) :: post) ∧ MapRep (fun b => ok b ∧ b < w.heap.size) w' r (putTag m k l) ∧ r ≠ tb ∧
      ((mv = .map (some r) ∧ Mod [tb, r] w w') ∨ (mv = .map none ∧ w.heap.size ≤ r ∧ Mod [tb] w w'))
theorem set_of {P : Program} {F : Nat → Nat} (hm : P.follows .mixedOrders = true) (h : liftF P (F tSet) = some (ir_tSet F)) : SetC P (F tSet) := fun h1 h2 h3 h4 h5 h6 h7 => tSetO_call hm h h1 h2 h3 h4 h5 h6 h7
structure TSt (w0 w : World) (B off : Nat) (pre post : List Value) (O : List Nat) (mv : Value) (m : List (Nat × List UInt8)) : Prop where
  po : pre.length = off
  b : Blk w B (pre ++ (mv :: post))
  M : TagM (fun b => b ∉ O ∧ b < w0.heap.size) w mv m
  nr : ∀ r, mv = .map (some r) → w0.heap.size ≤ r
  md : Mod [B] w0 w
  bo : B ∈ O
  bl : B < w0.heap.size
theorem TagM.mod {ok ok' : Nat → Prop} {S : List Nat} {w w' : World} {v : Value} {m : List (Nat × List UInt8)} (h : TagM ok w v m) (hm : Mod S w w') (hr : ∀ r, v = .map (some r) → r ∉ S) (hS : ∀ b ∈ S, ¬ ok b) (ho : ∀ b, b < w.heap.size → ok b → ok' b) : TagM ok' w' v m := by
  rcases h with ⟨h1, h2⟩ | ⟨r, h1, h2⟩
  · exact .inl ⟨h1, h2⟩
  · exact .inr ⟨r, h1, h2.mod hm (hr r h1) hS ho⟩
theorem TSt.same {w0 w w' : World} {B off : Nat} {pre post : List Value} {O : List Nat} {mv : Value} {m : List (Nat × List UInt8)} (h : TSt w0 w B off pre post O mv m) (hm : Mod [] w w') : TSt w0 w' B off pre post O mv m :=
  ⟨h.po, h.b.mod hm (by simp), h.M.mod hm (by simp) (by simp) fun _ _ h => h, h.nr, h.md.trans hm.nil, h.bo, h.bl⟩
def ownM (v : Value) : List Nat := match v with | .map (some r) => [r] | _ => []
section
variable {P : Program} {F : Nat → Nat}
attribute [local simp] gOk updo upd ev RK.val? isShift intBin Addr.add_mk args0 Value.cells undef
theorem TSt.step {set : FuncId} (hset : SetC P set) {w0 w : World} {B off k : Nat} {pre post : List Value} {O : List Nat} {mv v : Value} {m : List (Nat × List UInt8)} {l : List UInt8} (h : TSt w0 w B off pre post O mv m) (hk : k < 4294967296) (hv : SlC (fun b => b ∉ O ∧ b < w0.heap.size) w v l.length (u8s l)) :
    Calls P set [.pointer (some ⟨B, off, none⟩), .int .u32 k, v].toArray w fun e w' => e = .returned (.tuple #[]) ∧ Mod (B :: ownM mv) w w' ∧ ∃ mv', TSt w0 w' B off pre post O mv' (putTag m k l) := by
  refine (hset h.b h.po h.M hk hv (fun hx => hx.1 h.bo) fun r hr => ⟨fun hx => by have := h.nr r hr; omega, fun e => by have := h.nr r hr; have := h.bl; omega⟩).mono ?_
  rintro e w' ⟨rfl, r, h1, h2, h3, h4⟩
  have hs := h.md.size
  have hM : MapRep (fun b => b ∉ O ∧ b < w0.heap.size) w' r (putTag m k l) := h2.mod (Mod.refl [] _) (by simp) (by simp) fun b _ hb => hb.1
  rcases h4 with ⟨e1, h4⟩ | ⟨e1, h4, h5⟩
  · have hr := h.nr r e1
    subst e1
    refine ⟨rfl, h4, _, h.po, h1, .inr ⟨r, rfl, hM⟩, h.nr, ?_, h.bo, h.bl⟩
    exact Mod.drop (b := r) (S := [B]) ((h.md.mono (by simp)).trans (h4.mono (by simp))) hr
  · subst e1
    exact ⟨rfl, h5, _, h.po, h1, .inr ⟨r, rfl, hM⟩, fun r' e => by cases e; omega, h.md.trans h5, h.bo, h.bl⟩
theorem set_wp {E : FE} {set : FuncId} (hset : SetC P set) {c xv off B xb k : Nat} {w0 w : World} {pre post : List Value} {O : List Nat} {mv v : Value} {m : List (Nat × List UInt8)} {l : List UInt8} {σ : Sl} {Q : Exit → Sl → World → Prop}
    (hc : 3 < c) (hxc : xv < c) (hp : E.ptr = true → σ 0 = .pointer (some ⟨B, 0, none⟩)) (h3 : E.ptr = false → σ 3 = .pointer (some ⟨B, 0, none⟩)) (hxv : σ xv = .pointer (some ⟨xb, 0, none⟩)) (hb : Blk w xb [.int .u32 k, v]) (hxB : w0.heap.size ≤ xb ∧ xb ∉ ownM mv) (hk : k < 4294967296)
    (hv : SlC (fun b => b ∉ O ∧ b < w0.heap.size) w v l.length (u8s l)) (h : TSt w0 w B off pre post O mv m)
    (hQ : ∀ σ' w' mv', (∀ s, s < c → σ' s = σ s) → TSt w0 w' B off pre post O mv' (putTag m k l) → Q .normal σ' w') : wpC P (setT E c xv off set) Q σ w := by
  have hbl := h.bl
  unfold setT
  cases he : E.ptr with
  | false =>
    simp only [Bool.false_eq_true, if_false]
    have s3 := h3 he
    rw [wpC_blk]
    refine go1 (v := .pointer (some ⟨B, off, none⟩)) rfl (by simp [s3]) ?_
    refine go1 (v := .pointer (some ⟨xb, 0, none⟩)) rfl (by
      simp only [RK.val?, ev, updo, upd]; rw [if_neg (by omega)]; simp [hxv]) ?_
    refine go1 (v := .int .u32 k) rfl (by simp [hb.cell]) ?_
    refine go1 (v := .pointer (some ⟨xb, 1, none⟩)) rfl (by
      simp only [RK.val?, ev, updo, upd]; repeat rw [if_neg (by omega)]
      simp [hxv]) ?_
    refine go1 (v := v) rfl (by simp [hb.cell]) ?_
    refine goCall rfl (vs := [.pointer (some ⟨B, off, none⟩), .int .u32 k, v]) (by simp) (h.step hset hk hv) ?_
    rintro e w' ⟨rfl, -, mv', h'⟩
    refine ⟨_, rfl, goEnd (hQ _ w' mv' (fun s hs => ?_) h')⟩
    simp only [updo, upd]; repeat rw [if_neg (by omega)]
  | true =>
    simp only [if_true, wpC]
    have s0 := hp he
    have hmd : Mod [] w w.drew := Mod.drew [] w
    have hd := h.same hmd
    have hbd : Blk w.drew xb [.int .u32 k, v] := hb.mod hmd (by simp)
    have hvd : SlC (fun b => b ∉ O ∧ b < w0.heap.size) w.drew v l.length (u8s l) := hv.mod hmd (by simp) fun _ _ h => h
    generalize w.drew = wd at hd hbd hvd hmd ⊢
    have hxn : xb ∉ B :: ownM mv := by simp only [List.mem_cons, not_or]; exact ⟨by omega, hxB.2⟩
    have hSn : ∀ b ∈ B :: ownM mv, ¬ (b ∉ O ∧ b < w0.heap.size) := by
      intro b hb hx
      rcases List.mem_cons.1 hb with rfl | hb
      · exact hx.1 h.bo
      · cases mv with
        | map q =>
          cases q with
          | none => simp [ownM] at hb
          | some r => simp only [ownM, List.mem_singleton] at hb; subst hb; have := h.nr _ rfl; omega
        | _ => simp [ownM] at hb
    refine wpD_of_R (B :: ownM mv) (fun w' => ∃ mv', TSt w0 w' B off pre post O mv' (putTag m k l)) (fun w' => TSt w0 w' B off pre post O mv m) 7
      (fun i v' w' => if i = 7 then ∃ mv', TSt w0 w' B off pre post O mv' (putTag m k l) else True) (by
      intro i v w w' h hm hg
      split at h
      · rename_i hi; rw [if_pos hi]; exact hg h
      · rename_i hi; rw [if_neg hi]; trivial) hd ?_
    refine wn_step (v := .pointer (some ⟨B, 0, none⟩)) (fun w1 h1 => by simp [s0]) ?_
    refine wn_step (v := .pointer (some ⟨B, 0, none⟩)) (fun w1 h1 => by simp) ?_
    refine wn_step (v := .pointer (some ⟨B, off, none⟩)) (fun w1 h1 => by simp) ?_
    refine wn_step (v := .pointer (some ⟨xb, 0, none⟩)) (fun w1 h1 => by
      simp only [RK.val?, ev, updo, upd]; repeat rw [if_neg (by omega)]
      simp [hxv]) ?_
    refine wn_step (v := .int .u32 k) (fun w1 h1 => by simp [(hbd.mod h1.1 hxn).cell]) ?_
    refine wn_step (v := .pointer (some ⟨xb, 1, none⟩)) (fun w1 h1 => by
      simp only [RK.val?, ev, updo, upd]; repeat rw [if_neg (by omega)]
      simp [hxv]) ?_
    refine wn_step (v := v) (fun w1 h1 => by simp [(hbd.mod h1.1 hxn).cell]) ?_
    refine wn_node (fun w1 h1 hN _ => ?_) ?_
    · have hA := hN rfl
      have e1 : ([Operand.tmp (c + 2), .tmp (c + 4), .tmp (c + 6)].map (ev (updo (updo (updo (updo (updo (updo (updo σ (some c) (.pointer (some ⟨B, 0, none⟩))) (some (c + 1)) (.pointer (some ⟨B, 0, none⟩))) (some (c + 2)) (.pointer (some ⟨B, off, none⟩))) (some (c + 3)) (.pointer (some ⟨xb, 0, none⟩))) (some (c + 4)) (.int .u32 k)) (some (c + 5)) (.pointer (some ⟨xb, 1, none⟩))) (some (c + 6)) v))) = [.pointer (some ⟨B, off, none⟩), .int .u32 k, v] := by simp
      simp only [RK.run, e1]
      refine (hA.step hset hk (hvd.mod h1.1 hSn fun _ _ h => h)).mono ?_
      rintro e w' ⟨rfl, hm', mv', h'⟩
      refine ⟨_, rfl, ⟨hm', fun _ => ⟨mv', h'⟩⟩, ?_, fun j hj _ hj2 => absurd hj2 hj⟩
      rw [if_pos trivial]; exact ⟨mv', h'⟩
    rintro v7 -
    intro w5 hm5 hkn
    have hk7 := known_get (j := 7) (t := c + 7) hkn (by simp) rfl rfl rfl rfl
    rw [if_pos rfl] at hk7
    obtain ⟨mv', h'⟩ := hk7
    refine goEnd (hQ _ w5 mv' (fun s hs => ?_) h')
    simp only [updo, upd]; repeat rw [if_neg (by omega)]
def setU (u : List (Nat × List UInt8)) : List (Nat × List UInt8) := u.foldl (fun m p => putTag m p.1 p.2) []
theorem tags_fill {E : FE} {set : FuncId} (hset : SetC P set) {off t nb xv nx B tb : Nat} {T : TR} {ts : List Value} {O : List Nat} {pre post : List Value} {σ : Sl} {w : World} {Q : Exit → Sl → World → Prop}
    (hs : T.sml) (hk : T.kok) (hxv : 3 < xv) (hxt : xv < t) (hnx : t + 7 ≤ nx) (h : FSt E σ w tb B T ts O) (hpo : pre.length = off) (hb : Blk w B (pre ++ (.map none :: post)))
    (hQ : ∀ σ' w' v, (∀ s, s < 4 → σ' s = σ s) → Mod [B] w w' → Rep O w' (.tag (setU T.u)) [v] → Blk w' B (pre ++ (v :: post)) → Q .normal σ' w') :
    wpC P (.seq (.blk [⟨some t, .fad (.tmp E.tr) 4, none⟩, ⟨some (t + 1), .ld (.tmp t), none⟩, ⟨some (t + 2), .len (.tmp (t + 1)), none⟩, ⟨some (t + 3), .mv (.const (.int .i64 0)), none⟩]) (rowL (t + 1) xv nb 2 nx uzero (setT E (t + 7) xv off set))) Q σ w := by
  have htr := E.tr_lt
  obtain ⟨sv, lv, uv, lcss, ucss, rfl, -, -, hu, hur⟩ := h.hT.fields
  obtain ⟨ub, uc, eu⟩ := hu.shape
  have hul : T.u.length ≤ 2147483647 := by cases T with | mk n s null l u => exact hs.2.1
  have hku : ∀ p ∈ T.u, p.1 < 4294967296 := by cases T with | mk n s null l u => exact hk.1
  have hbl := hb.lt
  rw [wpC_seq, wpC_blk]
  refine go1 (v := .pointer (some ⟨tb, 4, none⟩)) rfl (by simp [h.tr]) ?_
  refine go1 (v := uv) rfl (by simp [h.hb.cell]) ?_
  refine go1 (v := .int .i64 (T.u.length : Nat)) rfl (by simp [eu]) ?_
  refine go1 rfl rfl (wpR_done ?_)
  unfold rowL
  refine rangeLoop (n := T.u.length) (fun j σ' w' => (∀ s, s < 4 → σ' s = σ s) ∧ σ' (t + 1) = uv ∧ σ' (t + 1 + 1) = .int .i64 (T.u.length : Nat) ∧ σ' (t + 1 + 2) = .int .i64 (j : Nat) ∧ ∃ mv, TSt w w' B off pre post O mv ((T.u.take j).foldl (fun m p => putTag m p.1 p.2) [])) (by omega) (by omega) (fun j σ w h => ⟨h.2.2.2.1, h.2.2.1⟩) ?_ ?_ ?_
  · refine ⟨fun s hs => ?_, by simp, by simp, by simp, .map none, hpo, hb, .inl ⟨rfl, rfl⟩, (by intro r e; cases e), Mod.refl _ _, h.bo, hbl⟩
    simp only [updo, upd]; repeat rw [if_neg (by omega)]
  · rintro j σ1 w1 hj ⟨g4, gr, gr1, gr2, mv, hT⟩
    have huj : T.u[j]? = some T.u[j] := List.getElem?_eq_getElem hj
    have nO : ∀ b ∈ [B], ¬ (b ∉ O ∧ b < w.heap.size) := fun b hb hx => by simp only [List.mem_singleton] at hb; subst hb; exact hx.1 h.bo
    have hu1 : SlC (fun b => b ∉ O ∧ b < w.heap.size) w1 uv T.u.length (List.flatten ucss) := (hu.mod (ok' := fun b => b ∉ O ∧ b < w.heap.size) (Mod.refl [] _) (by simp) fun b hb hx => ⟨hx, hb⟩).mod hT.md nO fun _ _ h => h
    have hr1 : RepU (fun b => b ∉ O ∧ b < w.heap.size) w1 T.u ucss := (hur.mod (ok' := fun b => b ∉ O ∧ b < w.heap.size) (Mod.refl [] _) (by simp) fun b hb hx => ⟨hx, hb⟩).mod hT.md nO fun _ _ h => h
    obtain ⟨v, hcs, hv⟩ := hr1.nth huj
    obtain ⟨a, c', ea, -, hcell⟩ := hu1.flat hr1.length hr1.two hcs
    rw [wpC_seq, wpC_blk]
    refine go1 (v := .pointer (some (a.add (j * 2)))) rfl (by
      simp only [RK.val?, ev, upd]
      repeat rw [if_neg (by omega)]
      simp [gr, gr2, ea, hj]) ?_
    refine go1 (v := .agg #[.int .u32 (T.u[j].1 : Nat), v]) rfl (by simp [hcell]) ?_
    refine goAlloc fun w2 hb2 m2 => ?_
    refine goSt (b := w1.heap.size) (v := .agg #[.int .u32 (T.u[j].1 : Nat), v]) (by simp) (by
      simp only [ev, updo, upd]
      repeat rw [if_neg (by omega)]
      simp) hb2 rfl rfl (two_one hv.one) fun w3 hb3 m3 => ?_
    have hb3 : Blk w3 w1.heap.size [.int .u32 (T.u[j].1 : Nat), v] := by simpa using hb3
    have m13 : Mod [] w1 w3 := Mod.drop (b := w1.heap.size) (S := []) (m2.nil.trans m3) (Nat.le_refl _)
    have hs1 := hT.md.size
    refine wpR_done ?_
    have hno : w1.heap.size ∉ ownM mv := by
      rcases hT.M with ⟨rfl, -⟩ | ⟨r, rfl, hr⟩
      · simp [ownM]
      · have := hr.lt; simp only [ownM, List.mem_singleton]; omega
    refine set_wp (xb := w1.heap.size) (k := T.u[j].1) (l := T.u[j].2) hset (by omega) (by omega) (fun e => ?_) (fun e => ?_) ?_ hb3 ⟨by omega, hno⟩ (hku _ (List.mem_of_getElem? huj)) (hv.mod m13 (by simp) fun _ _ h => h) (hT.same m13) fun σ2 w4 mv' f2 h2 => ?_
    · simp only [updo, upd]; repeat rw [if_neg (by omega)]
      rw [g4 0 (by omega)]; exact h.hp e
    · simp only [updo, upd]; repeat rw [if_neg (by omega)]
      rw [g4 3 (by omega)]; exact h.h3 e
    · simp only [updo, upd, if_true]
    have fr : ∀ s, s < 4 ∨ s = t + 1 ∨ s = t + 1 + 1 ∨ s = t + 1 + 2 → σ2 s = σ1 s := fun s hs => by
      rw [f2 s (by omega)]; simp only [updo, upd]; repeat rw [if_neg (by omega)]
    simp only [rngP]
    refine ⟨(fr (t + 1 + 2) (by omega)).trans gr2, ?_⟩
    have fr2 : ∀ s, s < 4 ∨ s = t + 1 ∨ s = t + 1 + 1 → upd (upd σ2 nx (.int .i64 ((j + 1 : Nat) : Int))) (t + 1 + 2) (.int .i64 ((j + 1 : Nat) : Int)) s = σ1 s := fun s hs => by
      simp only [upd]; rw [if_neg (by omega), if_neg (by omega)]; exact fr s (by omega)
    refine ⟨fun s hs => (fr2 s (by omega)).trans (g4 s hs), (fr2 (t + 1) (by omega)).trans gr, (fr2 (t + 1 + 1) (by omega)).trans gr1, by simp, mv', ?_⟩
    rw [take_succ_of huj, List.foldl_append]
    exact h2
  · rintro σ1 w1 ⟨g4, gr, gr1, gr2, mv, hT⟩
    rw [List.take_length] at hT
    refine hQ _ w1 mv (fun s hs => ?_) hT.md ?_ hT.b
    · simp only [upd]; rw [if_neg (by omega)]; exact g4 s hs
    · show Rep O w1 (.tag (setU T.u)) [mv]
      have hM := hT.M
      have hnr := hT.nr
      change TagM _ w1 mv (setU T.u) at hM
      generalize setU T.u = mm at hM
      rcases hM with ⟨rfl, rfl⟩ | ⟨r, rfl, hr⟩
      · exact .tag0
      · refine .tag1 (fun hx => ?_) (hr.mod (Mod.refl [] _) (by simp) (by simp) fun b _ hb => hb.1)
        have := hnr r rfl; have := h.lo _ hx; omega
end
end Go.Msk
