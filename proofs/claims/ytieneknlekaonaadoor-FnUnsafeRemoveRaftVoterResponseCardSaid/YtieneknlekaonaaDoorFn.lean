/- A small language of resolved operations, and what the generic and the generated functions do in it (part 14). -/
import Derived.Test.YtieneknlekaonaaDoorFm
import Derived.ProofKit
import Derived.LaidMore
import Derived.OpenShut
import Derived.Stop.Joined
import Derived.Shelf.GgSortFunc.Whole
import Derived.Shelf.GgSortFunc.Tiny

/-! The law that both ways of reading tell the same: for any message, off its scheme. -/
namespace Go.Msk
open Go.RowKit
set_option maxRecDepth 100000

/-- The reading calls the right functions (u: unsafe, x: flexible). -/
def Sc.okB (F : Nat → Nat) (has : Nat → Bool) (u x : Bool) : Sc → Bool
  | .nil => true
  | .prm _ _ r p d rest => selOk F has p u x (r.sel u x) && decide (p.size = d.size) && rest.okB F has u x
  | .enm _ _ r p d rest => selOk F has p u x (r.sel u x) && decide (p.size = d.size) && rest.okB F has u x
  | .lsp _ len bytes d _ r p rest => lenOk F has x (len.sel u x) && decide (bytes ≤ 32768) && selOk F has p u x (r.sel u x) && decide (p.size = d.size) && rest.okB F has u x
  | .lss _ len bytes z _ body rest => lenOk F has x (len.sel u x) && decide (bytes ≤ 32768) && decide (z.length = body.size) && body.okB F has u x && rest.okB F has u x
  | .sub _ _ body rest => body.okB F has u x && rest.okB F has u x
  | .tags f => !x || (f == F tRead && hasAll has [tRead, rUvarint, kUvarint, rSpan, tSet])
  | .uid _ f rest => selOk F has .uuid u x f && rest.okB F has u x

/-- The defaults that it sets. -/
def Sc.dfs : Sc → List (FuncId × List Value × List Value)
  | .nil => []
  | .prm _ _ _ _ _ rest => rest.dfs
  | .enm _ _ _ _ _ rest => rest.dfs
  | .lsp _ _ _ _ _ _ _ rest => rest.dfs
  | .lss _ _ _ z dfl body rest => (dfl, z, body.dcs.flatten) :: (body.dfs ++ rest.dfs)
  | .sub _ dfl body rest => (dfl, body.dcs.flatten, body.dcs.flatten) :: (body.dfs ++ rest.dfs)
  | .tags _ => []
  | .uid _ _ rest => rest.dfs

/-- What is asked of these. -/
def DfsOk (P : Program) : List (FuncId × List Value × List Value) → Prop
  | [] => True
  | p :: l => DfC P p.1 p.2.1 p.2.2 ∧ DfsOk P l

theorem DfsOk.append {P : Program} {l l' : List (FuncId × List Value × List Value)} (h : DfsOk P (l ++ l')) : DfsOk P l ∧ DfsOk P l' := by
  induction l with
  | nil => exact ⟨trivial, h⟩
  | cons p l ih => exact ⟨⟨h.1, (ih h.2).1⟩, (ih h.2).2⟩

theorem Sc.ok_of {P : Program} {F : Nat → Nat} {has : Nat → Bool} (L : Lib P F has) {u x : Bool} : ∀ sc : Sc, sc.okB F has u x = true → DfsOk P sc.dfs → sc.Ok P decStd u x := by
  intro sc
  induction sc with
  | nil => intro _ _; trivial
  | prm vc i r p d rest ih =>
    intro h hd
    simp only [Sc.okB, Bool.and_eq_true, decide_eq_true_eq] at h
    exact ⟨sel_std L h.1.1, h.1.2, ih h.2 hd⟩
  | enm vc i r p d rest ih =>
    intro h hd
    simp only [Sc.okB, Bool.and_eq_true, decide_eq_true_eq] at h
    exact ⟨sel_std L h.1.1, h.1.2, ih h.2 hd⟩
  | lsp vc len b d i r p rest ih =>
    intro h hd
    simp only [Sc.okB, Bool.and_eq_true, decide_eq_true_eq] at h
    exact ⟨len_std L h.1.1.1.1, h.1.1.1.2, sel_std L h.1.1.2, h.1.2, ih h.2 hd⟩
  | lss vc len b z dfl body rest ihb ih =>
    intro h hd
    simp only [Sc.okB, Bool.and_eq_true, decide_eq_true_eq] at h
    obtain ⟨k1, k2⟩ := DfsOk.append hd.2
    exact ⟨len_std L h.1.1.1.1, h.1.1.1.2, h.1.1.2, hd.1, ihb h.1.2 k1, ih h.2 k2⟩
  | sub vc dfl body rest ihb ih =>
    intro h hd
    simp only [Sc.okB, Bool.and_eq_true] at h
    obtain ⟨k1, k2⟩ := DfsOk.append hd.2
    exact ⟨hd.1, ihb h.1 k1, ih h.2 k2⟩
  | uid vc f rest ih =>
    intro h hd
    simp only [Sc.okB, Bool.and_eq_true] at h
    exact ⟨sel_std L h.1, ih h.2 hd⟩
  | tags f =>
    intro h _ hx
    simp only [Sc.okB, hx, Bool.not_true, Bool.false_or, Bool.and_eq_true, beq_iff_eq] at h
    obtain ⟨rfl, h⟩ := h
    exact tags_std L h

def Top.okB (F : Nat → Nat) (has : Nat → Bool) (T : Top) : Bool :=
  (match T.rv with | none => true | some f => f == F rInt16 && hasAll has [rInt16, beUint16]) && (T.ok == F rOk && has rOk) && (T.cpl == F rComplete && has rComplete) &&
  T.sc.okB F has true false && T.sc.okB F has false false && (T.flex.isNone || (T.sc.okB F has true true && T.sc.okB F has false true))

theorem Top.ok_of {P : Program} {F : Nat → Nat} {has : Nat → Bool} (L : Lib P F has) {T : Top} (h : T.okB F has = true) (hd : DfsOk P T.sc.dfs) {l : List (Nat × Value)} (hf : liftF P T.dfl = some (dfGen l)) (hl : dfOk l (T.sc.dcs.flatten.length + 1))
    (hr : ∀ ver, dfRes l (.int .i16 ver :: T.sc.dcs.flatten) = .int .i16 ver :: T.sc.dcs.flatten) (u : Bool) : T.Ok P decStd (F gErr) u := by
  unfold Top.okB at h
  simp only [Bool.and_eq_true, beq_iff_eq, Bool.or_eq_true] at h
  obtain ⟨⟨⟨⟨⟨h1, h2⟩, h3⟩, h4⟩, h5⟩, h6⟩ := h
  refine ⟨fun f hf => ?_, ?_, ?_, decStd_short, fun ver => df_call L.mixed hf (by simpa using hl) (hr ver), fun x hx => ?_⟩
  · rw [hf] at h1
    simp only [Bool.and_eq_true, beq_iff_eq] at h1
    obtain ⟨rfl, h1⟩ := h1
    have h1 := hasAll_mem h1
    exact rInt16_call L.mixed (L.rInt16 (h1 _ (by simp))) (L.beUint16 (h1 _ (by simp)))
  · rw [h2.1]; exact ok_std L h2.2
  · rw [h3.1]; exact cpl_std L h3.2
  · refine Sc.ok_of L _ ?_ hd
    cases x with
    | false => cases u <;> assumption
    | true =>
      have : T.flex.isNone = false := by
        cases hfl : T.flex with
        | none => exact absurd (hx hfl) (by simp)
        | some n => rfl
      rw [this] at h6
      have h6 := h6.resolve_left (by simp)
      cases u
      · exact h6.2
      · exact h6.1

/-- The functions that tell. -/
structure LibI (P : Program) (F : Nat → Nat) (has : Nat → Bool) : Prop where
  iBoolTree : has Msk.iBoolTree = true → liftF P (F Msk.iBoolTree) = some (ir_iBoolTree F)
  iTextTree : has Msk.iTextTree = true → liftF P (F Msk.iTextTree) = some (ir_iTextTree F)
  iOctetsTree : has Msk.iOctetsTree = true → liftF P (F Msk.iOctetsTree) = some (ir_iOctetsTree F)
  tEach : has Msk.tEach = true → liftF P (F Msk.tEach) = some (ir_tEach F)
  iSorted : has Msk.iSorted = true → liftF P (F Msk.iSorted) = some (ir_iSorted F)
  sort : has Msk.tEach = true → SortC P (F sortSlice) (F tEach1) (F tyU32s)

section
variable {P : Program} {F : Nat → Nat}

theorem boolTree_ok (hm : P.follows .mixedOrders = true) (h : liftF P (F iBoolTree) = some (ir_iBoolTree F)) : (TK.boo (F iBoolTree)).Ok P := by
  intro O w g v hg hr
  obtain ⟨b, rfl⟩ := hg
  have hv : v = .bool b := by cases hr; rfl
  subst hv
  refine call_of h hm (by simp) ?_
  rw [wpC_seq, wpC_blk]
  refine wpR_run ?_
  intro T
  have hb2 : Blk (w.alloc (.cells tzero.toArray T)) w.heap.size tzero := Blk.new w tzero T
  have hm1 : Mod [] w (w.alloc (.cells tzero.toArray T)) := Mod.alloc _ _ _
  have hz : ([Value.int .i64 0, .slice none 0 0, .bool false, .slice none 0 0, .slice none 0 0] : List Value) = tzero := rfl
  rw [hz]
  have hsz : (w.alloc (.cells tzero.toArray T)).heap.size = w.heap.size + 1 := by simp
  generalize w.alloc (.cells tzero.toArray T) = w1 at hb2 hm1 hsz ⊢
  have a0 : args0 [Value.bool b] 0 = .bool b := rfl
  generalize args0 [Value.bool b] = σ0 at a0 ⊢
  show wpC P (.seq (.seq _ _) _) _ _ _
  rw [wpC_seq, wpC_seq, wpC_blk]
  refine wpR_step (v := .bool b) (by simp [RK.val?, ev, updo, upd, a0]) ?_
  refine wpR_done ?_
  cases b with
  | true =>
    rw [wpC_cond_t rfl, wpC_seq, wpC_blk]
    refine wpR_step (v := .agg [.int .i64 1, .slice none 0 0, .bool false, .slice none 0 0, .slice none 0 0].toArray) (by simp [RK.val?, ev, fillL, tzero, splice, Value.cells]) ?_
    exact treeRet (by simp [updo, upd]) hb2 (by simp [updo, upd]) (RepT.num 1 false) hm1.nil (Nat.le_refl _)
  | false =>
    rw [wpC_cond_f rfl, wpC_skip]
    simp only [thenC]
    rw [wpC_seq, wpC_blk]
    refine wpR_step (v := .agg [.int .i64 0, .slice none 0 0, .bool false, .slice none 0 0, .slice none 0 0].toArray) (by simp [RK.val?, ev, fillL, tzero]) ?_
    exact treeRet (by simp [updo, upd]) hb2 (by simp [updo, upd]) (RepT.num 0 false) hm1.nil (Nat.le_refl _)

def TK.okB (F : Nat → Nat) (has : Nat → Bool) : TK → Bool
  | .num _ => true
  | .str => true
  | .boo f => f == F iBoolTree && has iBoolTree
  | .txt f => f == F iTextTree && has iTextTree
  | .oct f => f == F iOctetsTree && has iOctetsTree

theorem TK.ok_of {has : Nat → Bool} (hm : P.follows .mixedOrders = true) (L : LibI P F has) {k : TK} (h : k.okB F has = true) : k.Ok P := by
  cases k with
  | num c => trivial
  | str => trivial
  | boo f => simp only [TK.okB, Bool.and_eq_true, beq_iff_eq] at h; rw [h.1]; exact boolTree_ok hm (L.iBoolTree h.2)
  | txt f => simp only [TK.okB, Bool.and_eq_true, beq_iff_eq] at h; rw [h.1]; exact textTree_ok hm (L.iTextTree h.2)
  | oct f => simp only [TK.okB, Bool.and_eq_true, beq_iff_eq] at h; rw [h.1]; exact octetsTree_ok hm (L.iOctetsTree h.2)

/-- How many cells. -/
def Tl.cells : Tl → Nat
  | .nil => 0
  | .fld _ rest => 1 + rest.cells
  | .lst _ _ _ rest => 1 + rest.cells
  | .uid rest => 16 + rest.cells
  | .sub _ n _ rest => n + rest.cells
  | .tags .. => 1

/-- The functions that it calls, apart from those for nested structs. -/
def Tl.okB (F : Nat → Nat) (has : Nat → Bool) : Tl → Bool
  | .nil => true
  | .fld k rest => k.okB F has && rest.okB F has
  | .lst k _ body rest => (match k with | .tell _ => decide (0 < body.cells) && decide (body.len ≤ 1000) | _ => true) && body.okB F has && rest.okB F has
  | .uid rest => rest.okB F has
  | .sub _ n body rest => decide (0 < body.cells) && decide (body.len ≤ 1000) && decide (body.cells = n) && body.okB F has && rest.okB F has
  | .tags _ b c => b == F tEach && c == F iSorted && has tEach && has iSorted

/-- The functions for nested structs; those that are called for each tag. -/
def Tl.subs : Tl → List (FuncId × Tl)
  | .nil => []
  | .fld _ rest => rest.subs
  | .lst k _ body rest => (match k with | .tell f => [(f, body)] | _ => []) ++ (body.subs ++ rest.subs)
  | .uid rest => rest.subs
  | .sub f _ body rest => (f, body) :: (body.subs ++ rest.subs)
  | .tags .. => []
def Tl.cbs : Tl → List FuncId
  | .nil => []
  | .fld _ rest => rest.cbs
  | .lst _ _ body rest => body.cbs ++ rest.cbs
  | .uid rest => rest.cbs
  | .sub _ _ body rest => body.cbs ++ rest.cbs
  | .tags a _ _ => [a]

/-- What is asked of these. -/
def SubsOk (P : Program) : List (FuncId × Tl) → Prop
  | [] => True
  | p :: l => liftF P p.1 = some (p.2.code 0) ∧ SubsOk P l
def CbsOk (P : Program) : List FuncId → Prop
  | [] => True
  | a :: l => (liftF P a = some cbCode ∧ hasBody P a = true) ∧ CbsOk P l

theorem SubsOk.append {l l' : List (FuncId × Tl)} (h : SubsOk P (l ++ l')) : SubsOk P l ∧ SubsOk P l' := by
  induction l with
  | nil => exact ⟨trivial, h⟩
  | cons p l ih => exact ⟨⟨h.1, (ih h.2).1⟩, (ih h.2).2⟩
theorem CbsOk.append {l l' : List FuncId} (h : CbsOk P (l ++ l')) : CbsOk P l ∧ CbsOk P l' := by
  induction l with
  | nil => exact ⟨trivial, h⟩
  | cons p l ih => exact ⟨⟨h.1, (ih h.2).1⟩, (ih h.2).2⟩

theorem Tl.cells_len {has : Nat → Bool} : ∀ (tl : Tl) (O : List Nat) (w : World) (gs : List GV) (css : List (List Value)), tl.okB F has = true → tl.ty gs → RepL O w gs css → css.flatten.length = tl.cells := by
  intro tl
  induction tl with
  | nil => intro O w gs css _ hT hr; simp only [Tl.ty] at hT; subst hT; cases hr; rfl
  | fld k rest ih =>
    intro O w gs css h hT hr
    simp only [Tl.okB, Bool.and_eq_true] at h
    obtain ⟨g, l, rfl, hg, hT⟩ := hT
    cases hr with
    | cons h1 h2 => simp only [List.flatten_cons, List.length_append, Tl.cells, TK.one hg h1, ih _ _ _ _ h.2 hT h2]
  | lst k esz body rest _ ih =>
    intro O w gs css h hT hr
    simp only [Tl.okB, Bool.and_eq_true] at h
    obtain ⟨isnil, sz, x, l, rfl, -, -, -, hT⟩ := hT
    cases hr with
    | @cons _ _ cs css h1 h2 =>
      have : cs.length = 1 := by cases h1 <;> rfl
      simp only [List.flatten_cons, List.length_append, Tl.cells, this, ih _ _ _ _ h.2 hT h2]
  | uid rest ih =>
    intro O w gs css h hT hr
    obtain ⟨x, l, rfl, hx, hT⟩ := hT
    cases hr with
    | @cons _ _ cs css h1 h2 =>
      have : cs.length = 16 := by cases h1; rw [u8s_length, hx]
      simp only [List.flatten_cons, List.length_append, Tl.cells, this, ih _ _ _ _ h hT h2]
  | sub f n body rest ihb ih =>
    intro O w gs css h hT hr
    simp only [Tl.okB, Bool.and_eq_true, decide_eq_true_eq] at h
    obtain ⟨x, l, rfl, hx, hT, -⟩ := hT
    cases hr with
    | @cons _ _ cs css h1 h2 =>
      have : cs.length = n := by cases h1 with | rcd h1 => rw [← h.1.1.2]; exact ihb _ _ _ _ h.1.2 hx h1
      simp only [List.flatten_cons, List.length_append, Tl.cells, this, ih _ _ _ _ h.2 hT h2]
  | tags a b c =>
    intro O w gs css h hT hr
    obtain ⟨m, rfl, -⟩ := hT
    cases hr with
    | @cons _ _ cs css h1 h2 =>
      cases h2
      have : cs.length = 1 := by cases h1 <;> rfl
      simp [this, Tl.cells]

theorem Tl.tellS {has : Nat → Bool} (hm : P.follows .mixedOrders = true) {tl : Tl} {f : FuncId} (hb : tl.okB F has = true) (hO : tl.Ok P) (hpos : 0 < tl.cells) (hlen : tl.len ≤ 1000) (h : liftF P f = some (tl.code 0)) : TellS P f tl.ty := by
  intro O w B base gs css hT hr hc
  have hl := Tl.cells_len tl O w gs css hb hT hr
  have hcell : ∃ v, css.flatten[0]? = some v := ⟨css.flatten[0], List.getElem?_eq_getElem (by omega)⟩
  obtain ⟨v, hv⟩ := hcell
  have := hc.2 0 v hv
  have hlt := World.block_lt_of_cell? w _ this
  exact Tl.call hm h hO hlen O w B base gs css hT hr hlt hc

theorem Tl.ok_of {has : Nat → Bool} (hm : P.follows .mixedOrders = true) (L : LibI P F has) : ∀ tl : Tl, tl.okB F has = true → SubsOk P tl.subs → CbsOk P tl.cbs → tl.Ok P := by
  intro tl
  induction tl with
  | nil => intro _ _ _; trivial
  | fld k rest ih =>
    intro h hs hc
    simp only [Tl.okB, Bool.and_eq_true] at h
    exact ⟨TK.ok_of hm L h.1, ih h.2 hs hc⟩
  | lst k esz body rest ihb ih =>
    intro h hs hc
    simp only [Tl.okB, Bool.and_eq_true] at h
    obtain ⟨s1, s2⟩ := SubsOk.append hs
    obtain ⟨s3, s4⟩ := SubsOk.append s2
    obtain ⟨c1, c2⟩ := CbsOk.append hc
    refine ⟨?_, ih h.2 s4 c2⟩
    cases k with
    | num c => trivial
    | str => trivial
    | tell f =>
      simp only [Bool.and_eq_true, decide_eq_true_eq] at h
      exact Tl.tellS hm h.1.2 (ihb h.1.2 s3 c1) h.1.1.1 h.1.1.2 s1.1
  | uid rest ih => intro h hs hc; exact ih h hs hc
  | sub f n body rest ihb ih =>
    intro h hs hc
    simp only [Tl.okB, Bool.and_eq_true, decide_eq_true_eq] at h
    obtain ⟨s3, s4⟩ := SubsOk.append hs.2
    obtain ⟨c1, c2⟩ := CbsOk.append hc
    exact ⟨Tl.tellS hm h.1.2 (ihb h.1.2 s3 c1) h.1.1.1.1 h.1.1.1.2 hs.1, ih h.2 s4 c2, fun O w gs css hT hr => by rw [← h.1.1.2]; exact Tl.cells_len body O w gs css h.1.2 hT hr⟩
  | tags a b c =>
    intro h _ hc
    simp only [Tl.okB, Bool.and_eq_true, beq_iff_eq] at h
    obtain ⟨⟨⟨rfl, rfl⟩, h3⟩, h4⟩ := h
    exact ⟨hm, hc.1.1, hc.1.2, fun hcb hb _ _ _ _ hce hM h1 h2 h5 h6 h7 h8 h9 => tEach_call hm (L.tEach h3) (L.sort h3) hcb hb hce hM h1 h2 h5 h6 h7 h8 h9, fun hp hs hl => iSorted_call hm (L.iSorted h4) hp hs hl⟩

/-- The functions of a message: telling by either way, all the rest. -/
structure MsgFs where
  tellD : FuncId
  unsD : FuncId
  mx : FuncId
  newp : FuncId
  maxv : FuncId
  setv : FuncId
  rf : FuncId
  urf : FuncId
  rd : FuncId
  tell : FuncId

/-- What a message's functions are. -/
structure MsgOk (P : Program) (F : Nat → Nat) (has : Nat → Bool) (M : MsgFs) (T : Top) (tl : Tl) (z : List Value) (most : Int) : Prop where
  mx : liftF P M.mx = some (impMaxCode M.newp M.maxv)
  maxv : liftF P M.maxv = some (maxCode most)
  newp : liftF P M.newp = some (newCode z T.dfl)
  setv : liftF P M.setv = some setCode
  rf : liftF P M.rf = some (rfCode M.rd false)
  urf : liftF P M.urf = some (rfCode M.rd true)
  tellD : liftF P M.tellD = some (tellCode M.newp M.setv M.rf M.tell)
  unsD : liftF P M.unsD = some (tellCode M.newp M.setv M.urf M.tell)
  rd : liftF P M.rd = some T.gen
  tell : liftF P M.tell = some (tl.code 1)
  dfl : ∃ l, liftF P T.dfl = some (dfGen l) ∧ dfOk l (T.sc.dcs.flatten.length + 1) ∧ z.length = T.sc.dcs.flatten.length + 1 ∧ dfRes l z = .int .i16 0 :: T.sc.dcs.flatten ∧ ∀ ver, dfRes l (.int .i16 ver :: T.sc.dcs.flatten) = .int .i16 ver :: T.sc.dcs.flatten
  dfs : DfsOk P T.sc.dfs
  okT : T.okB F has = true
  okL : tl.okB F has = true
  subs : SubsOk P tl.subs
  cbs : CbsOk P tl.cbs
  fits : fit T.sc tl = true
  small : T.sc.smallB = true
  len : T.sc.len ≤ 1000
  tlen : tl.len ≤ 1000
  most : 0 ≤ most ∧ most < 32768

variable {has : Nat → Bool} {M : MsgFs} {T : Top} {tl : Tl} {z : List Value} {most : Int}

theorem Top.dec_src {T : Top} {ver v : Int} {src : List UInt8} {n : Bool} {gs : List GV} {s' : RS} (h : T.dec decStd ver ⟨src, false, n⟩ = some ((v, gs), s')) : ∃ s1 : RS, s1.src.length ≤ src.length ∧ T.sc.dec decStd v (T.x v) s1 = some (gs, s') := by
  unfold Top.dec at h
  split at h
  rename_i v1 s1 he
  split at h
  · simp at h
  · rename_i l s2 hd
    simp only [Option.some.injEq, Prod.mk.injEq] at h
    obtain ⟨⟨rfl, rfl⟩, rfl⟩ := h
    refine ⟨s1, ?_, hd⟩
    split at he
    · simp only [Prod.mk.injEq] at he
      rw [← he.2]; exact rdN_le 2 ⟨src, false, n⟩
    · simp only [Prod.mk.injEq] at he
      rw [← he.2]; exact Nat.le_refl _

theorem MsgOk.tells_small (h : MsgOk P F has M T tl z most) {ver : Int} {src : List UInt8} {t : TR} (hl : src.length ≤ 2147483647) (ht : T.tells decStd ver src = some t) : t.small := by
  unfold Top.tells at ht
  cases hd : T.dec decStd ver ⟨src, false, src.isEmpty⟩ with
  | none => rw [hd] at ht; simp at ht
  | some q =>
    obtain ⟨⟨v, gs⟩, s⟩ := q
    rw [hd] at ht
    simp only at ht
    split at ht
    · simp at ht
    · simp only [Option.some.injEq] at ht
      subst ht
      obtain ⟨s1, h1, h2⟩ := Top.dec_src hd
      obtain ⟨k1, k2, -⟩ := dec_small decStd_ok decStd_small T.sc s1 s gs h.small (by omega) h2
      exact (rcd_small (by have := h.len; omega) k2).1

theorem MsgOk.ty (h : MsgOk P F has M T tl z most) {ver vr : Int} {src : List UInt8} {gs : List GV} {s : RS} (hl : src.length ≤ 2147483647) (hd : T.dec decStd ver ⟨src, false, src.isEmpty⟩ = some ((vr, gs), s)) : tl.ty gs := by
  obtain ⟨s1, h1, h2⟩ := Top.dec_src hd
  exact (fit_ty decStd_ok T.sc tl s1 s gs h.fits (by omega) h2).1

/-- The doors that tell. -/
theorem MsgOk.tellOf (L : Lib P F has) (LI : LibI P F has) (h : MsgOk P F has M T tl z most) {Te : TypeId} {ve : Value} :
    TellOf P M.tellD (F gErr) Te ve (fun ver src => T.tells decStd ver src) most ∧ TellOf P M.unsD (F gErr) Te ve (fun ver src => T.tells decStd ver src) most := by
  obtain ⟨l, e1, e2, e3, e4, e5⟩ := h.dfl
  have hz : DfC P T.dfl z (.int .i16 0 :: T.sc.dcs.flatten) := df_call L.mixed e1 (by rw [e3]; exact e2) e4
  have hT : ∀ u, T.Ok P decStd (F gErr) u := Top.ok_of L h.okT h.dfs e1 e2 e5
  have htl : TellAt P M.tell 1 tl.ty := Tl.call L.mixed h.tell (Tl.ok_of L.mixed LI tl h.okL h.subs h.cbs) h.tlen
  have hw : ∀ ver : Int, 0 ≤ ver → ver ≤ most → IntKind.i16.wrap ver = ver := fun ver h1 h2 => by
    have := h.most
    simp only [IntKind.wrap, IntKind.bits, IntKind.signed]; simp; omega
  refine ⟨fun w ver v src h1 h2 h3 h4 h5 => ?_, fun w ver v src h1 h2 h3 h4 h5 => ?_⟩
  · exact tell_call L.mixed h.tellD h.newp hz h.setv h.rf h.rd (hT false) htl (fun vr gs s hd => h.ty (by omega) hd) h4 (by omega) (hw ver h1 h2) h5
  · exact tell_call L.mixed h.unsD h.newp hz h.setv h.urf h.rd (hT true) htl (fun vr gs s hd => h.ty (by omega) hd) h4 (by omega) (hw ver h1 h2) h5

theorem uns_msg (L : Lib P F has) (LI : LibI P F has) (h : MsgOk P F has M T tl z most) {f : FuncId} (hf : liftF P f = some (unsCode M.mx (F lVersion) M.tellD M.unsD (F lGot) (F sSameTree))) (hv : liftF P (F lVersion) = some (ir_lVersion F))
    (hg : liftF P (F lGot) = some (ir_lGot F)) (hst : liftF P (F sSameTree) = some (ir_sSameTree F)) (hs : liftF P (F sSame) = some (ir_sSame F)) {Te : TypeId} {ve : Value} {w : World} {n : Int} (hn : 0 ≤ n ∧ n < 256) {v : Value} {src : List UInt8}
    (hsl : SlC (fun _ => True) w v src.length (u8s src)) (hge : GErr (F gErr) w Te ve) : Calls P f [.int .u8 n, v].toArray w fun e w' => e = .returned (.bool true) ∧ Mod [] w w' := by
  obtain ⟨l, e1, e2, e3, e4, e5⟩ := h.dfl
  have hz : DfC P T.dfl z (.int .i16 0 :: T.sc.dcs.flatten) := df_call L.mixed e1 (by rw [e3]; exact e2) e4
  obtain ⟨t1, t2⟩ := h.tellOf L LI (Te := Te) (ve := ve)
  exact uns_call L.mixed hf h.most (fun w => impMax_call L.mixed h.mx h.newp hz h.maxv h.most) (fun w n hn => version_call L.mixed hv hn h.most) t1 t2 (fun ver src t hl ht => h.tells_small (by omega) ht) (got_call L.mixed hg) (sameTree_call L.mixed hst hs) hn hsl hge

end
end Go.Msk

/-! From the rows: octets are opened and shut again; the listed variable is read. -/
namespace Go.Msk
open Go.RowKit Go.ChangeShapes Go.WideShapes Go.ChangeAt
set_option maxRecDepth 100000

theorem Mod.keptBut {W W' : World} (h : Mod [] W W') (may : MemPlace → Prop) : W.keptBut W' may := by
  refine ⟨h.os, h.output, fun i hi => ?_⟩
  rw [h.block i hi (by simp)]
  cases W.heap[i]? with
  | none => rfl
  | some o => cases o <;> simp

/-- The row's end, where nothing is written. -/
theorem post_of_mod {H : Type} {enc : TypeId × Value → H} {P : Program} {f : Func} {s : ChangeSpec} {apart fresh handsOn : Bool} {W W' : World} {args : Array Value} {v : Value} {ds gs : List (DataW H)} {before pa pv : List MemPlace}
    (hW : DataW.Whole enc P f.params.toList s.vars apart W args.toList ds gs before)
    (hres : ∀ b : Nat, DataW.TrodAll enc P W' b (fun _ => false) handsOn f.resultTypes.toList (v.resultList f.resultTypes.size) (s.fn H (ds ++ gs)).results [])
    (hargs : DataW.TrodAll enc P W' 0 (fun b => decide (b < W.heap.size)) true f.params.toList args.toList (s.fn H (ds ++ gs)).args pa)
    (hvars : DataW.TrodVars enc P W' (fun b => decide (b < W.heap.size)) s.vars (s.fn H (ds ++ gs)).vars pv) (hm : Mod [] W W') : s.post enc P f apart fresh handsOn false W args v W' :=
  ⟨ds, gs, before, [], pa, pv, hW, hres _, hargs, hvars, hm.keptBut _, fun h => by simp at h⟩

theorem u8_of {n : Int} (h : (Lit.int .u8 n).wf = true) : 0 ≤ n ∧ n < 256 := by
  simp only [Lit.wf, Bool.and_eq_true, decide_eq_true_eq] at h
  have h1 : IntKind.u8.min = 0 := by rfl
  have h2 : IntKind.u8.max = 255 := by rfl
  omega

section
variable {H : Type} {enc : TypeId × Value → H} {P : Program} {W : World}

/-- Octets, opened; and that they read so in any world in which nothing of this one has turned. -/
theorem open_octets {base : Nat} {t e : TypeId} {v : Value} {d : DataW H} {p : List MemPlace} (ht : P.underlying t = some (.slice e)) (he : P.underlying e = some (.int .u8)) (hc : P.cellsOf e = 1) (hv : Value.okWide P W .any base t v)
    (h : DataW.Trod enc P W 0 (fun _ => true) true t v d p) :
    ∃ src : List UInt8, SlC (fun _ => True) W v src.length (u8s src) ∧ ∀ W', Mod [] W W' → DataW.Trod enc P W' 0 (fun b => decide (b < W.heap.size)) true t v d p := by
  have hv' := hv
  simp only [Value.okWide, ht, Cell.okWide, Cell.ok] at hv'
  obtain ⟨a0, len, cap, rfl⟩ := okWide_slice ht hv
  obtain ⟨fuel, hf⟩ := h
  rcases open_ints ht he hc hf with ⟨hcs, hx⟩ | ⟨a, len', cap', zs, hcs, _, hl, hm, hz, hx, hcell, hwz⟩
  · have e0 : Value.slice a0 len cap = .slice none 0 0 := by simpa [Value.cells] using hcs
    simp only [Value.slice.injEq] at e0
    obtain ⟨rfl, rfl, rfl⟩ := e0
    refine ⟨[], SlC.nil, fun W' _ => ⟨1, ?_⟩⟩
    simp only [Prod.mk.injEq] at hx
    obtain ⟨rfl, rfl⟩ := hx
    simp [DataW.trod, ht, Value.cells]
  · have e0 : Value.slice a0 len cap = .slice (some a) len' cap' := by simpa [Value.cells] using hcs
    simp only [Value.slice.injEq] at e0
    obtain ⟨rfl, rfl, rfl⟩ := e0
    simp only at hv'
    obtain ⟨-, -, -, hsp, row, cells, hsh, -⟩ := hv'
    have hlt : a.block < W.heap.size := by
      unfold World.shape? at hsh
      rcases Nat.lt_or_ge a.block W.heap.size with h | h
      · exact h
      · rw [Array.getElem?_eq_none h] at hsh; simp at hsh
    simp only [if_true] at hz
    have hadd : ∀ i, a.add i = ⟨a.block, a.off + i, none⟩ := Addr.add_of hsp
    have hb : ∀ n ∈ zs, 0 ≤ n ∧ n < 256 := fun n hn => u8_of (hwz n hn)
    have hlen : ((zs.take len).map fun n => UInt8.ofNat n.toNat).length = len := by simp; omega
    refine ⟨(zs.take len).map fun n => UInt8.ofNat n.toNat, ⟨some a, cap, by rw [hlen], by rw [hlen]; exact hl, fun h => by simp at h, fun a' ha => ?_⟩, fun W' hmod => ⟨2, ?_⟩⟩
    · simp only [Option.some.injEq] at ha; subst ha
      refine ⟨trivial, hlt, hsp, fun i v hi => ?_⟩
      have hi' : i < len := by
        have := (List.getElem?_eq_some_iff.1 hi).1
        rw [u8s_length, hlen] at this
        exact this
      have := hcell i (by omega)
      rw [hadd] at this
      rw [this]
      have hzi : zs[i]? = some zs[i] := List.getElem?_eq_getElem (by omega)
      have e1 : zs.getD i 0 = zs[i] := by rw [List.getD, hzi]; rfl
      rw [e1]
      have hn := hb zs[i] (List.getElem_mem (by omega))
      simp only [u8s, List.map_map, List.getElem?_map, List.getElem?_take, hi', if_true, hzi, Option.map_some, Function.comp, Option.some.injEq] at hi
      rw [← hi]
      congr 1
      generalize zs[i] = n at hn
      have : (UInt8.ofNat n.toNat).toNat = n.toNat := by simp; omega
      rw [Value.int.injEq]
      exact ⟨rfl, by rw [this]; omega⟩
    · simp only [Prod.mk.injEq] at hx
      obtain ⟨rfl, rfl⟩ := hx
      exact shut_ints 0 ht he hc (Nat.zero_le _) hl hm (by simp [hlt, hz]) (fun i hi => by
        have := hcell i hi
        exact cell_mod this hmod (by simp)) hwz

/-- The listed variable holds an error. -/
theorem gerr_of_laid {n : String} {g : Nat} {t : TypeId} {ms : Array (String × TypeId)} {tn : String} {d : DataW Unit} (hg : P.globalNamed n = some g) (ht : (P.globals[g]?).map (·.type) = some t) (hi : P.underlying t = some (.interface ms))
    (hl : laidMetH P [(n, .iface tn d)] W) (hh : ([(n, DataW.iface (H := Unit) tn d)].all fun x => x.2.handleName?.isNone) = true) : ∃ T v, GErr g W T v := by
  rw [MakeChecks.laidMetH_plain _ _ _ hh] at hl
  obtain ⟨ps, ⟨g0, t0, cs0, f0, p0, q0, hg0, ht0, hv0, hd0, -⟩, -, -⟩ := hl
  obtain rfl := Option.some.inj (hg.symm.trans hg0)
  obtain rfl := Option.some.inj (ht.symm.trans ht0)
  obtain ⟨_, u, v, hcs, -, -⟩ := iface_of_trod hi hd0
  refine ⟨u, v, ?_⟩
  have := World.var?_cell hg hv0 0
  rw [Array.eq_one_of_toList hcs] at this
  simpa [GErr] using this

end
end Go.Msk

/-! Numbers sorted by sort.Slice, after the library's own contract. -/
namespace Go.Msk
open Go.RowKit Go.Shelf Go.Proofs
set_option maxRecDepth 100000

def ltN (x y : Nat) : Bool := decide (x < y)
theorem swo_ltN : Go.Sort.SWO ltN where
  irrefl := fun x => by simp [ltN]
  trans := fun x y z => by simp only [ltN, decide_eq_true_eq]; omega
  ntrans := fun x y z => by simp only [ltN, decide_eq_false_iff_not]; omega

/-- The world with the row holding other numbers, and new blocks behind. -/
theorem sortWorld_ok {w : World} {B m : Nat} {cs : List Value} {dk : Array Nat} {os : Array Obj} (h : Blk w B cs) (hl : cs.length = dk.size) :
    Mod [B] w (Go.Sort.grow (Go.Sort.putRow u32v (Go.Sort.ahead w m) B 0 dk) os) ∧ Blk (Go.Sort.grow (Go.Sort.putRow u32v (Go.Sort.ahead w m) B 0 dk) os) B (dk.toList.map u32v) := by
  obtain ⟨T, fr, hb, hfr⟩ := h
  have hlt : B < w.heap.size := (Array.getElem?_eq_some_iff.1 hb).1
  have hsz : (w.heap.modify B (Go.Sort.onCells (Go.Sort.putCells u32v 0 dk))).size = w.heap.size := by simp
  have hget : ∀ k, k < w.heap.size → (Go.Sort.grow (Go.Sort.putRow u32v (Go.Sort.ahead w m) B 0 dk) os).heap[k]? = (w.heap.modify B (Go.Sort.onCells (Go.Sort.putCells u32v 0 dk)))[k]? := fun k hk => by
    show ((w.heap.modify B (Go.Sort.onCells (Go.Sort.putCells u32v 0 dk))) ++ os)[k]? = _
    rw [Array.getElem?_append_left (by omega)]
  refine ⟨⟨rfl, rfl, rfl, ?_, fun k hk hn => ?_⟩, T, fr, ?_, ?_⟩
  · show w.heap.size ≤ ((w.heap.modify B (Go.Sort.onCells (Go.Sort.putCells u32v 0 dk))) ++ os).size
    simp
  · rw [hget k hk, Array.getElem?_modify, if_neg (by simp only [List.mem_singleton] at hn; omega)]
  · rw [hget B hlt, Array.getElem?_modify, if_pos rfl, hb]
    simp only [Option.map_some, Go.Sort.onCells, Option.some.injEq, Obj.cells.injEq, and_true]
    apply Array.ext_getElem?
    intro k
    simp only [Go.Sort.putCells, Array.getElem?_mapIdx, List.getElem?_toArray, List.getElem?_map, Array.getElem?_toList, Nat.zero_add, Nat.zero_le, true_and, Nat.sub_zero]
    by_cases hk : k < dk.size
    · have e1 : cs[k]? = some cs[k] := List.getElem?_eq_getElem (by omega)
      have e2 : dk[k]? = some dk[k] := Array.getElem?_eq_getElem hk
      rw [e1, e2]
      simp only [Option.map_some, if_pos hk]
      rw [getElem!_pos dk k hk]
    · rw [List.getElem?_eq_none (by omega), Array.getElem?_eq_none (by omega)]
      rfl
  · simp only [List.length_map, Array.length_toList]
    rw [← hl]; exact hfr

section
variable {P : Program} {F : Nat → Nat}

theorem each1_call (hm : P.follows .mixedOrders = true) (h : liftF P (F tEach1) = some (ir_tEach1 F)) {w : World} {B Bs n : Nat} {G : Nat → Nat} (hs : w.cell? ⟨Bs, 0, none⟩ = some (.slice (some ⟨B, 0, none⟩) n n))
    (hc : ∀ t, t < n → w.cell? ⟨B, t, none⟩ = some (u32v (G t))) {i j : Nat} (hi : i < n) (hj : j < n) :
    Calls P (F tEach1) [.int .i64 i, .int .i64 j, .pointer (some ⟨Bs, 0, none⟩)].toArray w fun e w' => e = .returned (.bool (ltN (G i) (G j))) ∧ w' = w.drew := by
  unfold ir_tEach1 at h
  refine call_of h hm (by simp) ?_
  have a0 : args0 [.int .i64 i, .int .i64 j, .pointer (some ⟨Bs, 0, none⟩)] 0 = .int .i64 i := rfl
  have a1 : args0 [.int .i64 i, .int .i64 j, .pointer (some ⟨Bs, 0, none⟩)] 1 = .int .i64 j := rfl
  have a2 : args0 [.int .i64 i, .int .i64 j, .pointer (some ⟨Bs, 0, none⟩)] 2 = .pointer (some ⟨Bs, 0, none⟩) := rfl
  generalize args0 [.int .i64 i, .int .i64 j, .pointer (some ⟨Bs, 0, none⟩)] = σ at a0 a1 a2 ⊢
  rw [wpC_seq, wpC_blk]
  refine wpR_step (v := .bool false) rfl ?_
  refine wpR_done ?_
  rw [wpC_seq]
  show wpD P _ [] _ w.drew _
  have hs' : w.drew.cell? ⟨Bs, 0, none⟩ = some (.slice (some ⟨B, 0, none⟩) n n) := hs
  have hi' : w.drew.cell? ⟨B, i, none⟩ = some (u32v (G i)) := hc i hi
  have hj' : w.drew.cell? ⟨B, j, none⟩ = some (u32v (G j)) := hc j hj
  refine wpD_pure rfl ?_
  simp only [List.map_cons, List.map_nil, List.cons_append, List.nil_append]
  refine wpR_step (v := .slice (some ⟨B, 0, none⟩) n n) (by simp only [RK.val?, ev, updo, upd]; simp [a2, hs']) ?_
  refine wpR_step (v := .int .i64 i) (by simp only [RK.val?, ev, updo, upd]; simp [a0]) ?_
  refine wpR_step (v := .pointer (some ⟨B, i, none⟩)) (by
    simp only [RK.val?, ev, updo, upd, show (6 : Nat) ≠ 7 by decide, if_false, if_true]
    rw [if_pos (by omega)]; simp [Addr.add_mk]) ?_
  refine wpR_step (v := u32v (G i)) (by simp only [RK.val?, ev, updo, upd, if_true, hi']) ?_
  refine wpR_step (v := .slice (some ⟨B, 0, none⟩) n n) (by simp only [RK.val?, ev, updo, upd]; simp [a2, hs']) ?_
  refine wpR_step (v := .int .i64 j) (by simp only [RK.val?, ev, updo, upd]; simp [a1]) ?_
  refine wpR_step (v := .pointer (some ⟨B, j, none⟩)) (by
    simp only [RK.val?, ev, updo, upd, show (10 : Nat) ≠ 11 by decide, if_false, if_true]
    rw [if_pos (by omega)]; simp [Addr.add_mk]) ?_
  refine wpR_step (v := u32v (G j)) (by simp only [RK.val?, ev, updo, upd, if_true, hj']) ?_
  refine wpR_step (v := .bool (ltN (G i) (G j))) (by
    simp only [RK.val?, ev, updo, upd, show (9 : Nat) ≠ 13 by decide, show (9 : Nat) ≠ 12 by decide, show (9 : Nat) ≠ 11 by decide, show (9 : Nat) ≠ 10 by decide, if_false, if_true, u32v, isShift, decide_true, Bool.or_true, intBin, ltN]
    congr 2; exact decide_eq_decide.2 (by omega)) ?_
  refine wpR_step (v := .bool (ltN (G i) (G j))) (by simp only [RK.val?, ev, updo, upd, if_true]) ?_
  refine wpR_done ?_
  simp only [wpC, postC, rvals, List.mapM_cons, List.mapM_nil, RV.val, updo, upd, if_true, Option.bind_eq_bind, Option.bind_some, Option.pure_def, tup_one]
  exact ⟨trivial, trivial⟩

theorem sortC_of {ρ : Ren} (L : LaysGg.n6 P ρ) (hm : P.follows .mixedOrders = true) (hl : liftF P (F tEach1) = some (ir_tEach1 F)) (hf : ρ.f 6 = F sortSlice) {e : TypeId} {i ie : TypeInfo} (hi : P.info? (F tyU32s) = some i) (hd : i.desc = .slice e)
    (hpk : P.packed (F tyU32s) = false) (hie : P.info? e = some ie) (ke : Nat) (hke : ∀ w, (Extern.Rtype.kind e).run P w = .ok ke w) (hs1 : ie.size = 1) (hagg : ∀ w, (isAgg e).run P w = .ok false w) (hp : ie.hasPointers = false) (hb : ie.bytes = 4)
    (eg : ∀ args w, (callFunc (F tEach1) args).run P w = .ok (.enter (F tEach1) args) w) (f1 f2 f6 : Nat) (h1 : P.funcs.findIdx? (·.name == "internal/reflectlite" ++ ".Swapper$" ++ toString 1) = some f1) (h2 : P.funcs.findIdx? (·.name == "internal/reflectlite" ++ ".Swapper$" ++ toString 2) = some f2)
    (h6 : P.funcs.findIdx? (·.name == "internal/reflectlite" ++ ".Swapper$" ++ toString 6) = some f6) (gS : Bool) (hx : ∀ args W, (callFunc f6 args).run P W = ((Extern.ReflectliteSwapper.swap gS args).run P W).andThen fun v w' => .ok (.value v) w') :
    SortC P (F sortSlice) (F tEach1) (F tyU32s) := by
  intro w B Bs ks hB hBs hne hlen hk32
  rw [← hf]
  by_cases hn : 2 ≤ ks.length
  · have hK : Go.Lib.swapperK ks.toArray.size ie ke = 6 := by
      have c : (ks.toArray.size == 0) = false := by simp; intro h; rw [h] at hn; simp at hn
      have d : (ks.toArray.size == 1) = false := by simp; omega
      simp only [Go.Lib.swapperK, hp, hb, c, d, Bool.false_and, Bool.false_eq_true, if_false]
    have hH : Go.Sort.Holds u32v w B 0 ks.toArray := by
      intro j hj
      have hj' : j < ks.length := by simpa using hj
      refine ⟨?_, ?_⟩
      · rw [Nat.zero_add, hB.cell j, List.getElem?_map, List.getElem?_eq_getElem hj', getElem!_pos ks.toArray j hj]
        simp
      · obtain ⟨T, fr, hb, hfr⟩ := hB
        obtain ⟨lo, hi⟩ := fr
        simp only [World.frozen?, hb, Nat.zero_add]
        simp only [List.length_map] at hfr
        simp only [Bool.and_eq_false_iff, decide_eq_false_iff_not]
        omega
    have hless : LessReads P (F tEach1) #[.pointer (some ⟨Bs, 0, none⟩)] u32v ltN B 0 ks.toArray.size w := by
      intro m os dk hs a b ha hb
      have hs' : dk.size = ks.length := by simpa using hs
      obtain ⟨q1, q2⟩ := sortWorld_ok (w := w) (B := B) (m := m) (dk := dk) (os := os) hB (by simpa using hs'.symm)
      have q3 := hBs.mod q1 (by simpa using hne)
      refine (each1_call hm hl (w := sortWorld u32v w B 0 m dk os) (B := B) (Bs := Bs) (n := ks.length) (G := fun t => dk[t]!) (q3.cell 0) (fun t ht => ?_) (i := a) (j := b) (by simpa using ha) (by simpa using hb)).mono fun en w' hh => ⟨hh.1, 1, hh.2⟩
      have := q2.cell t
      rw [List.getElem?_map] at this
      have ht' : t < dk.size := by omega
      rw [show (sortWorld u32v w B 0 m dk os).cell? ⟨B, t, none⟩ = _ from this, getElem!_pos dk t ht']
      simp [Array.getElem?_eq_getElem ht']
    have hS := Any.sort_Slice_sorted L (F tyU32s) e i ie hi hd hpk hie ke hke hs1 hagg u32v (fun _ => rfl) ltN swo_ltN (F tEach1) #[.pointer (some ⟨Bs, 0, none⟩)] eg B 0 ks.length ks.toArray (by simpa using hn) (by simp; omega) f6 (by rw [hK]; exact h6) gS hx w hless hH hB.lt
    have hsz : ks.toArray.size = ks.length := by simp
    rw [hsz] at hS
    refine hS.mono ?_
    rintro en w' ⟨rfl, d', n, os, ⟨p1, -, p3⟩, hso, rfl⟩
    have hd' : d'.size = ks.length := by simpa using p1
    obtain ⟨q1, q2⟩ := sortWorld_ok (w := w) (B := B) (m := n) (dk := d') (os := os) hB (by simpa using hd'.symm)
    refine ⟨rfl, d'.toList, ?_, ?_, q2, q1⟩
    · have x1 : d'.extract 0 ks.length = d' := by rw [← hd']; exact Array.extract_size
      have x2 : ks.toArray.extract 0 ks.length = ks.toArray := by rw [← hsz]; exact Array.extract_size
      rw [x1, x2] at p3
      exact p3
    · rw [List.pairwise_iff_getElem]
      intro a b ha hb hab
      have ha' : a < d'.size := by simpa using ha
      have hb' : b < d'.size := by simpa using hb
      have := hso a b (Nat.zero_le _) hab (by omega)
      rw [getElem!_pos d' a ha', getElem!_pos d' b hb'] at this
      simp only [ltN, decide_eq_false_iff_not] at this
      simp only [Array.getElem_toList]
      omega
  · have hks : ks.length = 0 ∨ ks.length = 1 := by omega
    have hfn : ∃ f, P.funcs.findIdx? (·.name == "internal/reflectlite" ++ ".Swapper$" ++ toString (Go.Lib.swapperK ks.length ie ke)) = some f := by
      rcases hks with h | h
      · rw [h]; exact ⟨f1, h1⟩
      · rw [h]; exact ⟨f2, h2⟩
    obtain ⟨f0, hf0⟩ := hfn
    refine (Any.sort_Slice_tiny L (F tyU32s) e i ie hi hd hpk hie ke hke (some ⟨B, 0, none⟩) ks.length ks.length (by omega) f0 hf0 (.func (F tEach1)) #[] #[.pointer (some ⟨Bs, 0, none⟩)] w).mono ?_
    rintro en w' ⟨rfl, os, rfl⟩
    have hm' : Mod [] w (Go.Sort.grow w os) := ⟨rfl, rfl, rfl, by show w.heap.size ≤ (w.heap ++ os).size; simp, fun k hk _ => by show (w.heap ++ os)[k]? = _; rw [Array.getElem?_append_left hk]⟩
    refine ⟨rfl, ks, .refl _, ?_, hB.mod hm' (by simp), hm'.nil⟩
    match ks, hks with
    | [], _ => exact .nil
    | [x], _ => simp

end
end Go.Msk
