/- A small language of resolved operations, and what the generic and the generated functions do in it (part 16). -/
import Derived.Test.YtcknmmkgmlkhaaaGreatDoorFo

namespace Go.Msk
open Go.RowKit
set_option maxRecDepth 100000
theorem TR.smallL_of {l : List TR} (h : ∀ t ∈ l, t.small) : TR.smallL l := by
  induction l with
  | nil => trivial
  | cons t l ih => exact ⟨h t List.mem_cons_self, ih fun x hx => h x (List.mem_cons_of_mem _ hx)⟩
def GV.sm (g : GV) : Prop := g.told.small ∧ ∀ m, g = .tag m → m.length ≤ 2147483647 ∧ ∀ p ∈ m, p.2.length ≤ 2147483647
def Df.smallB : Df → Bool
  | .str l => decide (l.length ≤ 1000)
  | _ => true
theorem Df.small {d : Df} (h : d.smallB = true) : d.gv.sm := by
  refine ⟨?_, fun m e => by cases d <;> simp [Df.gv] at e⟩
  cases d with
  | str l =>
    simp only [Df.smallB, decide_eq_true_eq] at h
    simp only [Df.gv, Msk.str, GV.told, TR.small, TR.smallL]
    simp; omega
  | _ => simp [Df.gv, GV.told, TR.small, TR.smallL]
def Sc.len : Sc → Nat
  | .nil => 0
  | .prm _ _ _ _ _ rest => rest.len + 1
  | .enm _ _ _ _ _ rest => rest.len + 1
  | .lsp _ _ _ _ _ _ _ rest => rest.len + 1
  | .lss _ _ _ _ _ _ rest => rest.len + 1
  | .sub _ _ _ rest => rest.len + 1
  | .tags _ => 1
  | .uid _ _ rest => rest.len + 1
def Sc.smallB : Sc → Bool
  | .nil => true
  | .prm _ _ _ _ d rest => d.smallB && rest.smallB
  | .enm _ _ _ _ d rest => d.smallB && rest.smallB
  | .lsp _ _ _ _ _ _ _ rest => rest.smallB
  | .lss _ _ _ _ _ body rest => decide (body.len ≤ 1000) && body.smallB && rest.smallB
  | .sub _ _ body rest => decide (body.len ≤ 1000) && body.smallB && rest.smallB
  | .tags _ => true
  | .uid _ _ rest => rest.smallB
theorem Sc.dgv_len : ∀ sc : Sc, sc.dgv.length = sc.len := by
  intro sc
  induction sc with
  | nil => rfl
  | _ => simp [Sc.dgv, Sc.len, *]
theorem arr_sm {l : List UInt8} (h : l.length ≤ 2147483647) : (GV.arr l).sm := by
  refine ⟨?_, fun m e => by simp at e⟩
  simp only [GV.told, TR.small, TR.smallL]
  simpa using h
theorem toldF_len (gs : List GV) : (GV.toldF gs).length ≤ gs.length := by
  induction gs with
  | nil => simp [GV.toldF]
  | cons g gs ih => cases g <;> simp only [GV.toldF, List.length_cons] <;> omega
theorem toldF_small {gs : List GV} (h : ∀ g ∈ gs, g.sm) : TR.smallL (GV.toldF gs) := by
  induction gs with
  | nil => simp [GV.toldF, TR.smallL]
  | cons g gs ih =>
    have h1 := (h g List.mem_cons_self).1
    have h2 := ih fun x hx => h x (List.mem_cons_of_mem _ hx)
    cases g with
    | tag m => simpa only [GV.toldF] using h2
    | _ => simp only [GV.toldF]; exact ⟨h1, h2⟩
theorem tagsF_small {gs : List GV} (h : ∀ g ∈ gs, g.sm) : (GV.tagsF gs).length ≤ 2147483647 ∧ ∀ p ∈ GV.tagsF gs, p.2.length ≤ 2147483647 := by
  induction gs with
  | nil => simp [GV.tagsF]
  | cons g gs ih =>
    have h2 := ih fun x hx => h x (List.mem_cons_of_mem _ hx)
    cases g with
    | tag m =>
      obtain ⟨k1, k2⟩ := (h _ List.mem_cons_self).2 m rfl
      have hp := sortT_perm m
      exact ⟨by rw [GV.tagsF, hp.length_eq]; exact k1, fun p hx => k2 p (hp.mem_iff.1 hx)⟩
    | _ => exact h2
theorem rcd_small {gs : List GV} (h1 : gs.length ≤ 1000) (h2 : ∀ g ∈ gs, g.sm) : (GV.rcd gs).sm := by
  refine ⟨?_, fun m e => by simp at e⟩
  simp only [GV.told, TR.small]
  have := toldF_len gs
  have k := tagsF_small h2
  exact ⟨by simp, by omega, k.1, k.2, toldF_small h2⟩
theorem Sc.dgv_small : ∀ sc : Sc, sc.smallB = true → ∀ g ∈ sc.dgv, g.sm := by
  intro sc
  have l0 : (GV.lst true 0 []).sm := ⟨by simp [GV.told, GV.toldL, TR.small, TR.smallL], fun m e => by simp at e⟩
  induction sc with
  | nil => intro _ g hg; simp [Sc.dgv] at hg
  | prm vc i r p d rest ih =>
    intro h g hg
    simp only [Sc.smallB, Bool.and_eq_true] at h
    rcases List.mem_cons.1 hg with rfl | hg
    · exact Df.small h.1
    · exact ih h.2 g hg
  | enm vc i r p d rest ih =>
    intro h g hg
    simp only [Sc.smallB, Bool.and_eq_true] at h
    rcases List.mem_cons.1 hg with rfl | hg
    · exact Df.small h.1
    · exact ih h.2 g hg
  | lsp vc l b d i r p rest ih =>
    intro h g hg
    rcases List.mem_cons.1 hg with rfl | hg
    · exact l0
    · exact ih h g hg
  | lss vc l b z d body rest ihb ih =>
    intro h g hg
    simp only [Sc.smallB, Bool.and_eq_true] at h
    rcases List.mem_cons.1 hg with rfl | hg
    · exact l0
    · exact ih h.2 g hg
  | sub vc d body rest ihb ih =>
    intro h g hg
    simp only [Sc.smallB, Bool.and_eq_true, decide_eq_true_eq] at h
    rcases List.mem_cons.1 hg with rfl | hg
    · exact rcd_small (by rw [Sc.dgv_len]; exact h.1.1) (ihb h.1.2)
    · exact ih h.2 g hg
  | uid vc f rest ih =>
    intro h g hg
    rcases List.mem_cons.1 hg with rfl | hg
    · exact arr_sm (by simp)
    · exact ih h g hg
  | tags f =>
    intro h g hg
    simp only [Sc.dgv, List.mem_singleton] at hg
    subst hg
    exact ⟨by simp [GV.told, TR.small, TR.smallL, TR.zero], fun m e => by simp only [GV.tag.injEq] at e; subst e; simp⟩
theorem lst_small {b : Bool} {z : Nat} {l : List GV} (h1 : l.length ≤ 2147483647) (h2 : ∀ g ∈ l, g.sm) : (GV.lst b z l).sm := by
  refine ⟨?_, fun m e => by simp at e⟩
  simp only [GV.told, TR.small]
  refine ⟨by simp, by rw [GV.toldL_map]; simp; omega, by simp, by simp, TR.smallL_of fun t ht => ?_⟩
  rw [GV.toldL_map] at ht
  obtain ⟨g, hg, rfl⟩ := List.mem_map.1 ht
  exact (h2 g hg).1
theorem num_sm {v : Value} (h : ∀ s, v ≠ .string s) : (GV.num v).sm := by
  refine ⟨?_, fun m e => by simp at e⟩
  cases v <;> first | exact absurd rfl (h _) | simp [GV.told, TR.small, TR.smallL, TR.zero]
theorem str_sm {l : List UInt8} (h : l.length ≤ 2147483647) : (GV.num (Msk.str l)).sm := by
  refine ⟨?_, fun m e => by simp at e⟩
  simp only [Msk.str, GV.told, TR.small, TR.smallL]
  simpa using h
theorem i64_wrap_wrap (n : Int) : IntKind.i64.wrap (IntKind.i64.wrap n) = IntKind.i64.wrap n := by
  simp only [IntKind.wrap, IntKind.bits, IntKind.signed]
  simp
  omega
end Go.Msk

namespace Go.Msk
open Go.RowKit
set_option maxRecDepth 100000
structure LibI (P : Program) (F : Nat → Nat) (has : Nat → Bool) : Prop where
  iBoolTree : has Msk.iBoolTree = true → liftF P (F Msk.iBoolTree) = some (ir_iBoolTree F)
  iTextTree : has Msk.iTextTree = true → liftF P (F Msk.iTextTree) = some (ir_iTextTree F)
  iOctetsTree : has Msk.iOctetsTree = true → liftF P (F Msk.iOctetsTree) = some (ir_iOctetsTree F)
  tEach : has Msk.tEach = true → liftF P (F Msk.tEach) = some (ir_tEach F)
  iSorted : has Msk.iSorted = true → liftF P (F Msk.iSorted) = some (ir_iSorted F)
  sort : has Msk.tEach = true → SortC P (F sortSlice) (F tEach1) (F tyU32s)
section
variable {P : Program} {F : Nat → Nat}
theorem boolTree_ok (hm : P.follows .mixedOrders = true) (h : liftF P (F iBoolTree) = some (ir_iBoolTree F)) : (TK.boo (F iBoolTree)).Ok P := by
  intro O w g v hg hr
  obtain ⟨b, rfl⟩ := hg
  have hv : v = .bool b := by cases hr; rfl
  subst hv
  refine call_of h hm (by simp) ?_
  rw [wpC_seq, wpC_blk]
  refine wpR_run ?_
  intro T
  have hb2 : Blk (w.alloc (.cells tzero.toArray T)) w.heap.size tzero := Blk.new w tzero T
  have hm1 : Mod [] w (w.alloc (.cells tzero.toArray T)) := Mod.alloc _ _ _
  have hz : ([Value.int .i64 0, .slice none 0 0, .bool false, .slice none 0 0, .slice none 0 0] : List Value) = tzero := rfl
  rw [hz]
  have hsz : (w.alloc (.cells tzero.toArray T)).heap.size = w.heap.size + 1 := by simp
  generalize w.alloc (.cells tzero.toArray T) = w1 at hb2 hm1 hsz ⊢
  have a0 : args0 [Value.bool b] 0 = .bool b := rfl
  generalize args0 [Value.bool b] = σ0 at a0 ⊢
  show wpC P (.seq (.seq _ _) _) _ _ _
  rw [wpC_seq, wpC_seq, wpC_blk]
  refine wpR_step (v := .bool b) (by simp [RK.val?, ev, updo, upd, a0]) ?_
  refine wpR_done ?_
  cases b with
  | true =>
    rw [wpC_cond_t rfl, wpC_seq, wpC_blk]
    refine wpR_step (v := .agg [.int .i64 1, .slice none 0 0, .bool false, .slice none 0 0, .slice none 0 0].toArray) (by simp [RK.val?, ev, fillL, tzero, splice, Value.cells]) ?_
    exact treeRet (by simp [updo, upd]) hb2 (by simp [updo, upd]) (RepT.num 1 false) hm1.nil (Nat.le_refl _)
  | false =>
    rw [wpC_cond_f rfl, wpC_skip]
    simp only [thenC]
    rw [wpC_seq, wpC_blk]
    refine wpR_step (v := .agg [.int .i64 0, .slice none 0 0, .bool false, .slice none 0 0, .slice none 0 0].toArray) (by simp [RK.val?, ev, fillL, tzero]) ?_
    exact treeRet (by simp [updo, upd]) hb2 (by simp [updo, upd]) (RepT.num 0 false) hm1.nil (Nat.le_refl _)
def TK.okB (F : Nat → Nat) (has : Nat → Bool) : TK → Bool
  | .num _ => true
  | .str => true
  | .boo f => f == F iBoolTree && has iBoolTree
  | .txt f => f == F iTextTree && has iTextTree
  | .oct f => f == F iOctetsTree && has iOctetsTree
theorem TK.ok_of {has : Nat → Bool} (hm : P.follows .mixedOrders = true) (L : LibI P F has) {k : TK} (h : k.okB F has = true) : k.Ok P := by
  cases k with
  | num c => trivial
  | str => trivial
  | boo f => simp only [TK.okB, Bool.and_eq_true, beq_iff_eq] at h; rw [h.1]; exact boolTree_ok hm (L.iBoolTree h.2)
  | txt f => simp only [TK.okB, Bool.and_eq_true, beq_iff_eq] at h; rw [h.1]; exact textTree_ok hm (L.iTextTree h.2)
  | oct f => simp only [TK.okB, Bool.and_eq_true, beq_iff_eq] at h; rw [h.1]; exact octetsTree_ok hm (L.iOctetsTree h.2)
def Tl.cells : Tl → Nat
  | .nil => 0
  | .fld _ rest => 1 + rest.cells
  | .lst _ _ _ rest => 1 + rest.cells
  | .uid rest => 16 + rest.cells
  | .sub _ n _ rest => n + rest.cells
  | .tags .. => 1
def Tl.okB (F : Nat → Nat) (has : Nat → Bool) : Tl → Bool
  | .nil => true
  | .fld k rest => k.okB F has && rest.okB F has
  | .lst k _ body rest => (match k with | .tell _ => decide (0 < body.cells) && decide (body.len ≤ 1000) | _ => true) && body.okB F has && rest.okB F has
  | .uid rest => rest.okB F has
  | .sub _ n body rest => decide (0 < body.cells) && decide (body.len ≤ 1000) && decide (body.cells = n) && body.okB F has && rest.okB F has
  | .tags _ b c => b == F tEach && c == F iSorted && has tEach && has iSorted
def Tl.subs : Tl → List (FuncId × Tl)
  | .nil => []
  | .fld _ rest => rest.subs
  | .lst k _ body rest => (match k with | .tell f => [(f, body)] | _ => []) ++ (body.subs ++ rest.subs)
  | .uid rest => rest.subs
  | .sub f _ body rest => (f, body) :: (body.subs ++ rest.subs)
  | .tags .. => []
def Tl.cbs : Tl → List FuncId
  | .nil => []
  | .fld _ rest => rest.cbs
  | .lst _ _ body rest => body.cbs ++ rest.cbs
  | .uid rest => rest.cbs
  | .sub _ _ body rest => body.cbs ++ rest.cbs
  | .tags a _ _ => [a]
def SubsOk (P : Program) : List (FuncId × Tl) → Prop
  | [] => True
  | p :: l => liftF P p.1 = some (p.2.code 0) ∧ SubsOk P l
def CbsOk (P : Program) : List FuncId → Prop
  | [] => True
  | a :: l => (liftF P a = some cbCode ∧ hasBody P a = true) ∧ CbsOk P l
theorem SubsOk.append {l l' : List (FuncId × Tl)} (h : SubsOk P (l ++ l')) : SubsOk P l ∧ SubsOk P l' := by
  induction l with
  | nil => exact ⟨trivial, h⟩
  | cons p l ih => exact ⟨⟨h.1, (ih h.2).1⟩, (ih h.2).2⟩
theorem CbsOk.append {l l' : List FuncId} (h : CbsOk P (l ++ l')) : CbsOk P l ∧ CbsOk P l' := by
  induction l with
  | nil => exact ⟨trivial, h⟩
  | cons p l ih => exact ⟨⟨h.1, (ih h.2).1⟩, (ih h.2).2⟩
theorem Tl.cells_len {has : Nat → Bool} : ∀ (tl : Tl) (O : List Nat) (w : World) (gs : List GV) (css : List (List Value)), tl.okB F has = true → tl.ty gs → RepL O w gs css → css.flatten.length = tl.cells := by
  intro tl
  induction tl with
  | nil => intro O w gs css _ hT hr; simp only [Tl.ty] at hT; subst hT; cases hr; rfl
  | fld k rest ih =>
    intro O w gs css h hT hr
    simp only [Tl.okB, Bool.and_eq_true] at h
    obtain ⟨g, l, rfl, hg, hT⟩ := hT
    cases hr with
    | cons h1 h2 => simp only [List.flatten_cons, List.length_append, Tl.cells, TK.one hg h1, ih _ _ _ _ h.2 hT h2]
  | lst k esz body rest _ ih =>
    intro O w gs css h hT hr
    simp only [Tl.okB, Bool.and_eq_true] at h
    obtain ⟨isnil, sz, x, l, rfl, -, -, -, hT⟩ := hT
    cases hr with
    | @cons _ _ cs css h1 h2 =>
      have : cs.length = 1 := by cases h1 <;> rfl
      simp only [List.flatten_cons, List.length_append, Tl.cells, this, ih _ _ _ _ h.2 hT h2]
  | uid rest ih =>
    intro O w gs css h hT hr
    obtain ⟨x, l, rfl, hx, hT⟩ := hT
    cases hr with
    | @cons _ _ cs css h1 h2 =>
      have : cs.length = 16 := by cases h1; rw [u8s_length, hx]
      simp only [List.flatten_cons, List.length_append, Tl.cells, this, ih _ _ _ _ h hT h2]
  | sub f n body rest ihb ih =>
    intro O w gs css h hT hr
    simp only [Tl.okB, Bool.and_eq_true, decide_eq_true_eq] at h
    obtain ⟨x, l, rfl, hx, hT, -⟩ := hT
    cases hr with
    | @cons _ _ cs css h1 h2 =>
      have : cs.length = n := by cases h1 with | rcd h1 => rw [← h.1.1.2]; exact ihb _ _ _ _ h.1.2 hx h1
      simp only [List.flatten_cons, List.length_append, Tl.cells, this, ih _ _ _ _ h.2 hT h2]
  | tags a b c =>
    intro O w gs css h hT hr
    obtain ⟨m, rfl, -⟩ := hT
    cases hr with
    | @cons _ _ cs css h1 h2 =>
      cases h2
      have : cs.length = 1 := by cases h1 <;> rfl
      simp [this, Tl.cells]
theorem Tl.tellS {has : Nat → Bool} (hm : P.follows .mixedOrders = true) {tl : Tl} {f : FuncId} (hb : tl.okB F has = true) (hO : tl.Ok P) (hpos : 0 < tl.cells) (hlen : tl.len ≤ 1000) (h : liftF P f = some (tl.code 0)) : TellS P f tl.ty := by
  intro O w B base gs css hT hr hc
  have hl := Tl.cells_len tl O w gs css hb hT hr
  have hcell : ∃ v, css.flatten[0]? = some v := ⟨css.flatten[0], List.getElem?_eq_getElem (by omega)⟩
  obtain ⟨v, hv⟩ := hcell
  have := hc.2 0 v hv
  have hlt := World.block_lt_of_cell? w _ this
  exact Tl.call hm h hO hlen O w B base gs css hT hr hlt hc
theorem Tl.ok_of {has : Nat → Bool} (hm : P.follows .mixedOrders = true) (L : LibI P F has) : ∀ tl : Tl, tl.okB F has = true → SubsOk P tl.subs → CbsOk P tl.cbs → tl.Ok P := by
  intro tl
  induction tl with
  | nil => intro _ _ _; trivial
  | fld k rest ih =>
    intro h hs hc
    simp only [Tl.okB, Bool.and_eq_true] at h
    exact ⟨TK.ok_of hm L h.1, ih h.2 hs hc⟩
  | lst k esz body rest ihb ih =>
    intro h hs hc
    simp only [Tl.okB, Bool.and_eq_true] at h
    obtain ⟨s1, s2⟩ := SubsOk.append hs
    obtain ⟨s3, s4⟩ := SubsOk.append s2
    obtain ⟨c1, c2⟩ := CbsOk.append hc
    refine ⟨?_, ih h.2 s4 c2⟩
    cases k with
    | num c => trivial
    | str => trivial
    | tell f =>
      simp only [Bool.and_eq_true, decide_eq_true_eq] at h
      exact Tl.tellS hm h.1.2 (ihb h.1.2 s3 c1) h.1.1.1 h.1.1.2 s1.1
  | uid rest ih => intro h hs hc; exact ih h hs hc
  | sub f n body rest ihb ih =>
    intro h hs hc
    simp only [Tl.okB, Bool.and_eq_true, decide_eq_true_eq] at h
    obtain ⟨s3, s4⟩ := SubsOk.append hs.2
    obtain ⟨c1, c2⟩ := CbsOk.append hc
    exact ⟨Tl.tellS hm h.1.2 (ihb h.1.2 s3 c1) h.1.1.1.1 h.1.1.1.2 hs.1, ih h.2 s4 c2, fun O w gs css hT hr => by rw [← h.1.1.2]; exact Tl.cells_len body O w gs css h.1.2 hT hr⟩
  | tags a b c =>
    intro h _ hc
    simp only [Tl.okB, Bool.and_eq_true, beq_iff_eq] at h
    obtain ⟨⟨⟨rfl, rfl⟩, h3⟩, h4⟩ := h
    exact ⟨hm, hc.1.1, hc.1.2, fun hcb hb _ _ _ hce hM h1 h2 h5 h6 h7 h8 h9 => tEach_call hm (L.tEach h3) (L.sort h3) hcb hb hce hM h1 h2 h5 h6 h7 h8 h9, fun hp hs hl => iSorted_call hm (L.iSorted h4) hp hs hl⟩
end
end Go.Msk

namespace Go.Msk
open Go.RowKit
set_option maxRecDepth 100000
def defCode (newp setv rf df tell : FuncId) : IC × List RV × Nat :=
  (.seq (.blk [⟨some 4, .alloc tzero, none⟩, ⟨some 5, .mv (.const (.bool false)), none⟩]) (.seq (.blk [⟨some 7, .call newp [], none⟩, ⟨some 6, .mv (.tmp 7), none⟩])
    (.seq (.blk [⟨some 8, .mv (.tmp 6), none⟩, ⟨some 9, .mv (.tmp 0), none⟩, ⟨some 10, .conv .i16 (.tmp 9), none⟩, ⟨some 11, .call setv [.tmp 8, .tmp 10], none⟩])
    (.seq (.seq (.blk [⟨some 12, .mv (.tmp 6), none⟩, ⟨some 13, .mv (.tmp 1), none⟩, ⟨some 14, .append (.const (.slice none 0 0)) (.tmp 13) 1 1, none⟩, ⟨some 15, .call rf [.tmp 12, .tmp 14], none⟩, ⟨some 16, .isnil .ic true (.tmp 15), none⟩])
      (.cond (.tmp 16) (.seq (.blk [⟨some 17, .build tzero [], none⟩, ⟨none, .st (.tmp 4) 5 (.tmp 17), none⟩, ⟨some 5, .mv (.const (.bool false)), none⟩]) .ret) .skip))
    (.seq (.blk [⟨some 18, .mv (.tmp 6), none⟩, ⟨some 19, .call df [.tmp 18], none⟩])
    (.seq (.blk [⟨some 20, .mv (.tmp 6), none⟩, ⟨some 21, .call tell [.tmp 20], none⟩, ⟨none, .st (.tmp 4) 5 (.tmp 21), none⟩, ⟨some 5, .mv (.const (.bool true)), none⟩]) .ret))))),
   [.cells 4 5, .tmp 5], 22)
section
variable {P : Program}
attribute [local simp] gOk updo upd ev RK.val? isShift intBin Addr.add_mk args0 Value.cells undef
theorem retT {σ : Sl} {w : World} {b : Nat} {cs : List Value} {r : Bool} {R : Ending → World → Prop} (h4 : σ 4 = .pointer (some ⟨b, 0, none⟩)) (h5 : σ 5 = .bool r) (hb : Blk w b cs) (hl : cs.length = 5) (h : R (.returned (.tuple #[.agg cs.toArray, .bool r])) w) :
    wpC P .ret (postC [.cells 4 5, .tmp 5] R) σ w := by
  simp only [wpC, postC, rvals, List.mapM_cons, List.mapM_nil, RV.val, h4, h5, cellsAt_of' hb.cells hl, Option.bind_eq_bind, Option.map_some, Option.bind_some, Option.pure_def, tup]
  exact h
def DoorR (w : World) (t : TR) : Ending → World → Prop := fun e w' => ∃ cs, e = .returned (.tuple #[.agg cs.toArray, .bool true]) ∧ RepT (fun b => w.heap.size ≤ b) w' t cs ∧ Mod [] w w'
theorem def_call {T : Top} {D : Dec} {g : Nat} (hm : P.follows .mixedOrders = true) {f newp setv rf rd df tell : FuncId} {z : List Value} {ls : List (Nat × Value)} {tl : Tl} (h : liftF P f = some (defCode newp setv rf df tell)) (hn : liftF P newp = some (newCode z T.dfl))
    (hz : DfC P T.dfl z (.int .i16 0 :: T.sc.dcs.flatten)) (hs : liftF P setv = some setCode) (hr : liftF P rf = some (rfCode rd false)) (hrd : liftF P rd = some T.gen) (hT : T.Ok P D g false) (hd : liftF P df = some (dfGen ls)) (hok : dfOk ls (T.sc.dcs.flatten.length + 1)) (htl : TellAt P tell 1 tl.ty)
    {w : World} {ver : Int} {sv : Value} {src : List UInt8} {ok : Nat → Prop} {Te : TypeId} {ve : Value} {gs gs' : List GV} {s' : RS} (hdec : T.dec D ver (⟨src, false, false⟩) = some ((ver, gs), s')) (hbad : s'.bad = false)
    (hset : ∀ (w' : World) (b : Nat) (css : List (List Value)), RepL [b] w' gs css → ∃ css', dfRes ls (.int .i16 ver :: css.flatten) = .int .i16 ver :: css'.flatten ∧ RepL [b] w' gs' css') (hty : tl.ty gs')
    (hsv : SlC ok w sv src.length (u8s src)) (hpos : 0 < src.length) (hl : src.length ≤ lim) (hver : IntKind.i16.wrap ver = ver) (hg : GErr g w Te ve) :
    Calls P f [.int .i64 ver, sv].toArray w (DoorR w (GV.rcd gs').told) := by
  unfold defCode at h
  refine call_of h hm (by simp) ?_
  clear h
  have hgl : g < w.heap.size := World.block_lt_of_cell? w ⟨g, 0, none⟩ hg
  rw [wpC_seq, wpC_blk]
  refine goAlloc fun w1 hb1 hm1 => ?_
  refine go1 (v := .bool false) rfl (by simp) (goEnd ?_)
  simp only [thenC]
  rw [wpC_seq, wpC_blk]
  refine goCall rfl (vs := []) rfl (new_call hm hn hz) ?_
  rintro e w2 ⟨rfl, hb2, hm2⟩
  have hs1 := hb1.lt
  have hne : w.heap.size ≠ w1.heap.size := by omega
  have hm02 : Mod [] w w2 := hm1.trans hm2
  refine ⟨_, rfl, go1 (v := .pointer (some ⟨w1.heap.size, 0, none⟩)) rfl (by simp) (goEnd ?_)⟩
  simp only [thenC]
  rw [wpC_seq, wpC_blk]
  refine go1 (v := .pointer (some ⟨w1.heap.size, 0, none⟩)) rfl (by simp) ?_
  refine go1 (v := .int .i64 ver) rfl (by simp) ?_
  refine go1 (v := .int .i16 ver) rfl (by simp [hver]) ?_
  refine goCall rfl (vs := [.pointer (some ⟨w1.heap.size, 0, none⟩), .int .i16 ver]) (by simp) (set_call hm hs hb2) ?_
  rintro e w3 ⟨rfl, hb3, hm3⟩
  refine ⟨_, rfl, goEnd ?_⟩
  simp only [thenC]
  have hm13 : Mod [] w1 w3 := Mod.drop (b := w1.heap.size) (S := []) (hm2.nil.trans hm3) (Nat.le_refl _)
  have hm03 : Mod [] w w3 := hm1.trans hm13
  rw [wpC_seq, wpC_seq, wpC_blk]
  refine go1 (v := .pointer (some ⟨w1.heap.size, 0, none⟩)) rfl (by simp) ?_
  refine go1 (v := sv) rfl (by simp) ?_
  refine goCopy (v := sv) (l := src) (ok := ok) (by simp) (hsv.mod hm03 (by simp) fun _ _ h => h) hl fun v4 w4 hd4 hm4 => ?_
  obtain ⟨Bs, cap, rest, rfl, hcap, hlow, hblk, hrest⟩ : ∃ B cap rest, v4 = .slice (some ⟨B, 0, none⟩) src.length cap ∧ src.length ≤ cap ∧ w3.heap.size ≤ B ∧ Blk w4 B (u8s src ++ rest) ∧ rest.length = cap - src.length := by
    rcases hd4.sl with ⟨-, h⟩ | h
    · rw [h] at hpos; simp at hpos
    · exact h
  have hby : IsBytes w4 (some ⟨Bs, 0, none⟩) src.length cap src := by
    refine ⟨rfl, hcap, by simp, fun a ha => ?_⟩
    simp only [Option.some.injEq] at ha; subst ha
    have := hblk.cells.take (u8s src).length
    rwa [List.take_left] at this
  have hbl := hb3.lt
  have hm04 : Mod [] w w4 := hm03.trans hm4
  refine goCall rfl (vs := [.pointer (some ⟨w1.heap.size, 0, none⟩), .slice (some ⟨Bs, 0, none⟩) src.length cap]) (by simp) (rf_call hm hr (R := fun e w' => ∃ css, e = .returned .nilIface ∧ RepL [w1.heap.size] w' gs css ∧ css.flatten.length = T.sc.dcs.flatten.length ∧ Blk w' w1.heap.size (.int .i16 ver :: css.flatten) ∧ Mod [w1.heap.size] w4 w') (fun e w' ⟨_, he, _⟩ => ⟨_, he⟩) ?_) ?_
  · refine (Top.read_call hm hrd hT (hb3.mod hm4 (by simp)) hby (fun a ha => ?_) (by unfold lim at hl; omega) (cell_mod hg hm04 (by simp)) (by omega)).mono ?_
    · simp only [Option.some.injEq] at ha; subst ha
      exact ⟨by show Bs ≠ _; omega, hblk.lt⟩
    · rintro e w' ⟨q1, q2⟩
      simp only [Option.isNone_some, hdec] at q2
      obtain ⟨rfl, css, q3, q4, q5⟩ := q2
      exact ⟨css, by rw [hbad]; rfl, q3, q4, q5, q1⟩
  rintro e w5 ⟨css, rfl, hrep, hcl, hb5, hm5⟩
  refine ⟨_, rfl, ?_⟩
  refine go1 (v := .bool false) rfl (by simp) (goEnd ?_)
  simp only [thenC]
  rw [wpC_cond_f (by simp), wpC_skip]
  simp only [thenC]
  rw [wpC_seq, wpC_blk]
  refine go1 (v := .pointer (some ⟨w1.heap.size, 0, none⟩)) rfl (by simp) ?_
  obtain ⟨css', he', hrep'⟩ := hset w5 _ css hrep
  have hdf : DfC P df (.int .i16 ver :: css.flatten) (.int .i16 ver :: css'.flatten) := df_call hm hd (by simpa [hcl] using hok) he'
  refine goCall rfl (vs := [.pointer (some ⟨w1.heap.size, 0, none⟩)]) (by simp) (hdf w5 w1.heap.size [] [] (by simpa using hb5)) ?_
  rintro e w6 ⟨rfl, hb6, hm6⟩
  refine ⟨_, rfl, goEnd ?_⟩
  simp only [thenC]
  have hb6 : Blk w6 w1.heap.size (.int .i16 ver :: css'.flatten) := by simpa using hb6
  have hrep6 := hrep'.mod hm6 (fun _ h => h)
  rw [wpC_seq, wpC_blk]
  refine go1 (v := .pointer (some ⟨w1.heap.size, 0, none⟩)) rfl (by simp) ?_
  have hcells : Cells w6 ⟨w1.heap.size, 0 + 1, none⟩ css'.flatten := by
    have := hb6.cells.sub 1
    simpa using this
  refine goCall rfl (vs := [.pointer (some ⟨w1.heap.size, 0, none⟩)]) (by simp) (htl [w1.heap.size] w6 w1.heap.size 0 gs' css' hty hrep6 hb6.lt hcells) ?_
  rintro e w7 ⟨cs, rfl, hrt, hm7⟩
  refine ⟨_, rfl, ?_⟩
  have hm16 : Mod [] w1 w6 := Mod.drop (b := w1.heap.size) (S := []) ((hm13.trans hm4).nil.trans (hm5.trans hm6)) (Nat.le_refl _)
  have hm17 : Mod [] w1 w7 := hm16.trans hm7
  have hb17 : Blk w7 w.heap.size tzero := hb1.mod hm17 (by simp)
  refine goSt (b := w.heap.size) (v := .agg cs.toArray) (by simp) (by simp) hb17 (by simpa using hrt.five) rfl (by simpa using hrt.oneCell) fun w8 hb8 hm8 => ?_
  refine go1 (v := .bool true) rfl (by simp) (goEnd ?_)
  simp only [thenC]
  have hb8 : Blk w8 w.heap.size cs := by simpa using hb8
  have hs16 := hm16.size
  refine retT (b := w.heap.size) (cs := cs) (by simp) (by simp) hb8 hrt.five ⟨cs, rfl, ?_, ?_⟩
  · exact hrt.mod hm8 (by simp only [List.mem_singleton]; rintro b rfl; omega) fun b _ hb => by omega
  · exact Mod.drop (b := w.heap.size) (S := []) (hm1.nil.trans (hm17.nil.trans hm8)) (Nat.le_refl _)
end
end Go.Msk

namespace Go.Msk
open Go.RowKit
set_option maxRecDepth 100000
def numCode : IC × List RV × Nat :=
  (.seq (.blk [⟨some 4, .mv (.const (.int .i64 0)), none⟩])
  (.seq (.seq (.blk [⟨some 5, .mv (.tmp 0), none⟩])
    (.block 0 (.seq (.blk [⟨some 7, .bin .eql (.tmp 5) (.const (.int .i64 0)), none⟩, ⟨some 6, .mv (.tmp 7), none⟩])
      (.cond (.tmp 6) (.seq (.blk [⟨some 8, .mv (.tmp 1), none⟩, ⟨some 9, .bin .and (.tmp 8) (.const (.int .i64 1)), none⟩, ⟨some 4, .mv (.tmp 9), none⟩]) .ret)
        (.seq (.blk [⟨some 11, .bin .eql (.tmp 5) (.const (.int .i64 1)), none⟩, ⟨some 10, .mv (.tmp 11), none⟩])
        (.cond (.tmp 10) (.seq (.blk [⟨some 12, .mv (.tmp 1), none⟩, ⟨some 13, .conv .i8 (.tmp 12), none⟩, ⟨some 14, .conv .i64 (.tmp 13), none⟩, ⟨some 4, .mv (.tmp 14), none⟩]) .ret)
          (.seq (.blk [⟨some 16, .bin .eql (.tmp 5) (.const (.int .i64 2)), none⟩, ⟨some 15, .mv (.tmp 16), none⟩])
          (.cond (.tmp 15) (.seq (.blk [⟨some 17, .mv (.tmp 1), none⟩, ⟨some 18, .conv .i16 (.tmp 17), none⟩, ⟨some 19, .conv .i64 (.tmp 18), none⟩, ⟨some 4, .mv (.tmp 19), none⟩]) .ret)
            (.seq (.blk [⟨some 21, .bin .eql (.tmp 5) (.const (.int .i64 3)), none⟩, ⟨some 20, .mv (.tmp 21), none⟩])
            (.cond (.tmp 20) (.seq (.blk [⟨some 22, .mv (.tmp 1), none⟩, ⟨some 23, .conv .i32 (.tmp 22), none⟩, ⟨some 24, .conv .i64 (.tmp 23), none⟩, ⟨some 4, .mv (.tmp 24), none⟩]) .ret)
              (.seq (.blk [⟨some 26, .bin .eql (.tmp 5) (.const (.int .i64 5)), none⟩, ⟨some 25, .mv (.tmp 26), none⟩])
              (.cond (.tmp 25) (.seq (.blk [⟨some 27, .mv (.tmp 1), none⟩, ⟨some 28, .conv .u16 (.tmp 27), none⟩, ⟨some 29, .conv .i64 (.tmp 28), none⟩, ⟨some 4, .mv (.tmp 29), none⟩]) .ret)
                .skip))))))))))))
  (.seq (.blk [⟨some 30, .mv (.tmp 1), none⟩, ⟨some 4, .mv (.tmp 30), none⟩]) .ret)), [.tmp 4], 31)
def numberP (k n : Int) : Int :=
  if k = 0 then n % 2 else if k = 1 then IntKind.i8.wrap n else if k = 2 then IntKind.i16.wrap n else if k = 3 then IntKind.i32.wrap n else if k = 5 then n % 65536 else n
def defaultsCode (at_ number : FuncId) : IC × List RV × Nat :=
  (.seq (.blk [⟨some 3, .box (.tmp 1), none⟩, ⟨some 4, .mv (.const (.bool false)), none⟩])
  (.seq (.seq (.blk [⟨some 7, .mv (.tmp 0), none⟩, ⟨some 8, .len (.tmp 7), none⟩, ⟨some 9, .mv (.const (.int .i64 0)), none⟩])
    (.block 0 (.loop (.seq (.blk [⟨some 10, .bin .lss (.tmp 9) (.tmp 8), none⟩])
        (.seq (.cond (.tmp 10) .skip (.exit 0))
        (.seq (.block 1 (.seq (.blk [⟨some 11, .mv (.tmp 9), none⟩, ⟨some 12, .iad (.tmp 7) (.tmp 9) 8, none⟩, ⟨some 13, .ldn (.tmp 12) 8, none⟩, ⟨some 6, .alloc fzero, none⟩, ⟨some 5, .mv (.tmp 11), none⟩, ⟨none, .st (.tmp 6) 8 (.tmp 13), none⟩])
            (.seq (.drw [⟨⟨some 14, .fad (.tmp 6) 5, none⟩, false, []⟩, ⟨⟨some 15, .ld (.tmp 14), none⟩, false, []⟩, ⟨⟨some 16, .bin .neq (.tmp 15) (.const (.int .i64 0)), none⟩, false, []⟩, ⟨⟨some 17, .mv (.tmp 16), none⟩, false, []⟩,
                ⟨⟨some 18, .ldn (.tmp 3) 5, some (17, true)⟩, false, []⟩, ⟨⟨some 19, .mv (.tmp 5), some (17, true)⟩, false, []⟩, ⟨⟨some 20, .call at_ [.tmp 18, .tmp 19], some (17, true)⟩, true, []⟩, ⟨⟨some 21, .fld (.tmp 20) 0 none, some (17, true)⟩, false, [6]⟩,
                ⟨⟨some 22, .fad (.tmp 6) 0, some (17, true)⟩, false, []⟩, ⟨⟨some 23, .ld (.tmp 22), some (17, true)⟩, false, []⟩, ⟨⟨some 24, .fad (.tmp 6) 5, some (17, true)⟩, false, []⟩, ⟨⟨some 25, .ld (.tmp 24), some (17, true)⟩, false, []⟩,
                ⟨⟨some 26, .call number [.tmp 23, .tmp 25], some (17, true)⟩, true, [6]⟩, ⟨⟨some 27, .bin .neq (.tmp 21) (.tmp 26), some (17, true)⟩, false, [6, 12]⟩, ⟨⟨some 28, .pick (.tmp 17) (.tmp 27) (.const (.bool false)), none⟩, false, [6, 12]⟩] [])
            (.cond (.tmp 28) (.seq (.blk [⟨some 4, .mv (.const (.bool false)), none⟩]) .ret) .skip))))
        (.blk [⟨some 29, .bin .add (.tmp 9) (.const (.int .i64 1)), none⟩, ⟨some 9, .mv (.tmp 29), none⟩])))))))
  (.seq (.blk [⟨some 4, .mv (.const (.bool true)), none⟩]) .ret)), [.tmp 4], 30)
section
variable {P : Program} {F : Nat → Nat}
attribute [local simp] gOk updo upd ev RK.val? isShift intBin Addr.add_mk args0 Value.cells undef
theorem wrap64_i8 (n : Int) : IntKind.i64.wrap (IntKind.i8.wrap n) = IntKind.i8.wrap n := by
  simp only [IntKind.wrap, IntKind.bits, IntKind.signed]; simp; repeat' split
  all_goals omega
theorem wrap64_i16 (n : Int) : IntKind.i64.wrap (IntKind.i16.wrap n) = IntKind.i16.wrap n := by
  simp only [IntKind.wrap, IntKind.bits, IntKind.signed]; simp; repeat' split
  all_goals omega
theorem wrap64_i32 (n : Int) : IntKind.i64.wrap (IntKind.i32.wrap n) = IntKind.i32.wrap n := by
  simp only [IntKind.wrap, IntKind.bits, IntKind.signed]; simp; repeat' split
  all_goals omega
theorem wrap64_u16 (n : Int) : IntKind.i64.wrap (IntKind.u16.wrap n) = n % 65536 := by
  simp only [IntKind.wrap, IntKind.bits, IntKind.signed]; simp; repeat' split
  all_goals omega
theorem number_call (hm : P.follows .mixedOrders = true) {f : FuncId} (h : liftF P f = some numCode) {w : World} {k n : Int} : Calls P f [.int .i64 k, .int .i64 n].toArray w fun e w' => e = .returned (.int .i64 (numberP k n)) ∧ w' = w := by
  unfold numCode at h
  refine call_of h hm (by simp) ?_
  clear h
  rw [wpC_seq, wpC_blk]
  refine go1 (v := .int .i64 0) rfl (by simp) (goEnd ?_)
  simp only [thenC]
  rw [wpC_seq, wpC_seq, wpC_blk]
  refine go1 (v := .int .i64 k) rfl (by simp) (goEnd ?_)
  simp only [thenC]
  rw [wpC_block, wpC_seq, wpC_blk]
  refine go1 (v := .bool (k == 0)) rfl (by simp) ?_
  refine go1 (v := .bool (k == 0)) rfl (by simp) (goEnd ?_)
  simp only [thenC]
  by_cases h0 : k = 0
  · rw [wpC_cond_t (by simp [h0]), wpC_seq, wpC_blk]
    refine go1 (v := .int .i64 n) rfl (by simp) ?_
    refine go1 (v := .int .i64 (n % 2)) rfl (by simp only [RK.val?, ev, updo, upd, if_true, isShift, decide_true, Bool.or_true, and1_i64]) ?_
    refine go1 (v := .int .i64 (n % 2)) rfl (by simp) (goEnd ?_)
    simp only [thenC]
    repeat first | refine retThen ?_ | refine retBlk ?_
    exact ret1 (v := .int .i64 (n % 2)) (by simp) ⟨by simp [numberP, h0], rfl⟩
  rw [wpC_cond_f (by simp [h0]), wpC_seq, wpC_blk]
  refine go1 (v := .bool (k == 1)) rfl (by simp) ?_
  refine go1 (v := .bool (k == 1)) rfl (by simp) (goEnd ?_)
  simp only [thenC]
  by_cases h1 : k = 1
  · rw [wpC_cond_t (by simp [h1]), wpC_seq, wpC_blk]
    refine go1 (v := .int .i64 n) rfl (by simp) ?_
    refine go1 (v := .int .i8 (IntKind.i8.wrap n)) rfl (by simp) ?_
    refine go1 (v := .int .i64 (IntKind.i8.wrap n)) rfl (by simp [wrap64_i8]) ?_
    refine go1 (v := .int .i64 (IntKind.i8.wrap n)) rfl (by simp) (goEnd ?_)
    simp only [thenC]
    repeat first | refine retThen ?_ | refine retBlk ?_
    exact ret1 (v := .int .i64 (IntKind.i8.wrap n)) (by simp) ⟨by simp [numberP, h1], rfl⟩
  rw [wpC_cond_f (by simp [h1]), wpC_seq, wpC_blk]
  refine go1 (v := .bool (k == 2)) rfl (by simp) ?_
  refine go1 (v := .bool (k == 2)) rfl (by simp) (goEnd ?_)
  simp only [thenC]
  by_cases h2 : k = 2
  · rw [wpC_cond_t (by simp [h2]), wpC_seq, wpC_blk]
    refine go1 (v := .int .i64 n) rfl (by simp) ?_
    refine go1 (v := .int .i16 (IntKind.i16.wrap n)) rfl (by simp) ?_
    refine go1 (v := .int .i64 (IntKind.i16.wrap n)) rfl (by simp [wrap64_i16]) ?_
    refine go1 (v := .int .i64 (IntKind.i16.wrap n)) rfl (by simp) (goEnd ?_)
    simp only [thenC]
    repeat first | refine retThen ?_ | refine retBlk ?_
    exact ret1 (v := .int .i64 (IntKind.i16.wrap n)) (by simp) ⟨by simp [numberP, h2], rfl⟩
  rw [wpC_cond_f (by simp [h2]), wpC_seq, wpC_blk]
  refine go1 (v := .bool (k == 3)) rfl (by simp) ?_
  refine go1 (v := .bool (k == 3)) rfl (by simp) (goEnd ?_)
  simp only [thenC]
  by_cases h3 : k = 3
  · rw [wpC_cond_t (by simp [h3]), wpC_seq, wpC_blk]
    refine go1 (v := .int .i64 n) rfl (by simp) ?_
    refine go1 (v := .int .i32 (IntKind.i32.wrap n)) rfl (by simp) ?_
    refine go1 (v := .int .i64 (IntKind.i32.wrap n)) rfl (by simp [wrap64_i32]) ?_
    refine go1 (v := .int .i64 (IntKind.i32.wrap n)) rfl (by simp) (goEnd ?_)
    simp only [thenC]
    repeat first | refine retThen ?_ | refine retBlk ?_
    exact ret1 (v := .int .i64 (IntKind.i32.wrap n)) (by simp) ⟨by simp [numberP, h3], rfl⟩
  rw [wpC_cond_f (by simp [h3]), wpC_seq, wpC_blk]
  refine go1 (v := .bool (k == 5)) rfl (by simp) ?_
  refine go1 (v := .bool (k == 5)) rfl (by simp) (goEnd ?_)
  simp only [thenC]
  by_cases h5 : k = 5
  · rw [wpC_cond_t (by simp [h5]), wpC_seq, wpC_blk]
    refine go1 (v := .int .i64 n) rfl (by simp) ?_
    refine go1 (v := .int .u16 (IntKind.u16.wrap n)) rfl (by simp) ?_
    refine go1 (v := .int .i64 (n % 65536)) rfl (by simp [wrap64_u16]) ?_
    refine go1 (v := .int .i64 (n % 65536)) rfl (by simp) (goEnd ?_)
    simp only [thenC]
    repeat first | refine retThen ?_ | refine retBlk ?_
    exact ret1 (v := .int .i64 (n % 65536)) (by simp) ⟨by simp [numberP, h5], rfl⟩
  rw [wpC_cond_f (by simp [h5]), wpC_skip]
  simp only [thenC, inBlockC]
  rw [wpC_seq, wpC_blk]
  refine go1 (v := .int .i64 n) rfl (by simp) ?_
  refine go1 (v := .int .i64 n) rfl (by simp) (goEnd ?_)
  simp only [thenC]
  exact ret1 (v := .int .i64 n) (by simp) ⟨by simp [numberP, h0, h1, h2, h3, h5], rfl⟩
def DefT (fds : List FD) (t : TR) : Prop := ∀ i f, fds[i]? = some f → f.dfl ≠ 0 → (t.at i).n = numberP f.kind f.dfl
theorem defaults_call (hm : P.follows .mixedOrders = true) {f num : FuncId} (h : liftF P f = some (defaultsCode (F sAt) num)) (hat : liftF P (F sAt) = some (ir_sAt F)) (hnum : liftF P num = some numCode) {w : World} {fds : List FD} {sv : Value} {css : List (List Value)} {t : TR} {ts : List Value}
    (hsv : SlC anyB w sv fds.length css.flatten) (hr : RepFL anyB w fds css) (ht : RepT anyB w t ts) (hlen : fds.length < 1000) (H : DefT fds t) :
    Calls P f [sv, .agg ts.toArray].toArray w fun e w' => e = .returned (.bool true) ∧ Mod [] w w' := by
  unfold defaultsCode at h
  refine call_of h hm (by simp) ?_
  clear h
  have h5 := ht.five
  obtain ⟨sb, sc, es⟩ := hsv.shape
  rw [wpC_seq, wpC_blk]
  refine goBox (v := .agg ts.toArray) (by simp) fun w1 hb1 hm1 => ?_
  have hb1 : Blk w1 w.heap.size ts := by simpa using hb1
  refine go1 (v := .bool false) rfl (by simp) (goEnd ?_)
  simp only [thenC]
  rw [wpC_seq, wpC_seq, wpC_blk]
  refine go1 (v := sv) rfl (by simp) ?_
  refine go1 (v := .int .i64 (fds.length : Nat)) rfl (by simp [es]) ?_
  refine go1 (v := .int .i64 (0 : Nat)) rfl (by simp) (goEnd ?_)
  simp only [thenC]
  refine rangeLoop (n := fds.length) (fun j σ w' => σ 3 = .pointer (some ⟨w.heap.size, 0, none⟩) ∧ σ 7 = sv ∧ σ 9 = .int .i64 (j : Nat) ∧ σ 8 = .int .i64 (fds.length : Nat) ∧ Mod [] w1 w') (by omega) (by omega) (fun j σ w h => ⟨h.2.2.1, h.2.2.2.1⟩) ?_ ?_ ?_
  · exact ⟨by simp, by simp, by simp, by simp, Mod.refl _ _⟩
  · rintro j σ w2 hj ⟨k3, k7, k9, k8, hm2⟩
    obtain ⟨fd, hfd⟩ : ∃ f, fds[j]? = some f := ⟨fds[j], by simp [hj]⟩
    obtain ⟨cs, hcs, hrep⟩ := hr.nth hfd
    obtain ⟨a, c, ea, hjn, hcell⟩ := hsv.flat hr.length hr.eight hcs
    have hm02 := hm1.trans hm2
    have hcell2 : cellsAt w2 (a.add (j * 8)) 0 8 = some cs := cellsAt_below hm02.below _ _ _ hcell
    have H' := H j fd hfd
    rw [es] at ea
    simp only [Value.slice.injEq, true_and] at ea
    obtain ⟨ea, ec⟩ := ea
    subst ea
    rw [wpC_seq, wpC_blk]
    refine go1 (v := .int .i64 (j : Nat)) rfl (by simp [k9]) ?_
    refine go1 (v := .pointer (some (a.add (j * 8)))) rfl (by simp [k7, es, k9, hj]) ?_
    refine go1 (v := .agg cs.toArray) rfl (by simp [hcell2]) ?_
    refine goAlloc fun w3 hb3 hm3 => ?_
    refine go1 (v := .int .i64 (j : Nat)) rfl (by simp) ?_
    refine goSt (b := w2.heap.size) (v := .agg cs.toArray) (by simp) (by simp) hb3 (by simpa using hrep.eight) rfl (by simpa using hrep.oneCell) fun w4 hb4 hm4 => goEnd ?_
    simp only [thenC]
    have hb4 : Blk w4 w2.heap.size cs := by simpa using hb4
    have hm24 : Mod [] w2 w4 := Mod.drop (b := w2.heap.size) (S := []) (hm3.nil.trans hm4) (Nat.le_refl _)
    have hm14 : Mod [] w1 w4 := hm2.trans hm24
    cases hrep with
    | @mk kind frm to null tag dfl of sub sv' css' g1 g2 =>
    simp only [FD.dfl, FD.kind] at H'
    rw [wpC_seq]
    show wpD P _ [] _ w4.drew _
    have hmd : Mod [] w1 w4.drew := hm14.trans (Mod.drew _ _)
    have c4 := fun k => (hb4.mod (Mod.drew [] _) (by simp)).cell k
    have c1 := (hb1.mod hmd (by simp))
    have hld := cellsAt_of' c1.cells h5
    refine wpD_of_B (fun i v w' => match i with | 6 => ∃ cs, v = .agg cs.toArray ∧ RepT anyB w' (t.at j) cs | 12 => v = .int .i64 (numberP kind dfl) | _ => True) (by
      intro i v w w' h hm
      split at h
      · obtain ⟨cs, e, h⟩ := h; exact ⟨cs, e, h.keep hm⟩
      · exact h
      · trivial) ?_
    refine bo1 (v := .pointer (some ⟨w2.heap.size, 5, none⟩)) rfl (by simp) ?_
    refine bo1 (v := .int .i64 dfl) rfl (by simp [c4]) ?_
    refine bo1 (v := .bool (dfl != 0)) rfl (by simp) ?_
    refine bo1 (v := .bool (dfl != 0)) rfl (by simp) ?_
    have fin : ∀ (σ' : Sl) (w' : World), σ' 3 = .pointer (some ⟨w.heap.size, 0, none⟩) → σ' 7 = sv → σ' 9 = .int .i64 (j : Nat) → σ' 8 = .int .i64 (fds.length : Nat) → σ' 28 = .bool false → Mod [] w1 w' →
        wpC P (.cond (.tmp 28) (.seq (.blk [⟨some 4, .mv (.const (.bool false)), none⟩]) .ret) .skip) (rngP 0 1 9 29 j (fun j σ w' => σ 3 = .pointer (some ⟨w.heap.size, 0, none⟩) ∧ σ 7 = sv ∧ σ 9 = .int .i64 (j : Nat) ∧ σ 8 = .int .i64 (fds.length : Nat) ∧ Mod [] w1 w')
          (thenC (wpC P (.seq (.blk [⟨some 4, .mv (.const (.bool true)), none⟩]) .ret) (postC [.tmp 4] fun e w' => e = .returned (.bool true) ∧ Mod [] w w')) (postC [.tmp 4] fun e w' => e = .returned (.bool true) ∧ Mod [] w w'))) σ' w' := by
      intro σ' w' q3 q7 q9 q8 q28 hmw
      rw [wpC_cond_f (by simp [q28]), wpC_skip]
      exact ⟨q9, by simp [q3], by simp [q7], by simp, by simp [q8], hmw⟩
    by_cases hd : dfl = 0
    · subst hd
      iterate 10 (refine bo0 (by simp) ?_)
      refine bo1 (v := .bool false) rfl (by simp) ?_
      intro w' hm' hkn
      refine goEnd ?_
      simp only [thenC]
      exact fin _ w' (by simp [k3]) (by simp [k7]) (by simp [k9]) (by simp [k8]) (by simp) (hmd.trans hm')
    · have hdb : (dfl != 0) = true := by simpa using hd
      rw [hdb]
      refine bo1 (v := .agg ts.toArray) (by simp) (by simp [k3, hld]) ?_
      refine bo1 (v := .int .i64 (j : Nat)) (by simp) (by simp) ?_
      refine boCall (vs := [.agg ts.toArray, .int .i64 (j : Nat)]) (by simp) (by simp) (fun w' hm' _ => (at_call hm hat (ht.keep (hm1.trans (hmd.trans hm')))).mono ?_) ?_
      · rintro e w'' ⟨cs, rfl, hrt, hmm⟩
        exact ⟨_, rfl, hmm, cs, rfl, hrt⟩
      rintro v ⟨wv, acs, rfl, hra⟩
      obtain ⟨r, er, en⟩ : ∃ r, acs = .int .i64 (t.at j).n :: r ∧ True := by
        generalize t.at j = y at hra
        cases hra; exact ⟨_, rfl, trivial⟩
      refine bo1 (v := .int .i64 (t.at j).n) (by simp) (by simp [er]) ?_
      refine bo1 (v := .pointer (some ⟨w2.heap.size, 0, none⟩)) (by simp) (by simp) ?_
      refine bo1 (v := .int .i64 kind) (by simp) (by simp [c4]) ?_
      refine bo1 (v := .pointer (some ⟨w2.heap.size, 5, none⟩)) (by simp) (by simp) ?_
      refine bo1 (v := .int .i64 dfl) (by simp) (by simp [c4]) ?_
      refine boCall (vs := [.int .i64 kind, .int .i64 dfl]) (by simp) (by simp) (fun w' hm' _ => (number_call hm hnum).mono ?_) ?_
      · rintro e w'' ⟨rfl, rfl⟩
        exact ⟨_, rfl, Mod.refl _ _, rfl⟩
      rintro v ⟨wv', ev'⟩
      have ev' : v = .int .i64 (numberP kind dfl) := ev'
      subst ev'
      refine bo1 (v := .bool false) (by simp) (by simp [H' hd]) ?_
      refine bo1 (v := .bool false) rfl (by simp) ?_
      intro w' hm' hkn
      refine goEnd ?_
      simp only [thenC]
      exact fin _ w' (by simp [k3]) (by simp [k7]) (by simp [k9]) (by simp [k8]) (by simp) (hmd.trans hm')
  · rintro σ w2 ⟨k3, k7, k9, k8, hm2⟩
    simp only [thenC]
    rw [wpC_seq, wpC_blk]
    refine go1 (v := .bool true) rfl (by simp) (goEnd ?_)
    simp only [thenC]
    exact ret1 (v := .bool true) (by simp) ⟨rfl, hm1.trans hm2⟩
end
end Go.Msk

namespace Go.Msk
open Go.RowKit
set_option maxRecDepth 100000
def defLaw (zz mx sm ver wr door got dfs : FuncId) : IC × List RV × Nat :=
  (.seq (.blk [⟨some 3, .box (.tmp 1), none⟩, ⟨some 4, .mv (.const (.bool false)), none⟩])
  (.seq (.seq (.blk [⟨some 10, .ldn (.tmp 3) 5, none⟩, ⟨some 11, .call zz [.tmp 10], none⟩, ⟨some 12, .lnot (.tmp 11), none⟩])
    (.cond (.tmp 12) (.seq (.blk [⟨some 4, .mv (.const (.bool true)), none⟩]) .ret) .skip))
  (.seq (.blk [⟨some 13, .call mx [], none⟩, ⟨some 5, .mv (.tmp 13), none⟩])
  (.seq (.seq (.blk [⟨some 14, .mv (.tmp 5), none⟩, ⟨some 15, .bin .lss (.tmp 14) (.const (.int .i64 0)), none⟩])
    (.cond (.tmp 15) (.seq (.blk [⟨some 4, .mv (.const (.bool false)), none⟩]) .ret) .skip))
  (.seq (.blk [⟨some 16, .call sm [], none⟩, ⟨some 17, .mv (.tmp 0), none⟩, ⟨some 18, .mv (.tmp 5), none⟩, ⟨some 19, .call ver [.tmp 17, .tmp 18], none⟩, ⟨some 6, .alloc [.slice none 0 0, .int .i64 0], none⟩, ⟨none, .st (.tmp 6) 2 (.tmp 16), none⟩, ⟨some 7, .mv (.tmp 19), none⟩])
  (.seq (.blk [⟨some 21, .mv (.tmp 7), none⟩, ⟨some 22, .ldn (.tmp 6) 2, none⟩, ⟨some 23, .mv (.tmp 7), none⟩, ⟨some 24, .ldn (.tmp 3) 5, none⟩, ⟨some 25, .call wr [.tmp 22, .tmp 23, .tmp 24], none⟩, ⟨some 26, .call door [.tmp 21, .tmp 25], none⟩,
      ⟨some 20, .mv (.tmp 26), none⟩, ⟨some 27, .ext (.tmp 20) 0, none⟩, ⟨some 28, .ext (.tmp 20) 1, none⟩, ⟨some 8, .alloc tzero, none⟩, ⟨none, .st (.tmp 8) 5 (.tmp 27), none⟩, ⟨some 9, .mv (.tmp 28), none⟩])
  (.seq (.drw [⟨⟨some 29, .mv (.tmp 9), none⟩, false, []⟩, ⟨⟨some 30, .mv (.tmp 29), none⟩, false, []⟩, ⟨⟨some 31, .fad (.tmp 6) 0, some (30, true)⟩, false, []⟩, ⟨⟨some 32, .ld (.tmp 31), some (30, true)⟩, false, []⟩, ⟨⟨some 33, .ldn (.tmp 8) 5, some (30, true)⟩, false, []⟩,
      ⟨⟨some 34, .call got [.tmp 33], some (30, true)⟩, true, []⟩, ⟨⟨some 35, .call dfs [.tmp 32, .tmp 34], some (30, true)⟩, true, [5]⟩, ⟨⟨some 36, .pick (.tmp 30) (.tmp 35) (.const (.bool false)), none⟩, false, [5, 6]⟩, ⟨⟨some 4, .mv (.tmp 36), none⟩, false, [5, 6]⟩] [])
  .ret)))))), [.tmp 4], 37)
def DoorOf (P : Program) (door : FuncId) (m : MD) (most : Int) (g : Nat) (Te : TypeId) (ve : Value) (R : Int → TR → TR) : Prop :=
  ∀ (w : World) (ver : Int) (t : TR) (sv : Value), t.kok → (writeP m ver t).length + 1000 ≤ lim → 0 ≤ ver → ver ≤ most → SlC anyB w sv (writeP m ver t).length (u8s (writeP m ver t)) → GErr g w Te ve →
    Calls P door [.int .i64 ver, sv].toArray w (DoorR w (R ver t))
section
variable {P : Program} {F : Nat → Nat}
attribute [local simp] gOk updo upd ev RK.val? isShift intBin Addr.add_mk args0 Value.cells undef
theorem def_law (hm : P.follows .mixedOrders = true) {f zz mx sm ver wr door got dfs g : FuncId} (h : liftF P f = some (defLaw zz mx sm ver wr door got dfs)) {m : MD} {most : Int} (hmost : 0 ≤ most ∧ most < 32768)
    (hzz : ∀ (w : World) (t : TR) (ts : List Value), RepT anyB w t ts → Calls P zz [.agg ts.toArray].toArray w (BoolR w))
    (hmx : ∀ w, Calls P mx #[] w fun e w' => e = .returned (.int .i64 most) ∧ Mod [] w w')
    (hsm : ∀ w, Calls P sm #[] w fun e w' => ∃ cs, e = .returned (.agg cs.toArray) ∧ RepM anyB w' m cs ∧ Mod [] w w')
    (hver : ∀ w n, 0 ≤ n ∧ n < 256 → Calls P ver [.int .u8 n, .int .i64 most].toArray w fun e w' => e = .returned (.int .i64 (n % (most + 1))) ∧ w' = w)
    (hwr : ∀ (v : Int) (w : World) (ms : List Value) (t : TR) (ts : List Value), RepM anyB w m ms → RepT anyB w t ts → t.kok → (writeP m v t).length ≤ lim → Calls P wr [.agg ms.toArray, .int .i64 v, .agg ts.toArray].toArray w (BytesR w (writeP m v t)))
    {Te : TypeId} {ve : Value} {R : Int → TR → TR} (hdoor : DoorOf P door m most g Te ve R)
    {w : World} {n : Int} (hn : 0 ≤ n ∧ n < 256) {t : TR} {ts : List Value} (hgot : ∀ v, 0 ≤ v → v ≤ most → GotAt P got (R v t))
    (hdfs : ∀ (v : Int) (w : World) (sv : Value) (css : List (List Value)) (us : List Value), 0 ≤ v → v ≤ most → SlC anyB w sv m.fs.length css.flatten → RepFL anyB w m.fs css → RepT anyB w (R v t) us → Calls P dfs [sv, .agg us.toArray].toArray w fun e w' => e = .returned (.bool true) ∧ Mod [] w w')
    (ht : RepT anyB w t ts) (hk : t.kok) (hlen : ∀ v, (writeP m v t).length + 1000 ≤ lim) (hg : GErr g w Te ve) :
    Calls P f [.int .u8 n, .agg ts.toArray].toArray w fun e w' => e = .returned (.bool true) ∧ Mod [] w w' := by
  unfold defLaw at h
  refine call_of h hm (by simp) ?_
  clear h
  have h5 := ht.five
  rw [wpC_seq, wpC_blk]
  refine goBox (v := .agg ts.toArray) (by simp) fun w1 hb1 hm1 => ?_
  have hb1 : Blk w1 w.heap.size ts := by simpa using hb1
  refine go1 (v := .bool false) rfl (by simp) (goEnd ?_)
  simp only [thenC]
  have hload1 := cellsAt_of' hb1.cells h5
  rw [wpC_seq, wpC_seq, wpC_blk]
  refine go1 (v := .agg ts.toArray) rfl (by simp [hload1]) ?_
  refine goCall rfl (vs := [.agg ts.toArray]) (by simp) (hzz w1 t ts (ht.keep hm1)) ?_
  rintro e w2 ⟨zb, rfl, hm2⟩
  have hm02 := hm1.trans hm2
  refine ⟨_, rfl, ?_⟩
  refine go1 (v := .bool !zb) rfl (by simp) (goEnd ?_)
  simp only [thenC]
  cases zb with
  | false =>
    rw [wpC_cond_t (by simp), wpC_seq, wpC_blk]
    refine go1 (v := .bool true) rfl (by simp) (goEnd ?_)
    simp only [thenC]
    repeat first | refine retThen ?_ | refine retBlk ?_
    exact ret1 (v := .bool true) (by simp) ⟨rfl, hm02⟩
  | true =>
  rw [wpC_cond_f (by simp), wpC_skip]
  simp only [thenC]
  rw [wpC_seq, wpC_blk]
  refine goCall rfl (vs := []) rfl (hmx w2) ?_
  rintro e w3 ⟨rfl, hm3⟩
  have hm03 := hm02.trans hm3
  refine ⟨_, rfl, go1 (v := .int .i64 most) rfl (by simp) (goEnd ?_)⟩
  simp only [thenC]
  rw [wpC_seq, wpC_seq, wpC_blk]
  refine go1 (v := .int .i64 most) rfl (by simp) ?_
  refine go1 (v := .bool false) rfl (by simp; omega) (goEnd ?_)
  simp only [thenC]
  rw [wpC_cond_f (by simp), wpC_skip]
  simp only [thenC]
  rw [wpC_seq, wpC_blk]
  refine goCall rfl (vs := []) rfl (hsm w3) ?_
  rintro e w4 ⟨cs, rfl, hrm, hm4⟩
  have hm04 := hm03.trans hm4
  refine ⟨_, rfl, ?_⟩
  obtain ⟨cv, cfl, rfl, hone, fcss, hfs, hfl⟩ : ∃ a b, cs = [a, .int .i64 b] ∧ a.oneCell' = true ∧ ∃ css, SlC anyB w4 a m.fs.length css.flatten ∧ RepFL anyB w4 m.fs css := by cases hrm with | mk q1 q2 => exact ⟨_, _, rfl, q1.one, _, q1, q2⟩
  refine go1 (v := .int .u8 n) rfl (by simp) ?_
  refine go1 (v := .int .i64 most) rfl (by simp) ?_
  refine goCall rfl (vs := [.int .u8 n, .int .i64 most]) (by simp) (hver w4 n hn) ?_
  rintro e w5 ⟨rfl, e5⟩
  subst e5
  refine ⟨_, rfl, ?_⟩
  refine goAlloc fun w6 hb6 hm6 => ?_
  refine goSt (b := w5.heap.size) (v := .agg #[cv, .int .i64 cfl]) (by simp) (by simp) hb6 (by simp) (by simp) (by
    intro y hy
    simp only [Value.cells, List.mem_cons, List.not_mem_nil, or_false] at hy
    rcases hy with rfl | rfl
    · exact hone
    · rfl) fun w7 hb7 hm7 => ?_
  have hb7 : Blk w7 w5.heap.size [cv, .int .i64 cfl] := by simpa using hb7
  have hm57 : Mod [] w5 w7 := Mod.drop (b := w5.heap.size) (S := []) (hm6.nil.trans hm7) (Nat.le_refl _)
  have hm07 := hm04.trans hm57
  have hv0 : 0 ≤ n % (most + 1) := Int.emod_nonneg _ (by omega)
  have hv1 : n % (most + 1) ≤ most := by have := Int.emod_lt_of_pos n (show 0 < most + 1 by omega); omega
  generalize n % (most + 1) = vr at hv0 hv1 ⊢
  refine go1 (v := .int .i64 vr) rfl (by simp) (goEnd ?_)
  simp only [thenC]
  have hld7 := cellsAt_of' hb7.cells (show [cv, Value.int .i64 cfl].length = 2 from rfl)
  have hb17 : Blk w7 w.heap.size ts := hb1.mod (((hm2.trans hm3).trans hm4).trans hm57) (by simp)
  have hload7 := cellsAt_of' hb17.cells h5
  rw [wpC_seq, wpC_blk]
  refine go1 (v := .int .i64 vr) rfl (by simp) ?_
  refine go1 (v := .agg #[cv, .int .i64 cfl]) rfl (by simp [hld7]) ?_
  refine go1 (v := .int .i64 vr) rfl (by simp) ?_
  refine go1 (v := .agg ts.toArray) rfl (by simp [hload7]) ?_
  refine goCall rfl (vs := [.agg [cv, .int .i64 cfl].toArray, .int .i64 vr, .agg ts.toArray]) (by simp) (hwr vr w7 _ t ts (hrm.keep hm57) (ht.keep hm07) hk (by have := hlen vr; omega)) ?_
  rintro e w8 ⟨sv, rfl, hsd, hm8⟩
  have hm08 := hm07.trans hm8
  refine ⟨_, rfl, ?_⟩
  have hsl : SlC anyB w8 sv (writeP m vr t).length (u8s (writeP m vr t)) := hsd.slc.any
  refine goCall rfl (vs := [.int .i64 vr, sv]) (by simp) (hdoor w8 vr t sv hk (hlen vr) hv0 hv1 hsl (cell_mod hg hm08 (by simp))) ?_
  rintro e w9 ⟨xs, rfl, hx, hm9⟩
  have hm09 := hm08.trans hm9
  refine ⟨_, rfl, ?_⟩
  refine go1 (v := .tuple #[.agg xs.toArray, .bool true]) rfl (by simp) ?_
  refine go1 (v := .agg xs.toArray) rfl (by simp) ?_
  refine go1 (v := .bool true) rfl (by simp) ?_
  refine goAlloc fun w10 hb10 hm10 => ?_
  refine goSt (b := w9.heap.size) (v := .agg xs.toArray) (by simp) (by simp) hb10 (by simpa using hx.five) rfl (by simpa using hx.oneCell) fun w11 hb11 hm11 => ?_
  have hb11 : Blk w11 w9.heap.size xs := by simpa using hb11
  have hm911 : Mod [] w9 w11 := Mod.drop (b := w9.heap.size) (S := []) (hm10.nil.trans hm11) (Nat.le_refl _)
  refine go1 (v := .bool true) rfl (by simp) (goEnd ?_)
  simp only [thenC]
  rw [wpC_seq]
  show wpD P _ [] _ w11.drew _
  have hmd : Mod [] w9 w11.drew := hm911.trans (Mod.drew _ _)
  have hm0d := hm09.trans hmd
  have hb7d : Blk w11.drew w5.heap.size [cv, .int .i64 cfl] := hb7.mod ((hm8.trans hm9).trans hmd) (by simp)
  have c7 := fun k => hb7d.cell k
  have hb11d := hb11.mod (Mod.drew [] w11) (by simp)
  have hldx := cellsAt_of' hb11d.cells hx.five
  have hsz : w11.drew.heap.size = w11.heap.size := rfl
  have hxd : RepT (fun b => b < w11.drew.heap.size) w11.drew (R vr t) xs := (hx.mod (ok' := fun _ => True) hmd (by simp) fun _ _ _ => trivial).mod (Mod.refl [] _) (by simp) fun b hb _ => hb
  refine wpD_of_B (fun i v w' => match i with | 5 => ∃ cs, v = .agg cs.toArray ∧ RepT anyB w' (R vr t) cs | 6 => v = .bool true | _ => True) (by
    intro i v w w' h hm
    split at h
    · obtain ⟨cs, e, h⟩ := h; exact ⟨cs, e, h.keep hm⟩
    · exact h
    · trivial) ?_
  refine bo1 (v := .bool true) rfl (by simp) ?_
  refine bo1 (v := .bool true) rfl (by simp) ?_
  refine bo1 (v := .pointer (some ⟨w5.heap.size, 0, none⟩)) (by simp) (by simp) ?_
  refine bo1 (v := cv) (by simp) (by simp [c7]) ?_
  refine bo1 (v := .agg xs.toArray) (by simp) (by simp [hldx]) ?_
  refine boCall (vs := [.agg xs.toArray]) (by simp) (by simp) (fun w' hm' _ => (hgot vr hv0 hv1 w11.drew.heap.size w' xs hm'.size (hxd.mod hm' (by simp) fun _ _ h => h)).mono ?_) ?_
  · rintro e w'' ⟨us, rfl, hru, hmm⟩
    exact ⟨_, rfl, hmm, us, rfl, hru.any⟩
  rintro v ⟨wv, us, rfl, -⟩
  refine boCall (vs := [cv, .agg us.toArray]) (by simp) (by simp) (fun w' hm' hkn => ?_) ?_
  · have k5 := known_get (j := 5) (t := 34) hkn (by simp) rfl rfl (by simp) rfl
    obtain ⟨us', eu, hru⟩ : ∃ cs, Value.agg us.toArray = .agg cs.toArray ∧ RepT anyB w' (R vr t) cs := by simpa using k5
    have hm4w : Mod [] w5 w' := ((hm57.trans hm8).trans hm9).trans (hmd.trans hm')
    rw [show ([cv, Value.agg us.toArray] : List Value) = [cv, .agg us'.toArray] by rw [eu]]
    refine (hdfs vr w' cv fcss us' hv0 hv1 (hfs.keep hm4w) (hfl.keep hm4w) hru).mono ?_
    rintro e w'' ⟨rfl, hmm⟩
    exact ⟨_, rfl, hmm, rfl⟩
  rintro v ⟨wv', ev'⟩
  have ev' : v = .bool true := ev'
  subst ev'
  refine bo1 (v := .bool true) rfl (by simp) ?_
  refine bo1 (v := .bool true) rfl (by simp) ?_
  intro w' hm' hkn
  refine goEnd ?_
  simp only [thenC]
  exact ret1 (v := .bool true) (by simp) ⟨rfl, hm0d.trans hm'⟩
end
end Go.Msk

namespace Go.Msk
open Go.RowKit
set_option maxRecDepth 100000
theorem uuidP_len (s : List UInt8) : (uuidP s).length = 16 := by simp [uuidP]; omega
theorem valG_ty {p : PK} {kind : Int} {nul null : Bool} {t : TR} (hk : kindOk kind nul p = true) : p.ty (valG p null t) := by
  have hw := wholeP_le t.s
  cases p with
  | bool => exact ⟨_, rfl⟩
  | i64 => exact ⟨_, rfl, i64_wrap_wrap _⟩
  | str => exact ⟨_, rfl⟩
  | nstr => exact ⟨_, rfl⟩
  | byt => exact ⟨_, rfl, fun l e => by cases e; omega⟩
  | uuid => exact ⟨_, rfl, uuidP_len _⟩
  | u32 => simp [kindOk] at hk
  | nbyt => simp [kindOk] at hk
  | _ => exact ⟨_, _, rfl⟩
theorem valG_sm (p : PK) (null : Bool) (t : TR) : (valG p null t).sm := by
  have hw := wholeP_le t.s
  have hb : (GV.byt (some (wholeP t.s))).sm := ⟨by simp only [GV.told, TR.small, TR.smallL]; simp; omega, fun m e => by simp at e⟩
  cases p with
  | str => exact str_sm (by omega)
  | nstr =>
    refine ⟨?_, fun m e => by simp [valG] at e⟩
    cases null <;> simp [valG, GV.told, TR.small, TR.smallL]; omega
  | uuid => exact arr_sm (by rw [uuidP_len]; omega)
  | byt => exact hb
  | u32 => exact hb
  | nbyt => exact hb
  | _ => exact num_sm (by simp)
theorem lstG_ty {T : GV → Prop} {sz esz : Nat} {val : TR → GV} {ys : List TR} (hsz : sz = esz) (hl : ys.length ≤ 32767) (h : ∀ y ∈ ys, T (val y)) : ∃ isnil z l, lstG sz val ys = .lst isnil z l ∧ (∀ g ∈ l, T g) ∧ l.length ≤ 2147483647 ∧ (l = [] ∨ z = esz) := by
  refine ⟨_, _, _, rfl, fun g hg => ?_, by simp; omega, ?_⟩
  · obtain ⟨y, hy, rfl⟩ := List.mem_map.1 hg; exact h y hy
  · by_cases hz : (ys.length : Int) ≤ 0
    · left
      have : ys = [] := List.length_eq_zero_iff.1 (by omega)
      simp [this]
    · right; rw [if_neg hz, hsz]
theorem lstG_sm {sz : Nat} {val : TR → GV} {ys : List TR} (hl : ys.length ≤ 32767) (h : ∀ y ∈ ys, (val y).sm) : (lstG sz val ys).sm := by
  refine lst_small (by simp; omega) fun g hg => ?_
  obtain ⟨y, hy, rfl⟩ := List.mem_map.1 hg; exact h y hy
section
variable {ver : Int} {x : Bool}
theorem vals_len : ∀ (sc : Sc) (fds : List FD) (i : Nat) (t : TR), sc.rvB ver x fds = true → (sc.vals ver x fds i t).length = sc.len := by
  intro sc
  induction sc with
  | nil => intro fds i t _; rfl
  | tags f => intro fds i t _; rfl
  | _ =>
    rename_i ih
    intro fds i t h
    cases fds with
    | nil => simp [Sc.rvB] at h
    | cons f fs =>
      simp only [Sc.rvB, Bool.and_eq_true] at h
      simp [Sc.vals, Sc.len, ih fs (i + 1) t h.2]
theorem vals_sm : ∀ (sc : Sc) (fds : List FD) (i : Nat) (t : TR), sc.rvB ver x fds = true → sc.smallB = true → t.kok → ∀ g ∈ sc.vals ver x fds i t, g.sm := by
  intro sc
  have l0 : (GV.lst true 0 []).sm := ⟨by simp [GV.told, GV.toldL, TR.small, TR.smallL], fun m e => by simp at e⟩
  have cons : ∀ {g : GV} {l : List GV}, g.sm → (∀ y ∈ l, y.sm) → ∀ y ∈ g :: l, y.sm := fun h1 h2 y hy => by
    rcases List.mem_cons.1 hy with rfl | hy
    · exact h1
    · exact h2 y hy
  induction sc with
  | nil => intro fds i t _ _ _ g hg; simp [Sc.vals] at hg
  | tags f =>
    intro fds i t _ _ hk g hg
    simp only [Sc.vals, List.mem_singleton] at hg
    subst hg
    have hku : ∀ p ∈ t.u, p.1 < 4294967296 := by cases t; exact hk.1
    obtain ⟨-, h2⟩ := unk_ok hku
    refine ⟨by simp [GV.told, TR.small, TR.smallL, TR.zero], fun m e => ?_⟩
    simp only [GV.tag.injEq] at e
    subst e
    cases x with
    | false => simp
    | true =>
      refine ⟨by simp [wholeU]; omega, fun p hp => ?_⟩
      simp only [if_true, wholeU, List.mem_map] at hp
      obtain ⟨q, -, rfl⟩ := hp
      have := wholeP_le q.2
      show (wholeP q.2).length ≤ _
      omega
  | prm vc init rr p d rest ih =>
    intro fds i t h hs hk
    cases fds with
    | nil => simp [Sc.rvB] at h
    | cons f fs =>
      simp only [Sc.rvB, Bool.and_eq_true] at h
      simp only [Sc.smallB, Bool.and_eq_true] at hs
      refine cons ?_ (ih fs (i + 1) t h.2 hs.2 hk)
      split
      · exact valG_sm _ _ _
      · exact Df.small hs.1
  | enm vc init rr p d rest ih =>
    intro fds i t h hs hk
    cases fds with
    | nil => simp [Sc.rvB] at h
    | cons f fs =>
      simp only [Sc.rvB, Bool.and_eq_true] at h
      simp only [Sc.smallB, Bool.and_eq_true] at hs
      refine cons ?_ (ih fs (i + 1) t h.2 hs.2 hk)
      split
      · exact valG_sm _ _ _
      · exact Df.small hs.1
  | uid vc ff rest ih =>
    intro fds i t h hs hk
    cases fds with
    | nil => simp [Sc.rvB] at h
    | cons f fs =>
      simp only [Sc.rvB, Bool.and_eq_true] at h
      refine cons ?_ (ih fs (i + 1) t h.2 hs hk)
      split
      · exact arr_sm (by rw [uuidP_len]; omega)
      · exact arr_sm (by simp)
  | lsp vc ln bytes d init rr p rest ih =>
    intro fds i t h hs hk
    cases fds with
    | nil => simp [Sc.rvB] at h
    | cons f fs =>
      simp only [Sc.rvB, Bool.and_eq_true] at h
      refine cons ?_ (ih fs (i + 1) t h.2 hs hk)
      split
      · exact lstG_sm (take_le _) fun y _ => valG_sm _ _ _
      · exact l0
  | lss vc ln bytes z dfl body rest ihb ih =>
    intro fds i t h hs hk
    cases fds with
    | nil => simp [Sc.rvB] at h
    | cons f fs =>
      simp only [Sc.rvB, Bool.and_eq_true] at h
      simp only [Sc.smallB, Bool.and_eq_true, decide_eq_true_eq] at hs
      refine cons ?_ (ih fs (i + 1) t h.2 hs.2 hk)
      split
      · rename_i hh
        have hb : body.rvB ver x f.sub = true := by
          have := h.1.2
          rw [hh] at this
          simp only [Bool.not_true, Bool.false_or, Bool.and_eq_true] at this
          exact this.2
        refine lstG_sm (take_le _) fun y hy => rcd_small (by rw [vals_len _ _ _ _ hb]; exact hs.1.1) ?_
        exact ihb f.sub 0 y hb hs.1.2 (TR.kok_mem (hk.at i) (List.mem_of_mem_take hy))
      · exact l0
  | sub vc dfl body rest ihb ih =>
    intro fds i t h hs hk
    cases fds with
    | nil => simp [Sc.rvB] at h
    | cons f fs =>
      simp only [Sc.rvB, Bool.and_eq_true] at h
      simp only [Sc.smallB, Bool.and_eq_true, decide_eq_true_eq] at hs
      refine cons ?_ (ih fs (i + 1) t h.2 hs.2 hk)
      split
      · rename_i hh
        have hb : body.rvB ver x f.sub = true := by
          have := h.1.2
          rw [hh] at this
          simp only [Bool.not_true, Bool.false_or, Bool.and_eq_true] at this
          exact this.2
        exact rcd_small (by rw [vals_len _ _ _ _ hb]; exact hs.1.1) (ihb f.sub 0 (t.at i) hb hs.1.2 (hk.at i))
      · exact rcd_small (by rw [Sc.dgv_len]; exact hs.1.1) (Sc.dgv_small body hs.1.2)
theorem vals_ty : ∀ (sc : Sc) (tl : Tl) (fds : List FD) (i : Nat) (t : TR), sc.rvB ver x fds = true → fit sc tl = true → t.kok → tl.ty (sc.vals ver x fds i t) := by
  intro sc
  induction sc with
  | nil => intro tl fds i t _ hf _; cases tl <;> simp only [fit, Bool.false_eq_true] at hf; rfl
  | tags f =>
    intro tl fds i t _ hf hk
    cases tl <;> simp only [fit, Bool.false_eq_true] at hf
    have hku : ∀ p ∈ t.u, p.1 < 4294967296 := by cases t; exact hk.1
    obtain ⟨-, h2⟩ := unk_ok hku
    refine ⟨_, rfl, ?_⟩
    cases x with
    | false => simp
    | true =>
      refine ⟨by simp [wholeU]; omega, fun p hp => ?_⟩
      simp only [if_true, wholeU, List.mem_map] at hp
      obtain ⟨q, -, rfl⟩ := hp
      have := wholeP_le q.2
      show (wholeP q.2).length ≤ _
      omega
  | prm vc init rr p d rest ih =>
    intro tl fds i t h hf hk
    cases fds with
    | nil => simp [Sc.rvB] at h
    | cons f fs =>
      simp only [Sc.rvB, Bool.and_eq_true] at h
      have key : fitD p d = true → p.ty (if f.hasV ver = true then valG p (f.nullV ver (t.at i)) (t.at i) else d.gv) := fun hd => by
        split
        · rename_i hh
          have := h.1.2
          rw [hh] at this
          exact valG_ty (by simpa using this)
        · exact fitD_ty hd
      cases tl <;> simp only [fit, Bool.false_eq_true, Bool.and_eq_true] at hf
      · exact ⟨_, _, rfl, fitF_ty hf.1.1 (key hf.1.2), ih _ fs (i + 1) t h.2 hf.2 hk⟩
      · have e : p = .uuid := by simpa using hf.1.1
        subst e
        obtain ⟨l, h1, h2⟩ := key hf.1.2
        exact ⟨l, _, by rw [Sc.vals, h1], h2, ih _ fs (i + 1) t h.2 hf.2 hk⟩
  | enm vc init rr p d rest ih =>
    intro tl fds i t h hf hk
    cases fds with
    | nil => simp [Sc.rvB] at h
    | cons f fs =>
      simp only [Sc.rvB, Bool.and_eq_true] at h
      have key : fitD p d = true → p.ty (if f.hasV ver = true then valG p (f.nullV ver (t.at i)) (t.at i) else d.gv) := fun hd => by
        split
        · rename_i hh
          have := h.1.2
          rw [hh] at this
          exact valG_ty (by simpa using this)
        · exact fitD_ty hd
      cases tl <;> simp only [fit, Bool.false_eq_true, Bool.and_eq_true] at hf
      exact ⟨_, _, rfl, fitF_ty hf.1.1 (key hf.1.2), ih _ fs (i + 1) t h.2 hf.2 hk⟩
  | uid vc ff rest ih =>
    intro tl fds i t h hf hk
    cases fds with
    | nil => simp [Sc.rvB] at h
    | cons f fs =>
      simp only [Sc.rvB, Bool.and_eq_true] at h
      cases tl <;> simp only [fit, Bool.false_eq_true] at hf
      refine ⟨if f.hasV ver = true then uuidP (t.at i).s else List.replicate 16 0, _, by simp only [Sc.vals]; split <;> rfl, ?_, ih _ fs (i + 1) t h.2 hf hk⟩
      split
      · exact uuidP_len _
      · simp
  | lsp vc ln bytes d init rr p rest ih =>
    intro tl fds i t h hf hk
    cases fds with
    | nil => simp [Sc.rvB] at h
    | cons f fs =>
      simp only [Sc.rvB, Bool.and_eq_true] at h
      cases tl <;> simp only [fit, Bool.false_eq_true, Bool.and_eq_true, decide_eq_true_eq] at hf
      rename_i k esz body r'
      have key : ∃ isnil z l, (if f.hasV ver = true then lstG d.size (valG p false) ((t.at i).l.take 32767) else .lst true 0 []) = .lst isnil z l ∧ (∀ g ∈ l, k.ty body.ty g) ∧ l.length ≤ 2147483647 ∧ (l = [] ∨ z = esz) := by
        split
        · rename_i hh
          have := h.1.2
          rw [hh] at this
          simp only [Bool.not_true, Bool.false_or, Bool.and_eq_true] at this
          exact lstG_ty hf.1.2 (take_le _) fun y _ => fitE_ty hf.1.1 (valG_ty this.1.2)
        · exact ⟨_, _, _, rfl, by simp, by simp, .inl rfl⟩
      obtain ⟨b, z, l, e, h1, h2, h3⟩ := key
      exact ⟨b, z, l, _, by rw [Sc.vals, e], h1, h2, h3, ih _ fs (i + 1) t h.2 hf.2 hk⟩
  | lss vc ln bytes z dfl body rest ihb ih =>
    intro tl fds i t h hf hk
    cases fds with
    | nil => simp [Sc.rvB] at h
    | cons f fs =>
      simp only [Sc.rvB, Bool.and_eq_true] at h
      cases tl with
      | lst k esz b r' =>
        cases k with
        | tell ft =>
          simp only [fit, Bool.and_eq_true, decide_eq_true_eq] at hf
          have key : ∃ isnil z l, (if f.hasV ver = true then lstG body.size (fun y => .rcd (body.vals ver x f.sub 0 y)) ((t.at i).l.take 32767) else .lst true 0 []) = .lst isnil z l ∧ (∀ g ∈ l, (EK.tell ft).ty b.ty g) ∧ l.length ≤ 2147483647 ∧ (l = [] ∨ z = esz) := by
            split
            · rename_i hh
              have hb : body.rvB ver x f.sub = true := by
                have := h.1.2
                rw [hh] at this
                simp only [Bool.not_true, Bool.false_or, Bool.and_eq_true] at this
                exact this.2
              exact lstG_ty hf.1.2 (take_le _) fun y hy => ⟨_, rfl, ihb b f.sub 0 y hb hf.1.1 (TR.kok_mem (hk.at i) (List.mem_of_mem_take hy))⟩
            · exact ⟨_, _, _, rfl, by simp, by simp, .inl rfl⟩
          obtain ⟨bb, z, l, e, h1, h2, h3⟩ := key
          exact ⟨bb, z, l, _, by rw [Sc.vals, e], h1, h2, h3, ih _ fs (i + 1) t h.2 hf.2 hk⟩
        | num c => simp [fit] at hf
        | str => simp [fit] at hf
      | _ => simp [fit] at hf
  | sub vc dfl body rest ihb ih =>
    intro tl fds i t h hf hk
    cases fds with
    | nil => simp [Sc.rvB] at h
    | cons f fs =>
      simp only [Sc.rvB, Bool.and_eq_true] at h
      cases tl <;> simp only [fit, Bool.false_eq_true, Bool.and_eq_true] at hf
      rename_i ff n b r'
      have key : ∃ l, (if f.hasV ver = true then GV.rcd (body.vals ver x f.sub 0 (t.at i)) else .rcd body.dgv) = .rcd l ∧ b.ty l := by
        split
        · rename_i hh
          have hb : body.rvB ver x f.sub = true := by
            have := h.1.2
            rw [hh] at this
            simp only [Bool.not_true, Bool.false_or, Bool.and_eq_true] at this
            exact this.2
          exact ⟨_, rfl, ihb b f.sub 0 (t.at i) hb hf.1.1 (hk.at i)⟩
        · exact ⟨_, rfl, fit_dgv body b hf.1.1⟩
      obtain ⟨l, e, h1⟩ := key
      exact ⟨l, _, by rw [Sc.vals, e], h1, ih _ fs (i + 1) t h.2 hf.2 hk, rfl⟩
end
def rvV (T : Top) (m : MD) (ver : Int) : Bool := T.rv.isNone && (T.x ver == m.isFlex ver) && neB ver (m.isFlex ver) m.fs && T.sc.rvB ver (m.isFlex ver) m.fs
def rvOk (T : Top) (m : MD) (most : Nat) : Bool := FD.plainL m.fs && (List.range (most + 1)).all fun v => rvV T m (v : Nat)
theorem top_rv {T : Top} {m : MD} {most : Nat} (h : rvOk T m most = true) {ver : Int} (h0 : 0 ≤ ver) (h1 : ver ≤ most) {t : TR} (hk : t.kok) :
    0 < (writeP m ver t).length ∧ T.sc.rvB ver (m.isFlex ver) m.fs = true ∧ T.dec decStd ver (at_ (writeP m ver t)) = some ((ver, T.sc.vals ver (m.isFlex ver) m.fs 0 t), at_ []) := by
  simp only [rvOk, Bool.and_eq_true] at h
  obtain ⟨hp, h⟩ := h
  rw [List.all_eq_true] at h
  have hv := h ver.toNat (by rw [List.mem_range]; omega)
  rw [Int.toNat_of_nonneg h0] at hv
  simp only [rvV, Bool.and_eq_true, beq_iff_eq] at hv
  obtain ⟨⟨⟨hrv, hx⟩, hne⟩, hsc⟩ := hv
  have hrv : T.rv.isSome = false := by cases hr : T.rv <;> simp_all
  have e : writeP m ver t = bodyP ver (m.isFlex ver) m.fs 0 t ++ tailP (m.isFlex ver) t.u := by
    unfold writeP partP
    rw [unknownP_plain hp]; rfl
  refine ⟨by rw [e]; exact body_pos hne, hsc, ?_⟩
  have := T.sc.rv m.fs 0 t hsc hk []
  rw [← e, List.append_nil] at this
  unfold Top.dec
  rw [hrv]
  simp only [Bool.false_eq_true, if_false, hx, this]
end Go.Msk

namespace Go.Msk
open Go.RowKit
set_option maxRecDepth 100000
def GV.isTag : GV → Bool | .tag _ => true | _ => false
def GV.sg (g : GV) : Nat × Bool := (g.wid, g.isTag)
theorem wids_map (l : List GV) : GV.wids l = (l.map GV.wid).sum := by
  induction l with
  | nil => rfl
  | cons g l ih => simp [GV.wids, ih]
def Sc.wB : Sc → Bool
  | .nil => true
  | .prm _ _ _ p d rest => decide (d.size = p.size) && rest.wB
  | .enm _ _ _ p d rest => decide (d.size = p.size) && rest.wB
  | .lsp _ _ _ _ _ _ _ rest => rest.wB
  | .lss _ _ _ _ _ _ rest => rest.wB
  | .sub _ _ body rest => body.wB && rest.wB
  | .tags _ => true
  | .uid _ _ rest => rest.wB
theorem Df.noTag (d : Df) : d.gv.isTag = false := by cases d <;> rfl
theorem valG_sg {p : PK} {kind : Int} {nul null : Bool} {t : TR} (hk : kindOk kind nul p = true) : (valG p null t).sg = (p.size, false) := by
  cases p with
  | uuid => simp only [valG, GV.sg, GV.wid, GV.isTag, PK.size, uuidP_len]
  | u32 => simp [kindOk] at hk
  | nbyt => simp [kindOk] at hk
  | _ => rfl
theorem vals_sg {ver : Int} {x : Bool} : ∀ (sc : Sc) (fds : List FD) (i : Nat) (t : TR), sc.rvB ver x fds = true → sc.wB = true → (sc.vals ver x fds i t).map GV.sg = sc.dgv.map GV.sg := by
  intro sc
  have prm : ∀ (f : FD) (p : PK) (d : Df) (t : TR), (!f.hasV ver || kindOk f.kind (f.nulB ver) p) = true → d.size = p.size → (if f.hasV ver = true then valG p (f.nullV ver t) t else d.gv).sg = d.gv.sg := fun f p d t h hd => by
    have hdg : d.gv.sg = (p.size, false) := by simp only [GV.sg, d.wid, d.noTag, hd]
    split
    · rename_i hh
      rw [hh] at h
      rw [hdg]
      exact valG_sg (by simpa using h)
    · rfl
  have wids_sg : ∀ {a b : List GV}, a.map GV.sg = b.map GV.sg → (GV.rcd a).sg = (GV.rcd b).sg := fun {a b} h => by
    simp only [GV.sg, GV.wid, GV.isTag, wids_map]
    have : a.map GV.wid = b.map GV.wid := by
      have := congrArg (List.map Prod.fst) h
      simpa [List.map_map, Function.comp_def, GV.sg] using this
    rw [this]
  induction sc with
  | nil => intro fds i t _ _; rfl
  | tags f => intro fds i t _ _; rfl
  | prm vc init rr p d rest ih =>
    intro fds i t h hw
    cases fds with
    | nil => simp [Sc.rvB] at h
    | cons f fs =>
      simp only [Sc.rvB, Bool.and_eq_true] at h
      simp only [Sc.wB, Bool.and_eq_true, decide_eq_true_eq] at hw
      simp only [Sc.vals, Sc.dgv, List.map_cons, ih fs (i + 1) t h.2 hw.2, prm f p d _ h.1.2 hw.1]
  | enm vc init rr p d rest ih =>
    intro fds i t h hw
    cases fds with
    | nil => simp [Sc.rvB] at h
    | cons f fs =>
      simp only [Sc.rvB, Bool.and_eq_true] at h
      simp only [Sc.wB, Bool.and_eq_true, decide_eq_true_eq] at hw
      simp only [Sc.vals, Sc.dgv, List.map_cons, ih fs (i + 1) t h.2 hw.2, prm f p d _ h.1.2 hw.1]
  | uid vc ff rest ih =>
    intro fds i t h hw
    cases fds with
    | nil => simp [Sc.rvB] at h
    | cons f fs =>
      simp only [Sc.rvB, Bool.and_eq_true] at h
      simp only [Sc.vals, Sc.dgv, List.map_cons, ih fs (i + 1) t h.2 hw]
      congr 1
      split <;> simp [GV.sg, GV.wid, GV.isTag, uuidP_len]
  | lsp vc ln bytes d init rr p rest ih =>
    intro fds i t h hw
    cases fds with
    | nil => simp [Sc.rvB] at h
    | cons f fs =>
      simp only [Sc.rvB, Bool.and_eq_true] at h
      simp only [Sc.vals, Sc.dgv, List.map_cons, ih fs (i + 1) t h.2 hw]
      congr 1
      split <;> rfl
  | lss vc ln bytes z dfl body rest ihb ih =>
    intro fds i t h hw
    cases fds with
    | nil => simp [Sc.rvB] at h
    | cons f fs =>
      simp only [Sc.rvB, Bool.and_eq_true] at h
      simp only [Sc.vals, Sc.dgv, List.map_cons, ih fs (i + 1) t h.2 hw]
      congr 1
      split <;> rfl
  | sub vc dfl body rest ihb ih =>
    intro fds i t h hw
    cases fds with
    | nil => simp [Sc.rvB] at h
    | cons f fs =>
      simp only [Sc.rvB, Bool.and_eq_true] at h
      simp only [Sc.wB, Bool.and_eq_true] at hw
      simp only [Sc.vals, Sc.dgv, List.map_cons, ih fs (i + 1) t h.2 hw.2]
      congr 1
      split
      · rename_i hh
        have hb : body.rvB ver x f.sub = true := by
          have := h.1.2
          rw [hh] at this
          simp only [Bool.not_true, Bool.false_or, Bool.and_eq_true] at this
          exact this.2
        exact wids_sg (ihb f.sub 0 (t.at i) hb hw.1)
      · rfl
theorem set_rep {O : List Nat} {w : World} {v : Value} (hv : v.oneCell' = true) : ∀ {gs : List GV} {css : List (List Value)} {k : Nat} {g : GV}, RepL O w gs css → gs[k]? = some g → g.wid = 1 →
    ∃ css', css.flatten.set ((gs.take k).map GV.wid).sum v = css'.flatten ∧ RepL O w (gs.set k (.num v)) css'
  | g0 :: gs, cs :: css, 0, g, .cons h1 h2, hk, hg => by
    simp only [List.getElem?_cons_zero, Option.some.injEq] at hk
    subst hk
    have hl := h1.wid
    rw [hg] at hl
    obtain ⟨c, rfl⟩ : ∃ c, cs = [c] := by match cs, hl with | [c], _ => exact ⟨c, rfl⟩
    exact ⟨[v] :: css, by simp, .cons (.num hv) h2⟩
  | g0 :: gs, cs :: css, k + 1, g, .cons h1 h2, hk, hg => by
    obtain ⟨css', e, hr⟩ := set_rep hv h2 (by simpa using hk) hg
    have hl := h1.wid
    refine ⟨cs :: css', ?_, .cons h1 hr⟩
    simp only [List.take_succ_cons, List.map_cons, List.sum_cons, List.flatten_cons, ← hl]
    rw [List.set_append_right _ _ (by omega), Nat.add_sub_cancel_left, e]
theorem toldF_get : ∀ {gs : List GV} {k : Nat} {g : GV}, gs[k]? = some g → (∀ y ∈ gs.take (k + 1), y.isTag = false) → (GV.toldF gs)[k]? = some g.told
  | g0 :: gs, 0, g, hk, hn => by
    simp only [List.getElem?_cons_zero, Option.some.injEq] at hk
    subst hk
    have h0 := hn g0 (by simp)
    cases g0 <;> first | (simp [GV.isTag] at h0; done) | simp only [GV.toldF, List.getElem?_cons_zero]
  | g0 :: gs, k + 1, g, hk, hn => by
    have h0 := hn g0 (by simp)
    have ih := toldF_get (gs := gs) (k := k) (g := g) (by simpa using hk) fun y hy => hn y (by simp only [List.take_succ_cons, List.mem_cons]; exact .inr hy)
    cases g0 <;> first | (simp [GV.isTag] at h0; done) | (simp only [GV.toldF, List.getElem?_cons_succ]; exact ih)
def Tl.setB : Tl → Nat → IntKind → Int → Bool
  | .fld k _, 0, ik, n => match k with
    | .num true => true
    | .num false => decide (ik = .i64) && decide (IntKind.i64.wrap n = n)
    | _ => false
  | .fld _ r, k + 1, ik, n => r.setB k ik n
  | .lst _ _ _ r, k + 1, ik, n => r.setB k ik n
  | .uid r, k + 1, ik, n => r.setB k ik n
  | .sub _ _ _ r, k + 1, ik, n => r.setB k ik n
  | _, _, _, _ => false
theorem Tl.set_ty {ik : IntKind} {n : Int} : ∀ (tl : Tl) (k : Nat) (gs : List GV), tl.setB k ik n = true → tl.ty gs → tl.ty (gs.set k (.num (.int ik n))) := by
  intro tl
  induction tl with
  | nil => intro k gs h; simp [Tl.setB] at h
  | tags _ _ _ => intro k gs h; simp [Tl.setB] at h
  | fld tk r ih =>
    intro k gs h hg
    obtain ⟨g, l, rfl, h1, h2⟩ := hg
    cases k with
    | zero =>
      refine ⟨_, l, rfl, ?_, h2⟩
      cases tk with
      | num c =>
        cases c with
        | true => exact ⟨ik, n, rfl⟩
        | false =>
          simp only [Tl.setB, Bool.and_eq_true, decide_eq_true_eq] at h
          obtain ⟨rfl, h⟩ := h
          exact ⟨n, rfl, h⟩
      | _ => simp [Tl.setB] at h
    | succ k => exact ⟨g, l.set k _, rfl, h1, ih k l h h2⟩
  | lst ek esz body r _ ih =>
    intro k gs h hg
    obtain ⟨b, sz, x, l, rfl, h1, h2, h3, h4⟩ := hg
    cases k with
    | zero => simp [Tl.setB] at h
    | succ k => exact ⟨b, sz, x, l.set k _, rfl, h1, h2, h3, ih k l h h4⟩
  | uid r ih =>
    intro k gs h hg
    obtain ⟨x, l, rfl, h1, h2⟩ := hg
    cases k with
    | zero => simp [Tl.setB] at h
    | succ k => exact ⟨x, l.set k _, rfl, h1, ih k l h h2⟩
  | sub ff sz body r _ ih =>
    intro k gs h hg
    obtain ⟨x, l, rfl, h1, h2, h3⟩ := hg
    cases k with
    | zero => simp [Tl.setB] at h
    | succ k => exact ⟨x, l.set k _, rfl, h1, ih k l h h2, h3⟩
def setOkB (sc : Sc) (tl : Tl) (fds : List FD) (k : Nat) (ik : IntKind) (n : Int) : Bool :=
  sc.wB && tl.setB k ik n && (match sc.dgv[k]? with | some g => decide (g.wid = 1) | none => false) && ((sc.dgv.take (k + 1)).all fun g => !g.isTag) &&
  (List.range fds.length).all fun i => match fds[i]? with
    | some f => decide (f.dfl = 0) || (decide (i = k) && decide (IntKind.i64.wrap n = numberP f.kind f.dfl))
    | none => true
def Sc.offs (sc : Sc) (k : Nat) : Nat := 1 + ((sc.dgv.take k).map GV.wid).sum
theorem def_set {ver : Int} {x : Bool} {sc : Sc} {tl : Tl} {fds : List FD} {k : Nat} {ik : IntKind} {n : Int} {t : TR} (h : setOkB sc tl fds k ik n = true) (hr : sc.rvB ver x fds = true) (hs : sc.smallB = true) (hf : fit sc tl = true) (hk : t.kok) :
    (∀ (w : World) (b : Nat) (css : List (List Value)), RepL [b] w (sc.vals ver x fds 0 t) css → ∃ css', dfRes [(sc.offs k, .int ik n)] (.int .i16 ver :: css.flatten) = .int .i16 ver :: css'.flatten ∧ RepL [b] w ((sc.vals ver x fds 0 t).set k (.num (.int ik n))) css') ∧
    tl.ty ((sc.vals ver x fds 0 t).set k (.num (.int ik n))) ∧ (∀ g ∈ (sc.vals ver x fds 0 t).set k (.num (.int ik n)), g.sm) ∧ DefT fds (GV.rcd ((sc.vals ver x fds 0 t).set k (.num (.int ik n)))).told := by
  simp only [setOkB, Bool.and_eq_true] at h
  obtain ⟨⟨⟨⟨hw, hset⟩, hone⟩, hno⟩, hd⟩ := h
  have hsg := vals_sg sc fds 0 t hr hw
  generalize hgs : sc.vals ver x fds 0 t = gs at hsg ⊢
  have hwid : gs.map GV.wid = sc.dgv.map GV.wid := by
    have := congrArg (List.map Prod.fst) hsg
    simpa [List.map_map, Function.comp_def, GV.sg] using this
  have htag : gs.map GV.isTag = sc.dgv.map GV.isTag := by
    have := congrArg (List.map Prod.snd) hsg
    simpa [List.map_map, Function.comp_def, GV.sg] using this
  have hlen : gs.length = sc.dgv.length := by have := congrArg List.length hsg; simpa using this
  have hkl : k < sc.dgv.length := by
    cases hg : sc.dgv[k]? with
    | none => rw [hg] at hone; simp at hone
    | some g => exact (List.getElem?_eq_some_iff.1 hg).1
  obtain ⟨g, hg⟩ : ∃ g, gs[k]? = some g := ⟨gs[k], List.getElem?_eq_getElem (by omega)⟩
  have hg1 : g.wid = 1 := by
    have e1 : (gs.map GV.wid)[k]? = some g.wid := by rw [List.getElem?_map, hg]; rfl
    rw [hwid, List.getElem?_map] at e1
    cases hd' : sc.dgv[k]? with
    | none => rw [hd'] at e1; simp at e1
    | some y =>
      rw [hd'] at hone e1
      simp only [Option.map_some, Option.some.injEq] at e1
      rw [← e1]; simpa using hone
  have hntag : ∀ y ∈ gs.take (k + 1), y.isTag = false := by
    have e : (gs.take (k + 1)).map GV.isTag = (sc.dgv.take (k + 1)).map GV.isTag := by rw [List.map_take, htag, ← List.map_take]
    intro y hy
    have h1 : y.isTag ∈ (gs.take (k + 1)).map GV.isTag := List.mem_map_of_mem hy
    rw [e] at h1
    obtain ⟨z, hz, e2⟩ := List.mem_map.1 h1
    rw [List.all_eq_true] at hno
    rw [← e2]; simpa using hno z hz
  refine ⟨fun w b css hrep => ?_, ?_, ?_, ?_⟩
  · obtain ⟨css', e, hr'⟩ := set_rep (v := .int ik n) rfl hrep hg hg1
    refine ⟨css', ?_, hr'⟩
    simp only [dfRes, Sc.offs]
    have eo : ((sc.dgv.take k).map GV.wid).sum = ((gs.take k).map GV.wid).sum := by rw [List.map_take, ← hwid, ← List.map_take]
    rw [eo, Nat.add_comm 1, List.set_cons_succ, e]
  · rw [← hgs]; exact Tl.set_ty tl k _ hset (vals_ty sc tl fds 0 t hr hf hk)
  · intro y hy
    rcases List.mem_or_eq_of_mem_set hy with hy | rfl
    · rw [← hgs] at hy; exact vals_sm sc fds 0 t hr hs hk y hy
    · exact num_sm (by simp)
  · intro i f hfi hf0
    rw [List.all_eq_true] at hd
    have hi : i < fds.length := (List.getElem?_eq_some_iff.1 hfi).1
    have h1 := hd i (List.mem_range.2 hi)
    rw [hfi] at h1
    simp only [Bool.or_eq_true, Bool.and_eq_true, decide_eq_true_eq] at h1
    obtain ⟨rfl, h2⟩ := h1.resolve_left hf0
    have e : (GV.toldF (gs.set i (.num (.int ik n))))[i]? = some (GV.num (.int ik n)).told := by
      refine toldF_get (by rw [List.getElem?_set]; simp [show i < gs.length by omega]) fun y hy => ?_
      rw [List.take_set] at hy
      rcases List.mem_or_eq_of_mem_set hy with hy | rfl
      · exact hntag y hy
      · rfl
    simp only [TR.at, GV.told, TR.l] at e ⊢
    rw [e]
    simpa [TR.n] using h2
end Go.Msk

namespace Go.Msk
open Go.RowKit
set_option maxRecDepth 100000
structure DefFs where
  mx : FuncId
  newp : FuncId
  maxv : FuncId
  setv : FuncId
  rf : FuncId
  rd : FuncId
  tell : FuncId
  door : FuncId
  sm : FuncId
structure DefOk (P : Program) (F : Nat → Nat) (has : Nat → Bool) (M : DefFs) (T : Top) (tl : Tl) (fx : List FX) (flex : Int) (z : List Value) (most : Nat) (k : Nat) (ik : IntKind) (n : Int) : Prop where
  mx : liftF P M.mx = some (impMaxCode M.newp M.maxv)
  maxv : liftF P M.maxv = some (maxCode most)
  newp : liftF P M.newp = some (newCode z T.dfl)
  setv : liftF P M.setv = some setCode
  rf : liftF P M.rf = some (rfCode M.rd false)
  rd : liftF P M.rd = some T.gen
  tell : liftF P M.tell = some (tl.code 1)
  door : liftF P M.door = some (defCode M.newp M.setv M.rf T.dfl M.tell)
  sm : liftF P M.sm = some (FX.genMsg fx flex)
  fxs : FX.OkL P fx
  cnt : Nat.blt fx.length 1000 = true
  dfl : ∃ l, l = [(T.sc.offs k, .int ik n)] ∧ liftF P T.dfl = some (dfGen l) ∧ dfOk l (T.sc.dcs.flatten.length + 1) ∧ z.length = T.sc.dcs.flatten.length + 1 ∧ dfRes l z = .int .i16 0 :: T.sc.dcs.flatten ∧ ∀ ver, dfRes l (.int .i16 ver :: T.sc.dcs.flatten) = .int .i16 ver :: T.sc.dcs.flatten
  dfs : DfsOk P T.sc.dfs
  okT : T.okB F has = true
  okL : tl.okB F has = true
  subs : SubsOk P tl.subs
  cbs : CbsOk P tl.cbs
  fits : fit T.sc tl = true
  small : T.sc.smallB = true
  len : T.sc.len ≤ 1000
  tlen : tl.len ≤ 1000
  rv : rvOk T ⟨FX.fds fx, flex⟩ most = true
  set : setOkB T.sc tl (FX.fds fx) k ik n = true
  most : most < 32768
section
variable {P : Program} {F : Nat → Nat} {has : Nat → Bool} {M : DefFs} {T : Top} {tl : Tl} {fx : List FX} {flex : Int} {z : List Value} {most k : Nat} {ik : IntKind} {n : Int}
theorem md_len {fds : List FD} (hp : FD.plainL fds = true) (size : Nat.ble (FD.maxL (decide (flex ≥ 0)) fds + tagM (decide (flex ≥ 0))) 70368744176664 = true) (sizef : Nat.ble (FD.maxL false fds + tagM false) 70368744176664 = true) {t : TR} (hk : t.kok) (v : Int) : (writeP ⟨fds, flex⟩ v t).length + 1000 ≤ lim := by
  suffices (writeP ⟨fds, flex⟩ v t).length ≤ 70368744176664 by unfold lim; omega
  refine writeP_le hp hk ?_
  cases hf : MD.isFlex ⟨fds, flex⟩ v with
  | false => exact Nat.le_of_ble_eq_true sizef
  | true =>
    have hx : decide (flex ≥ 0) = true := by
      simp only [MD.isFlex, Bool.and_eq_true] at hf; exact hf.1
    have := Nat.le_of_ble_eq_true size
    rwa [hx] at this
theorem md_lenW {fds : List FD} (hp : FD.plainL fds = true) (size : Nat.ble (FD.kL fds) 1000000 = true) {t : TR} (hk : t.kok) (hw : t.wt ≤ 1048576) (v : Int) : (writeP ⟨fds, flex⟩ v t).length + 1000 ≤ lim := by
  have a := writeP_wt (m := ⟨fds, flex⟩) (ver := v) hp hk
  have b := Nat.le_of_ble_eq_true size
  have c : (FD.kL fds + 16) * t.wt ≤ 1000016 * 1048576 := Nat.mul_le_mul (by omega) hw
  have d : (FD.kL (MD.fs ⟨fds, flex⟩) + 16) * t.wt = (FD.kL fds + 16) * t.wt := rfl
  unfold lim
  omega
theorem DefOk.plain (h : DefOk P F has M T tl fx flex z most k ik n) : FD.plainL (FX.fds fx) = true := by
  have := h.rv; simp only [rvOk, Bool.and_eq_true] at this; exact this.1
theorem i16_of {ver : Int} {most : Nat} (h0 : 0 ≤ ver) (h1 : ver ≤ most) (hm : most < 32768) : IntKind.i16.wrap ver = ver := by
  simp only [IntKind.wrap, IntKind.bits, IntKind.signed]; simp; omega
def DefOk.told (T : Top) (fx : List FX) (flex : Int) (k : Nat) (ik : IntKind) (n : Int) (ver : Int) (t : TR) : TR :=
  (GV.rcd ((T.sc.vals ver (MD.isFlex ⟨FX.fds fx, flex⟩ ver) (FX.fds fx) 0 t).set k (.num (.int ik n)))).told
theorem DefOk.doorOf (L : Lib P F has) (LI : LibI P F has) (h : DefOk P F has M T tl fx flex z most k ik n) {Te : TypeId} {ve : Value} : DoorOf P M.door ⟨FX.fds fx, flex⟩ most (F gErr) Te ve (DefOk.told T fx flex k ik n) := by
  intro w ver t sv hk hlen h0 h1 hs hg
  unfold lim at hlen
  obtain ⟨l, el, e1, e2, e3, e4, e5⟩ := h.dfl
  have hz : DfC P T.dfl z (.int .i16 0 :: T.sc.dcs.flatten) := df_call L.mixed e1 (by rw [e3]; exact e2) e4
  have htl : TellAt P M.tell 1 tl.ty := Tl.call L.mixed h.tell (Tl.ok_of L.mixed LI tl h.okL h.subs h.cbs) h.tlen
  obtain ⟨hpos, hrv, hdec⟩ := top_rv h.rv h0 h1 hk
  obtain ⟨d1, d2, -, -⟩ := def_set (t := t) h.set hrv h.small h.fits hk
  refine def_call L.mixed h.door h.newp hz h.setv h.rf h.rd (Top.ok_of L h.okT h.dfs e1 e2 e5 false) e1 e2 htl hdec rfl (fun w' b css hr => ?_) d2 hs hpos (by unfold lim; omega) (i16_of h0 h1 h.most) hg
  rw [el]
  exact d1 w' b css hr
theorem def_msg (L : Lib P F has) (LI : LibI P F has) (SL : SLib P F) (h : DefOk P F has M T tl fx flex z most k ik n) {f zz z2 z3 dfs num : FuncId} (hf : liftF P f = some (defLaw zz M.mx M.sm (F lVersion) (F sWrite) M.door (F lGot) dfs)) (hz1 : liftF P zz = some (zz1Code z2)) (hz2 : liftF P z2 = some (zz2Code z3)) (hz3 : liftF P z3 = some zz3Code)
    (hv : liftF P (F lVersion) = some (ir_lVersion F)) (hg : liftF P (F lGot) = some (ir_lGot F)) (hd : liftF P dfs = some (defaultsCode (F sAt) num)) (hat : liftF P (F sAt) = some (ir_sAt F)) (hnum : liftF P num = some numCode) {Te : TypeId} {ve : Value} {w : World} {b : Int} (hb : 0 ≤ b ∧ b < 256) {t : TR} {ts : List Value}
    (ht : RepT anyB w t ts) (hk : t.kok) (hlen : ∀ v, (writeP ⟨FX.fds fx, flex⟩ v t).length + 1000 ≤ lim) (hge : GErr (F gErr) w Te ve) : Calls P f [.int .u8 b, .agg ts.toArray].toArray w fun e w' => e = .returned (.bool true) ∧ Mod [] w w' := by
  obtain ⟨l, -, e1, e2, e3, e4, e5⟩ := h.dfl
  have hz : DfC P T.dfl z (.int .i16 0 :: T.sc.dcs.flatten) := df_call L.mixed e1 (by rw [e3]; exact e2) e4
  have hmost : (0 : Int) ≤ most ∧ (most : Int) < 32768 := ⟨by omega, by have := h.most; omega⟩
  have hcnt : (FX.fds fx).length < 1000 := by
    rw [FX.fds_length]
    have := h.cnt
    exact Nat.lt_of_succ_le (Nat.le_of_ble_eq_true this)
  refine def_law L.mixed hf hmost (fun w t ts ht => zz1_call L.mixed hz1 hz2 hz3 ht) (fun w => impMax_call L.mixed h.mx h.newp hz h.maxv hmost) (fun w => msg_call L.mixed h.sm h.fxs) (fun w n hn => version_call L.mixed hv hn hmost)
    (fun v w ms t ts a b c d => writeC_plain SL (m := ⟨FX.fds fx, flex⟩) (ver := v) h.plain hcnt w ms t ts a b c d) (h.doorOf L LI) hb (fun v h0 h1 => ?_) (fun v w sv css us h0 h1 a b c => ?_) ht hk hlen hge
  · obtain ⟨-, hrv, -⟩ := top_rv (t := t) h.rv h0 h1 hk
    obtain ⟨-, -, d3, -⟩ := def_set (t := t) h.set hrv h.small h.fits hk
    exact got_call L.mixed hg _ (rcd_small (by rw [List.length_set, vals_len _ _ _ _ hrv]; exact h.len) d3).1
  · obtain ⟨-, hrv, -⟩ := top_rv (t := t) h.rv h0 h1 hk
    obtain ⟨-, -, -, d4⟩ := def_set (t := t) h.set hrv h.small h.fits hk
    exact defaults_call L.mixed hd hat hnum a b c hcnt d4
end
end Go.Msk
