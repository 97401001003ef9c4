/- A small language of resolved operations, and what the generic and the generated functions do in it (part 8). -/
import Derived.Test.YtfoljfjkifiboaaFg

namespace Go.Msk
open Go.RowKit
set_option maxRecDepth 100000
def tagsR (u : List (Nat × List UInt8)) : List UInt8 := u.flatMap fun p => uvE p.1 ++ (uvE p.2.length ++ p.2)
theorem DRaw.keep' {w w' : World} {n0 : Nat} {v : Value} {l : List UInt8} (h : DRaw w n0 v l) (hm : Mod [] w w') : DRaw w' n0 v l := h.mod hm (by simp)
section
variable {P : Program} {F : Nat → Nat}
attribute [local simp] gOk updo upd ev RK.val? isShift intBin Addr.add_mk args0 Value.cells undef
structure DV (w0 w : World) (Db : Nat) (l : List UInt8) : Prop where
  ex : ∃ dv, Blk w Db [dv] ∧ DRaw w w0.heap.size dv l ∧ ownB dv ≠ some Db
  mod : Mod [] w0 w
theorem goVar {a : Operand} {x : Operand} {b : Nat} {r : List RI} {σ : Sl} {w : World} {v u : Value} {Q : Sl → World → Prop} (ha : ev σ a = .pointer (some ⟨b, 0, none⟩)) (hx : ev σ x = v) (hb : Blk w b [u]) (h1 : v.cells = #[v] ∧ v.oneCell' = true)
    (h : ∀ w', Blk w' b [v] → Mod [b] w w' → wpR P r σ w' Q) : wpR P (⟨none, .st a 1 x, none⟩ :: r) σ w Q := by
  refine goSt (v := v) ha hx hb (by rw [h1.1]; rfl) rfl (by rw [h1.1]; simpa using h1.2) fun w' hb' hm' => ?_
  rw [h1.1] at hb'
  exact h w' (by simpa using hb') hm'
theorem appEach_cb (hm : P.follows .mixedOrders = true) (h : liftF P (F tAppendEach1) = some (ir_tAppendEach1 F)) (h1 : liftF P (F kAppendUvarint) = some (ir_kAppendUvarint F)) (h2 : liftF P (F kUvarintLen) = some (ir_kUvarintLen F)) (h3 : liftF P (F bLen32) = some (ir_bLen32 F))
    {w0 w : World} {Db k : Nat} {l b : List UInt8} {v : Value} (hD : DV w0 w Db l) (hDb : w0.heap.size ≤ Db) (hk : k < 4294967296) (hb : b.length ≤ 2147483647) (hv : SlC (fun b => b < w0.heap.size) w v b.length (u8s b)) (hlen : l.length + (uvE k ++ (uvE b.length ++ b)).length ≤ lim) :
    Calls P (F tAppendEach1) [.int .u32 (k : Nat), v, .pointer (some ⟨Db, 0, none⟩)].toArray w fun e w' => e = .returned (.tuple #[]) ∧ DV w0 w' Db (l ++ (uvE k ++ (uvE b.length ++ b))) ∧
      ∀ S : List Nat, Db ∈ S → (∀ dv, w.cell? ⟨Db, 0, none⟩ = some dv → ∀ x, ownB dv = some x → x ∈ S) → Mod S w w' ∧ ∀ dv dv', w.cell? ⟨Db, 0, none⟩ = some dv → w'.cell? ⟨Db, 0, none⟩ = some dv' → ∀ x, ownB dv' = some x → ownB dv = some x ∨ w.heap.size ≤ x := by
  obtain ⟨⟨dv, hblk, hraw, hne⟩, hm0⟩ := hD
  unfold ir_tAppendEach1 at h
  refine call_of h hm (by simp) ?_
  clear h
  simp only [List.length_append] at hlen
  obtain ⟨vb, vc, ev'⟩ := hv.shape
  have c0 := hblk.cell 0
  simp only [List.getElem?_cons_zero] at c0
  have hlt := hblk.lt
  -- one append, and the variable set
  have step : ∀ {σ : Sl} {w1 w2 : World} {dv1 : Value} {l1 l2 : List UInt8} {x : Nat} {dv2 : Value} {r : List RI} {Q : Sl → World → Prop}, σ 2 = .pointer (some ⟨Db, 0, none⟩) → σ x = dv2 → Blk w1 Db [dv1] → ownB dv1 ≠ some Db → Mod [] w0 w1 → DRaw w1 w0.heap.size dv1 l1 → AppD w0.heap.size w1 dv1 w2 dv2 l2 →
      (∀ w3, Blk w3 Db [dv2] → DRaw w3 w0.heap.size dv2 l2 → ownB dv2 ≠ some Db → Mod [] w0 w3 → Mod [Db] w2 w3 → wpR P r σ w3 Q) → wpR P (⟨none, .st (.tmp 2) 1 (.tmp x), none⟩ :: r) σ w2 Q := by
    intro σ w1 w2 dv1 l1 l2 x dv2 r Q s2 sx hb1 hne1 hm1 hd1 ha hQ
    have hb2 : Blk w2 Db [dv1] := hb1.mod ha.mod (by simpa using hne1)
    have hne2 : ownB dv2 ≠ some Db := by
      intro e
      rcases ha.own Db e with h | h
      · exact hne1 h
      · have := hb1.lt; omega
    refine goVar (b := Db) (v := dv2) (u := dv1) (by simp [s2]) (by simp [sx]) hb2 ha.raw.one fun w3 hb3 hm3 => ?_
    refine hQ w3 hb3 (ha.raw.mod hm3 fun b hb hc => by simp only [List.mem_singleton] at hc; subst hc; exact hne2 hb) hne2 ?_ hm3
    exact Mod.drop (b := Db) (S := []) ((ha.mod0 hd1 hm1).nil.trans hm3) hDb
  rw [wpC_seq, wpC_blk]
  refine go1 (v := dv) rfl (by simp [c0]) ?_
  refine go1 (v := .int .u32 (k : Nat)) rfl (by simp) ?_
  refine goCall rfl (vs := [dv, .int .u32 (k : Nat)]) (by simp) (kAppendUvarint_call hm h1 h2 h3 hk w0.heap.size w dv _ l hraw hm0.size (by omega) rfl) ?_
  rintro e w1 ⟨dv1, rfl, ha1⟩
  refine ⟨dv1, rfl, ?_⟩
  refine step (l1 := l) (by simp) (by simp) hblk hne hm0 hraw ha1 fun w2 b2 d2 n2 m2 k2 => wpR_done ?_
  have c2 := b2.cell 0
  simp only [List.getElem?_cons_zero] at c2
  rw [wpC_seq, wpC_blk]
  refine go1 (v := dv1) rfl (by simp [c2]) ?_
  refine go1 (v := v) rfl (by simp) ?_
  refine go1 (v := .int .i64 (b.length : Nat)) rfl (by simp [ev']) ?_
  refine go1 (v := .int .u32 (b.length : Nat)) rfl (by simp [u32_nat (n := b.length) (by omega)]) ?_
  refine goCall rfl (vs := [dv1, .int .u32 (b.length : Nat)]) (by simp) (kAppendUvarint_call hm h1 h2 h3 (by omega) w0.heap.size w2 dv1 _ _ d2 m2.size (by simp only [List.length_append]; omega) rfl) ?_
  rintro e w3 ⟨dv3, rfl, ha3⟩
  refine ⟨dv3, rfl, ?_⟩
  refine step (l1 := l ++ uvE k) (by simp) (by simp) b2 n2 m2 d2 ha3 fun w4 b4 d4 n4 m4 k4 => wpR_done ?_
  have c4 := b4.cell 0
  simp only [List.getElem?_cons_zero] at c4
  have hv4 : SlC anyB w4 v b.length (u8s b) := by
    have : SlC (fun b => b < w0.heap.size) w1 v b.length (u8s b) := hv.mod ha1.mod (fun x hx hc => by have := (hraw.own (b := x) (by simpa using hx)).1; omega) fun _ _ h => h
    have : SlC (fun b => b < w0.heap.size) w2 v b.length (u8s b) := this.mod k2 (by simp; omega) fun _ _ h => h
    have : SlC (fun b => b < w0.heap.size) w3 v b.length (u8s b) := this.mod ha3.mod (fun x hx hc => by have := (d2.own (b := x) (by simpa using hx)).1; omega) fun _ _ h => h
    exact this.mod k4 (by simp; omega) fun _ _ _ => trivial
  rw [wpC_blk]
  refine go1 (v := dv3) rfl (by simp [c4]) ?_
  refine go1 (v := v) rfl (by simp) ?_
  refine goC rfl ?_
  refine append_run (n0 := w0.heap.size) (v := dv3) (by simp) d4 m4.size (k := b) (by simpa using hv4.src) (by simp only [List.length_append]; omega) fun dv5 w5 ha5 => ?_
  refine step (l1 := l ++ uvE k ++ uvE b.length) (by simp) (by simp) b4 n4 m4 d4 ha5 fun w6 b6 d6 n6 m6 k6 => goEnd ?_
  simp only [postC, rvals, List.mapM_nil, Option.pure_def, tup]
  refine ⟨trivial, ⟨⟨dv5, b6, by simpa [List.append_assoc] using d6, n6⟩, m6⟩, fun S hS hown => ?_⟩
  have c6 := b6.cell 0
  simp only [List.getElem?_cons_zero] at c6
  -- what may have turned
  have tr : ∀ {wa wb : World} {da db : Value} {la : List UInt8}, Mod S w wa → AppD w0.heap.size wa da wb db la → (∀ x, ownB da = some x → x ∈ S ∨ w.heap.size ≤ x) → Mod S w wb := by
    intro wa wb da db la hma ha ho
    cases hda : ownB da with
    | none => have := ha.mod; rw [hda] at this; exact hma.trans this.nil
    | some x =>
      have hmd := ha.mod
      rw [hda] at hmd
      rcases ho x hda with h | h
      · exact hma.trans (hmd.mono (by simpa using h))
      · exact Mod.drop (b := x) ((hma.mono (by intro y hy; exact List.mem_cons_of_mem _ hy)).trans (hmd.mono (by simp))) h
  have o0 : ∀ x, ownB dv = some x → x ∈ S ∨ w.heap.size ≤ x := fun x hx => .inl (hown dv c0 x hx)
  have q1 := tr (Mod.refl S w) ha1 o0
  have q2 : Mod S w w2 := q1.trans (k2.mono (by simpa using hS))
  have o1 : ∀ x, ownB dv1 = some x → ownB dv = some x ∨ w.heap.size ≤ x := fun x hx => ha1.own x hx
  have q3 := tr q2 ha3 fun x hx => (o1 x hx).imp (fun h => hown dv c0 x h) id
  have q4 : Mod S w w4 := q3.trans (k4.mono (by simpa using hS))
  have o3 : ∀ x, ownB dv3 = some x → ownB dv = some x ∨ w.heap.size ≤ x := fun x hx => by
    rcases ha3.own x hx with h | h
    · exact o1 x h
    · exact .inr (Nat.le_trans q2.size h)
  have q5 := tr q4 ha5 fun x hx => (o3 x hx).imp (fun h => hown dv c0 x h) id
  have q6 : Mod S w w6 := q5.trans (k6.mono (by simpa using hS))
  refine ⟨q6, fun da db hda hdb x hx => ?_⟩
  rw [c0] at hda
  rw [c6] at hdb
  simp only [Option.some.injEq] at hda hdb
  subst hda; subst hdb
  rcases ha5.own x hx with h | h
  · exact o3 x h
  · exact .inr (Nat.le_trans q4.size h)
theorem tAppendEach_call (hm : P.follows .mixedOrders = true) (h : liftF P (F tAppendEach) = some (ir_tAppendEach F)) (hcb : liftF P (F tAppendEach1) = some (ir_tAppendEach1 F)) (hbody : hasBody P (F tAppendEach1) = true) (he : liftF P (F tEach) = some (ir_tEach F)) (hsort : SortC P (F sortSlice) (F tEach1) (F tyU32s))
    (h1 : liftF P (F kAppendUvarint) = some (ir_kAppendUvarint F)) (h2 : liftF P (F kUvarintLen) = some (ir_kUvarintLen F)) (h3 : liftF P (F bLen32) = some (ir_bLen32 F))
    {w0 w : World} {B o : Nat} {dv v : Value} {l : List UInt8} {m : List (Nat × List UInt8)} (hm0 : Mod [] w0 w) (hd : DRaw w w0.heap.size dv l) (hlen : l.length + (tagsR (sortT m)).length ≤ lim)
    (hc : w0.cell? ⟨B, o, none⟩ = some v) (hM : TagM anyB w0 v m) (hml : m.length ≤ 2147483647) (hmv : ∀ p ∈ m, p.2.length ≤ 2147483647) :
    Calls P (F tAppendEach) [.pointer (some ⟨B, o, none⟩), dv].toArray w fun e w' => ∃ dv', e = .returned dv' ∧ DRaw w' w0.heap.size dv' (l ++ tagsR (sortT m)) ∧ Mod [] w0 w' := by
  have hBl : B < w0.heap.size := World.block_lt_of_cell? w0 ⟨B, o, none⟩ hc
  unfold ir_tAppendEach at h
  refine call_of h hm (by simp) ?_
  clear h
  rw [wpC_seq, wpC_blk]
  have hone := hd.one
  refine goBox (v := dv) (by simp) fun w1 hb1 hm1 => ?_
  have hb1 : Blk w1 w.heap.size [dv] := by rw [hone.1] at hb1; simpa using hb1
  have hm01 := hm0.trans hm1
  refine go1 rfl rfl (wpR_done ?_)
  rw [wpC_seq, wpC_blk]
  refine go1 (v := .pointer (some ⟨B, o, none⟩)) rfl (by simp) ?_
  refine go1 (v := .func (.func (F tAppendEach1)) #[] #[.pointer (some ⟨w.heap.size, 0, none⟩)]) rfl (by simp) ?_
  have hne : ownB dv ≠ some w.heap.size := fun e => by have := (hd.own e).2; omega
  have hM1 : TagM (fun b => b < w0.heap.size) w1 v m := by
    rcases hM with h | ⟨r, e, hr⟩
    · exact .inl h
    · refine .inr ⟨r, e, ?_⟩
      have := hr.mod (ok' := fun b => b < w0.heap.size) (Mod.refl [] w0) (by simp) (by simp) fun b hb _ => hb
      exact this.mod hm01 (by simp) (by simp) fun _ _ h => h
  have hrl : ∀ r, v = .map (some r) → r < w0.heap.size := by
    intro r e
    rcases hM with ⟨h, -⟩ | ⟨r', e', hr⟩
    · rw [h] at e; cases e
    · rw [e'] at e; cases e; exact hr.lt
  have hcb' : EachCB P w1 (w.heap.size :: (ownB dv).toList) (fun b => b < w0.heap.size) (F tAppendEach1) [.pointer (some ⟨w.heap.size, 0, none⟩)]
      (fun wN done w2 => DV w0 w2 w.heap.size (l ++ tagsR done) ∧ ∀ d, w2.cell? ⟨w.heap.size, 0, none⟩ = some d → ∀ x, ownB d = some x → ownB dv = some x ∨ wN.heap.size ≤ x) (sortT m) := by
    rintro wN done k b w2 vv ⟨r, hall⟩ hmN ⟨hD, hown⟩ hdl hmS hk hb hvv
    have hl2 : (l ++ tagsR done).length + (uvE k ++ (uvE b.length ++ b)).length ≤ lim := by
      have : tagsR (sortT m) = tagsR done ++ ((uvE k ++ (uvE b.length ++ b)) ++ tagsR r) := by
        rw [hall]; simp only [tagsR, List.flatMap_append, List.flatMap_cons]
      rw [this] at hlen
      simp only [List.length_append] at hlen ⊢
      omega
    refine (appEach_cb hm hcb h1 h2 h3 hD hm0.size hk hb hvv hl2).mono ?_
    rintro e w3 ⟨rfl, hD3, hS3⟩
    obtain ⟨d2, hbd2, hrd2, hnd2⟩ := hD.ex
    have c2 := hbd2.cell 0
    simp only [List.getElem?_cons_zero] at c2
    have ho2 := hown d2 c2
    obtain ⟨q1, q2⟩ := hS3 (w.heap.size :: (ownB d2).toList) (by simp) (fun d hd x hx => by rw [c2] at hd; simp only [Option.some.injEq] at hd; subst hd; simp [hx])
    have e1 : l ++ tagsR (done ++ [(k, b)]) = l ++ tagsR done ++ (uvE k ++ (uvE b.length ++ b)) := by
      simp [tagsR, List.flatMap_append]
    refine ⟨rfl, ⟨by rw [e1]; exact hD3, fun d hd x hx => ?_⟩, ?_⟩
    · rcases q2 d2 d c2 hd x hx with h | h
      · exact ho2 x h
      · exact .inr (Nat.le_trans hmS.size h)
    · cases hx : ownB d2 with
      | none =>
        rw [hx] at q1
        exact hmS.trans (q1.mono (by simp))
      | some x =>
        rw [hx] at q1
        rcases ho2 x hx with h | h
        · exact hmS.trans (q1.mono (by simp [h]))
        · exact Mod.drop (b := x) ((hmS.mono (by intro y hy; exact List.mem_cons_of_mem _ hy)).trans (q1.mono (by simp))) h
  refine goCall rfl (vs := [.pointer (some ⟨B, o, none⟩), .func (.func (F tAppendEach1)) #[] [Value.pointer (some ⟨w.heap.size, 0, none⟩)].toArray]) (by simp)
    (tEach_call hm he hsort hcb' hbody (cell_mod hc hm01 (by simp)) hM1 hml hmv (by
      simp only [List.mem_cons, not_or]
      refine ⟨by have := hm0.size; omega, fun h => ?_⟩
      have := (hd.own (b := B) (by simpa using h)).1; omega) (fun r e => by
      have hr := hrl r e
      simp only [List.mem_cons, not_or]
      refine ⟨by have := hm0.size; omega, fun h => ?_⟩
      have := (hd.own (b := r) (by simpa using h)).1; omega) (fun b hb => by
      rcases List.mem_cons.1 hb with rfl | hb
      · exact hb1.lt
      · have := (hd.own (b := b) (by simpa using hb)).2; exact Nat.lt_of_lt_of_le this hm1.size) (fun b hb hx => by
      rcases List.mem_cons.1 hb with rfl | hb
      · have := hm0.size; omega
      · have := (hd.own (b := b) (by simpa using hb)).1; omega)
      (fun wN hmN => ⟨⟨⟨dv, hb1.mod hmN (by simp), by simpa [tagsR] using (hd.keep' hm1).keep' hmN, hne⟩, hm01.trans hmN⟩, fun d hdd x hx => by
        have := (hb1.mod hmN (by simp)).cell 0
        simp only [List.getElem?_cons_zero] at this
        rw [this] at hdd
        simp only [Option.some.injEq] at hdd
        subst hdd
        exact .inl hx⟩)) ?_
  rintro e w2 ⟨rfl, wN, hmN, ⟨hD, hown⟩, hmS⟩
  refine ⟨_, rfl, wpR_done ?_⟩
  obtain ⟨d2, hbd2, hrd2, hnd2⟩ := hD.ex
  have c2 := hbd2.cell 0
  simp only [List.getElem?_cons_zero] at c2
  rw [wpC_seq, wpC_blk]
  refine go1 (v := d2) rfl (by simp [c2]) ?_
  exact go1 (v := d2) rfl (by simp) (wpR_done (ret1 (v := d2) (by simp) ⟨d2, rfl, hrd2, hD.mod⟩))
end
end Go.Msk

namespace Go.Msk
open Go.RowKit
set_option maxRecDepth 100000
def encP (p : PK) (x : Bool) (g : GV) : List UInt8 :=
  match p, g with
  | .bool, .num (.bool b) => [if b then 1 else 0]
  | .i8, .num (.int _ n) => beI 1 n
  | .i16, .num (.int _ n) => beI 2 n
  | .u16, .num (.int _ n) => beI 2 n
  | .i32, .num (.int _ n) => beI 4 n
  | .i64, .num (.int _ n) => beI 8 n
  | .uuid, .arr l => l
  | .str, .num (.string s) => if x then uvE (s.data.toList.length + 1) ++ s.data.toList else beI 2 s.data.toList.length ++ s.data.toList
  | .nstr, .nstr o => encNStr x o
  | .byt, .byt o => if x then uvE ((o.getD []).length + 1) ++ o.getD [] else beI 4 (o.getD []).length ++ o.getD []
  | _, _ => []
def FitP (p : PK) (g : GV) : Prop :=
  match p with
  | .bool => ∃ b, g = .num (.bool b)
  | .i8 => ∃ n, g = .num (.int .i8 n)
  | .i16 => ∃ n, g = .num (.int .i16 n)
  | .u16 => ∃ n, g = .num (.int .u16 n) ∧ 0 ≤ n ∧ n < 65536
  | .i32 => ∃ n, g = .num (.int .i32 n)
  | .i64 => ∃ n, g = .num (.int .i64 n)
  | .uuid => ∃ l, g = .arr l ∧ l.length = 16
  | .str => ∃ l, g = .num (str l) ∧ l.length < 4294967295
  | .nstr => ∃ o, g = .nstr o ∧ ∀ s, o = some s → s.length < 4294967295
  | .byt => ∃ o, g = .byt o ∧ ∀ s, o = some s → s.length < 4294967295
  | _ => False
def encLen (nul x isnil : Bool) (n : Nat) : List UInt8 :=
  if x then (if nul && isnil then [0] else uvE (n + 1)) else if nul && isnil then beI 4 (-1) else beI 4 n
def ApF (P : Program) (f : FuncId) (p : PK) (x : Bool) : Prop :=
  ∀ (w0 w : World) (dv v : Value) (l : List UInt8) (g : GV), FitP p g → Rep [] w0 g [v] → Mod [] w0 w → DRaw w w0.heap.size dv l → l.length + (encP p x g).length ≤ lim →
    Calls P f [dv, v].toArray w fun e w' => ∃ dv', e = .returned dv' ∧ DRaw w' w0.heap.size dv' (l ++ encP p x g) ∧ Mod [] w0 w'
def ApL (P : Program) (f : FuncId) (nul x : Bool) : Prop :=
  ∀ (w0 w : World) (dv : Value) (l : List UInt8) (n : Nat) (isnil : Bool), n < 4294967295 → Mod [] w0 w → DRaw w w0.heap.size dv l → l.length + (encLen nul x isnil n).length ≤ lim →
    Calls P f ((dv :: .int .i64 (n : Nat) :: if nul then [Value.bool isnil] else []).toArray) w fun e w' => ∃ dv', e = .returned dv' ∧ DRaw w' w0.heap.size dv' (l ++ encLen nul x isnil n) ∧ Mod [] w0 w'
section
variable {P : Program} {F : Nat → Nat} {f : FuncId}
attribute [local simp] gOk updo upd ev RK.val? isShift intBin Addr.add_mk args0 Value.cells undef
theorem ApF.bool (h : ∀ b, AppK P f (fun _ v => v = .bool b) [if b then 1 else 0]) (x : Bool) : ApF P f .bool x := by
  rintro w0 w dv v l g ⟨b, rfl⟩ hr hm hd hl
  cases hr with | num h1 => exact h b w0 w dv _ l hm hd hl rfl
theorem ApF.int {p : PK} {k : IntKind} {m : Nat} {x : Bool} (hp : (p = .i8 ∧ k = .i8 ∧ m = 1) ∨ (p = .i16 ∧ k = .i16 ∧ m = 2) ∨ (p = .i32 ∧ k = .i32 ∧ m = 4) ∨ (p = .i64 ∧ k = .i64 ∧ m = 8)) (h : ∀ n, AppK P f (fun _ v => v = .int k n) (beI m n)) : ApF P f p x := by
  intro w0 w dv v l g hf hr hm hd hl
  rcases hp with ⟨rfl, rfl, rfl⟩ | ⟨rfl, rfl, rfl⟩ | ⟨rfl, rfl, rfl⟩ | ⟨rfl, rfl, rfl⟩ <;> obtain ⟨n, rfl⟩ := hf <;> cases hr with | num h1 => exact h n w0 w dv _ l hm hd hl rfl
theorem ApF.u16 {x : Bool} (h : ∀ n : Int, 0 ≤ n → n < 65536 → AppK P f (fun _ v => v = .int .u16 n) (beI 2 n)) : ApF P f .u16 x := by
  rintro w0 w dv v l g ⟨n, rfl, h1, h2⟩ hr hm hd hl
  cases hr with | num h3 => exact h n h1 h2 w0 w dv _ l hm hd hl rfl
theorem ApF.str {x : Bool} (h : ∀ s : List UInt8, s.length < 4294967295 → AppK P f (fun _ v => v = str s) (if x then uvE (s.length + 1) ++ s else beI 2 s.length ++ s)) : ApF P f .str x := by
  rintro w0 w dv v l g ⟨s, rfl, h1⟩ hr hm hd hl
  have e : encP .str x (.num (Msk.str s)) = if x then uvE (s.length + 1) ++ s else beI 2 s.length ++ s := rfl
  rw [e] at hl ⊢
  cases hr with | num h3 => exact h s h1 w0 w dv _ l hm hd hl rfl
theorem ApF.nstr {x : Bool} (h : ∀ o : Option (List UInt8), (∀ s, o = some s → s.length < 4294967295) → AppK P f (NStr o) (encNStr x o)) : ApF P f .nstr x := by
  rintro w0 w dv v l g ⟨o, rfl, h1⟩ hr hm hd hl
  refine h o h1 w0 w dv v l hm hd hl ?_
  cases hr with
  | nstr0 => exact rfl
  | nstr1 hb hcell => exact ⟨_, rfl, hcell⟩
theorem OctX.sl {O : List Nat} {w : World} {v : Value} {o : Option (List UInt8)} (h : OctX O w v o) : SlC anyB w v (o.getD []).length (u8s (o.getD [])) := by
  cases o with
  | none => have := h.1; simp only [IsOct] at this; subst this; exact SlC.nil
  | some l =>
    obtain ⟨a, n, c, rfl, hb⟩ := h.1
    obtain ⟨h1, h2, h3, h4⟩ := hb
    exact ⟨some a, c, by simp [h1], by simp [← h1]; omega, by simp, fun a' e _ => by cases e; exact ⟨trivial, (h.2 _ _ _ rfl).2, h4 _ rfl⟩⟩
theorem ApF.byt {x : Bool} (h : ∀ s : List UInt8, s.length < 4294967295 → AppK P f (fun w v => SlC anyB w v s.length (u8s s)) (if x then uvE (s.length + 1) ++ s else beI 4 s.length ++ s)) : ApF P f .byt x := by
  rintro w0 w dv v l g ⟨o, rfl, h1⟩ hr hm hd hl
  have e : encP .byt x (.byt o) = if x then uvE ((o.getD []).length + 1) ++ o.getD [] else beI 4 (o.getD []).length ++ o.getD [] := rfl
  rw [e] at hl ⊢
  cases hr with
  | byt ho =>
    refine h _ ?_ w0 w dv v l hm hd hl ho.sl
    cases o with
    | none => simp
    | some s => exact h1 s rfl
theorem tLen_call (hm : P.follows .mixedOrders = true) (h : liftF P f = some (.seq (.blk [⟨some 2, .mv (.const (.int .i64 0)), none⟩]) (.seq (.blk [⟨some 3, .mv (.tmp 0), none⟩, ⟨some 4, .nilc (.tmp 3), none⟩, ⟨some 5, .fad (.tmp 4) 0, none⟩, ⟨some 6, .ld (.tmp 5), none⟩, ⟨some 7, .mlen (.tmp 6), none⟩, ⟨some 2, .mv (.tmp 7), none⟩]) .ret), [.tmp 2], 8))
    {ok : Nat → Prop} {w : World} {B o : Nat} {v : Value} {m : List (Nat × List UInt8)} (hc : w.cell? ⟨B, o, none⟩ = some v) (hM : TagM ok w v m) :
    Calls P f [.pointer (some ⟨B, o, none⟩)].toArray w fun e w' => e = .returned (.int .i64 (m.length : Nat)) ∧ w' = w := by
  refine call_of h hm (by simp) ?_
  clear h
  rw [wpC_seq, wpC_blk]
  refine go1 rfl rfl (wpR_done ?_)
  rw [wpC_seq, wpC_blk]
  refine go1 (v := .pointer (some ⟨B, o, none⟩)) rfl (by simp) ?_
  refine go1 (v := .pointer (some ⟨B, o, none⟩)) rfl (by simp) ?_
  refine go1 (v := .pointer (some ⟨B, o, none⟩)) rfl (by simp) ?_
  refine go1 (v := v) rfl (by simp [hc]) ?_
  have hml : ∀ (σ : Sl) (x : Nat) (K : Value → World → Prop), σ x = v → K (.int .i64 (m.length : Nat)) w → (RK.mlen (.tmp x)).run P σ w K := by
    intro σ x K hx hK
    rcases hM with ⟨rfl, rfl⟩ | ⟨r, rfl, hr⟩
    · simp only [RK.run, ev, hx]; exact hK
    · obtain ⟨es, clock, h1, h2, -⟩ := hr.ex
      have hl : ∀ {es : List MapEntry} {m : List (Nat × List UInt8)}, EntL ok w es m → es.length = m.length := by
        intro es m h
        induction h with
        | nil => rfl
        | cons _ _ _ _ ih => simp [ih]
      have e1 : es.size = m.length := by simpa using hl h2
      simp only [RK.run, ev, hx, h1, e1]; exact hK
  refine goC rfl (hml _ _ _ (by simp) ?_)
  refine go1 (v := .int .i64 (m.length : Nat)) rfl (by simp) (wpR_done ?_)
  exact ret1 (v := .int .i64 (m.length : Nat)) (by simp) ⟨rfl, rfl⟩
end
end Go.Msk

namespace Go.Msk
open Go.RowKit
set_option maxRecDepth 100000
mutual
/-- How many cells a value has. -/
def GV.wid : GV → Nat
  | .arr l => l.length
  | .rcd l => GV.wids l
  | _ => 1
def GV.wids : List GV → Nat
  | [] => 0
  | g :: l => g.wid + GV.wids l
end
theorem Rep.wid {O : List Nat} {w : World} {g : GV} {cs : List Value} (h : Rep O w g cs) : cs.length = g.wid := by
  refine Rep.rec (motive_1 := fun g cs _ => cs.length = g.wid) (motive_2 := fun l css _ => css.flatten.length = GV.wids l) ?_ ?_ ?_ ?_ ?_ ?_ ?_ ?_ ?_ ?_ ?_ ?_ h
  all_goals intros; simp_all [GV.wid, GV.wids, u8s]
end Go.Msk

namespace Go.Msk
open Go.RowKit
set_option maxRecDepth 100000
structure AC where
  f : FuncId
  g : Option FuncId
  deriving Inhabited
def AC.sel (a : AC) (x : Bool) : FuncId := match a.g with | none => a.f | some g => if x then a.f else g
def AC.fx (a : AC) : Bool := a.g.isSome
def acB (t y : Nat) (f : FuncId) : IC := .blk [⟨some t, .mv (.tmp 1), none⟩, ⟨some (t + 1), .mv (.tmp y), none⟩, ⟨some (t + 2), .call f [.tmp t, .tmp (t + 1)], none⟩, ⟨some 1, .mv (.tmp (t + 2)), none⟩]
def AC.gen (t y : Nat) (a : AC) : List IC :=
  match a.g with
  | none => [acB t y a.f]
  | some g => [.blk [⟨some t, .mv (.tmp 6), none⟩], .cond (.tmp t) (acB (t + 1) y a.f) (acB (t + 4) y g)]
def AC.nt (a : AC) : Nat := match a.g with | none => 3 | some _ => 7
def lcB (nul : Bool) (t y : Nat) (f : FuncId) : IC :=
  if nul then .blk [⟨some t, .mv (.tmp 1), none⟩, ⟨some (t + 1), .mv (.tmp y), none⟩, ⟨some (t + 2), .len (.tmp (t + 1)), none⟩, ⟨some (t + 3), .mv (.tmp y), none⟩, ⟨some (t + 4), .isnil .sl false (.tmp (t + 3)), none⟩, ⟨some (t + 5), .call f [.tmp t, .tmp (t + 2), .tmp (t + 4)], none⟩, ⟨some 1, .mv (.tmp (t + 5)), none⟩]
  else .blk [⟨some t, .mv (.tmp 1), none⟩, ⟨some (t + 1), .mv (.tmp y), none⟩, ⟨some (t + 2), .len (.tmp (t + 1)), none⟩, ⟨some (t + 3), .call f [.tmp t, .tmp (t + 2)], none⟩, ⟨some 1, .mv (.tmp (t + 3)), none⟩]
def lcN (nul : Bool) : Nat := if nul then 6 else 4
def AC.lgen (nul : Bool) (t y : Nat) (a : AC) : IC :=
  match a.g with
  | none => lcB nul t y a.f
  | some g => .seq (.blk [⟨some t, .mv (.tmp 6), none⟩]) (.cond (.tmp t) (lcB nul (t + 1) y a.f) (lcB nul (t + 1 + lcN nul) y g))
def AC.lnt (nul : Bool) (a : AC) : Nat := match a.g with | none => lcN nul | some _ => 1 + 2 * lcN nul
def lstA (v t nb nx : Nat) (body : List IC) : List IC :=
  [.blk [⟨some t, .mv (.tmp v), none⟩, ⟨some (t + 1), .len (.tmp t), none⟩, ⟨some (t + 2), .mv (.const (.int .i64 0)), none⟩],
   .block nb (.loop (.seq (.blk [⟨some (t + 3), .bin .lss (.tmp (t + 2)) (.tmp (t + 1)), none⟩]) (.seq (.cond (.tmp (t + 3)) .skip (.exit nb)) (.seq (.block (nb + 1) (seqs (.blk [⟨some (t + 4), .mv (.tmp (t + 2)), none⟩, ⟨some (v + 1), .mv (.tmp (t + 4)), none⟩] :: body)))
     (.blk [⟨some nx, .bin .add (.tmp (t + 2)) (.const (.int .i64 1)), none⟩, ⟨some (t + 2), .mv (.tmp nx), none⟩])))))]
inductive Ap where
  | nil
  | prm (vc : VC) (cp : Bool) (p : PK) (a : AC) (rest : Ap)
  | uid (vc : VC) (f : FuncId) (rest : Ap)
  | vst (vc : VC) (V : Int) (a1 a2 : AC) (rest : Ap)
  | lsp (vc : VC) (nul : Bool) (ln : AC) (p : PK) (a : AC) (rest : Ap)
  | lss (vc : VC) (nul : Bool) (ln : AC) (sz : Nat) (body rest : Ap)
  | sub (vc : VC) (sz : Nat) (body rest : Ap)
  | tags (ln uv ap : FuncId)
  deriving Inhabited
def Ap.nv : Ap → Nat
  | .nil => 0
  | .prm _ cp _ _ rest => (if cp then 2 else 1) + rest.nv
  | .uid _ _ rest => 1 + rest.nv
  | .vst _ _ _ _ rest => 3 + rest.nv
  | .lsp _ _ _ _ _ rest => 3 + rest.nv
  | .lss _ _ _ _ body rest => 3 + body.nv + rest.nv
  | .sub _ _ body rest => 1 + body.nv + rest.nv
  | .tags _ _ _ => 0
def Ap.nb : Ap → Nat
  | .nil => 0
  | .prm _ _ _ _ rest => rest.nb
  | .uid _ _ rest => rest.nb
  | .vst _ _ _ _ rest => rest.nb
  | .lsp _ _ _ _ _ rest => 2 + rest.nb
  | .lss _ _ _ _ body rest => 2 + body.nb + rest.nb
  | .sub _ _ body rest => body.nb + rest.nb
  | .tags _ _ _ => 0
def Ap.nt : Ap → Nat
  | .nil => 0
  | .prm vc cp _ a rest => vc.nt + (4 + (if cp then 1 else 0) + a.nt) + rest.nt
  | .uid vc _ rest => vc.nt + 7 + rest.nt
  | .vst vc _ a1 a2 rest => vc.nt + (12 + a1.nt + a2.nt) + rest.nt
  | .lsp vc nul ln _ a rest => vc.nt + (4 + ln.lnt nul + (9 + a.nt + 1)) + rest.nt
  | .lss vc nul ln _ body rest => vc.nt + (4 + ln.lnt nul + (8 + body.nt + 1)) + rest.nt
  | .sub vc _ body rest => vc.nt + (3 + body.nt) + rest.nt
  | .tags _ _ _ => 14
def E0 : RE := ⟨0, 5, 6, 2, 4, true, 0, 0⟩
def z16 : List Value := List.replicate 16 (.int .u8 0)
def vstA (sp off nv : Nat) (V : Int) (a1 a2 : AC) (t : Nat) : IC :=
  seqs [ldF sp nv t off, .blk [⟨some (t + 4), .mv (.tmp 5), none⟩, ⟨some (t + 5), .bin .lss (.tmp (t + 4)) (.const (.int .i16 V)), none⟩],
    .cond (.tmp (t + 5))
      (seqs (.blk [⟨some (nv + 1), .mv (.const (.string .empty)), none⟩] ::
        .seq (.blk [⟨some (t + 6), .mv (.tmp nv), none⟩, ⟨some (t + 7), .isnil .pt true (.tmp (t + 6)), none⟩])
          (.cond (.tmp (t + 7)) (.blk [⟨some (t + 8), .mv (.tmp nv), none⟩, ⟨some (t + 9), .nilc (.tmp (t + 8)), none⟩, ⟨some (t + 10), .ld (.tmp (t + 9)), none⟩, ⟨some (nv + 1), .mv (.tmp (t + 10)), none⟩]) .skip) ::
        .blk [⟨some (t + 11), .mv (.tmp (nv + 1)), none⟩, ⟨some (nv + 2), .mv (.tmp (t + 11)), none⟩] :: a1.gen (t + 12) (nv + 2)))
      (seqs (a2.gen (t + 12 + a1.nt) nv))]
def Ap.gen : Ap → (sp off nv nt nb : Nat) → List IC
  | .nil, _, _, _, _, _ => []
  | .prm vc cp _ a rest, sp, off, nv, nt, nb =>
    vc.wrap E0 nt (fun t => seqs (ldF sp nv t off :: (if cp then cpF nv (nv + 1) (t + 4) :: a.gen (t + 5) (nv + 1) else a.gen (t + 4) nv))) ::
      rest.gen sp (off + 1) (nv + (if cp then 2 else 1)) (nt + (vc.nt + (4 + (if cp then 1 else 0) + a.nt))) nb
  | .uid vc f rest, sp, off, nv, nt, nb =>
    vc.wrap E0 nt (fun t => .seq (.blk [⟨some t, .mv (.tmp sp), none⟩, ⟨some (t + 1), .nilc (.tmp t), none⟩, ⟨some (t + 2), .fad (.tmp (t + 1)) off, none⟩, ⟨some (t + 3), .ldn (.tmp (t + 2)) 16, none⟩, ⟨some nv, .alloc z16, none⟩, ⟨none, .st (.tmp nv) 16 (.tmp (t + 3)), none⟩])
      (.blk [⟨some (t + 4), .mv (.tmp 1), none⟩, ⟨some (t + 5), .ldn (.tmp nv) 16, none⟩, ⟨some (t + 6), .call f [.tmp (t + 4), .tmp (t + 5)], none⟩, ⟨some 1, .mv (.tmp (t + 6)), none⟩])) ::
      rest.gen sp (off + 16) (nv + 1) (nt + (vc.nt + 7)) nb
  | .vst vc V a1 a2 rest, sp, off, nv, nt, nb =>
    vc.wrap E0 nt (fun t => vstA sp off nv V a1 a2 t) :: rest.gen sp (off + 1) (nv + 3) (nt + (vc.nt + (12 + a1.nt + a2.nt))) nb
  | .lsp vc nul ln _ a rest, sp, off, nv, nt, nb =>
    vc.wrap E0 nt (fun t => seqs (ldF sp nv t off :: ln.lgen nul (t + 4) nv :: lstA nv (t + 4 + ln.lnt nul) nb (t + 4 + ln.lnt nul + 9 + a.nt)
      (.blk [⟨some (t + 4 + ln.lnt nul + 5), .mv (.tmp nv), none⟩, ⟨some (t + 4 + ln.lnt nul + 6), .mv (.tmp (nv + 1)), none⟩, ⟨some (t + 4 + ln.lnt nul + 7), .iad (.tmp (t + 4 + ln.lnt nul + 5)) (.tmp (t + 4 + ln.lnt nul + 6)) 1, none⟩, ⟨some (t + 4 + ln.lnt nul + 8), .ld (.tmp (t + 4 + ln.lnt nul + 7)), none⟩, ⟨some (nv + 2), .mv (.tmp (t + 4 + ln.lnt nul + 8)), none⟩] ::
        a.gen (t + 4 + ln.lnt nul + 9) (nv + 2)))) ::
      rest.gen sp (off + 1) (nv + 3) (nt + (vc.nt + (4 + ln.lnt nul + (9 + a.nt + 1)))) (nb + 2)
  | .lss vc nul ln sz body rest, sp, off, nv, nt, nb =>
    vc.wrap E0 nt (fun t => seqs (ldF sp nv t off :: ln.lgen nul (t + 4) nv :: lstA nv (t + 4 + ln.lnt nul) nb (t + 4 + ln.lnt nul + 8 + body.nt)
      (.blk [⟨some (t + 4 + ln.lnt nul + 5), .mv (.tmp nv), none⟩, ⟨some (t + 4 + ln.lnt nul + 6), .mv (.tmp (nv + 1)), none⟩, ⟨some (t + 4 + ln.lnt nul + 7), .iad (.tmp (t + 4 + ln.lnt nul + 5)) (.tmp (t + 4 + ln.lnt nul + 6)) sz, none⟩, ⟨some (nv + 2), .mv (.tmp (t + 4 + ln.lnt nul + 7)), none⟩] ::
        body.gen (nv + 2) 0 (nv + 3) (t + 4 + ln.lnt nul + 8) (nb + 2)))) ::
      rest.gen sp (off + 1) (nv + (3 + body.nv)) (nt + (vc.nt + (4 + ln.lnt nul + (8 + body.nt + 1)))) (nb + (2 + body.nb))
  | .sub vc sz body rest, sp, off, nv, nt, nb =>
    vc.wrap E0 nt (fun t => seqs (.blk [⟨some t, .mv (.tmp sp), none⟩, ⟨some (t + 1), .nilc (.tmp t), none⟩, ⟨some (t + 2), .fad (.tmp (t + 1)) off, none⟩, ⟨some nv, .mv (.tmp (t + 2)), none⟩] :: body.gen nv 0 (nv + 1) (t + 3) nb)) ::
      rest.gen sp (off + sz) (nv + (1 + body.nv)) (nt + (vc.nt + (3 + body.nt))) (nb + body.nb)
  | .tags ln uv ap, sp, off, _, t, _ =>
    [.seq (.blk [⟨some t, .mv (.tmp 6), none⟩]) (.cond (.tmp t)
      (.seq (.blk [⟨some (t + 1), .mv (.tmp 1), none⟩, ⟨some (t + 2), .mv (.tmp sp), none⟩, ⟨some (t + 3), .nilc (.tmp (t + 2)), none⟩, ⟨some (t + 4), .fad (.tmp (t + 3)) off, none⟩, ⟨some (t + 5), .call ln [.tmp (t + 4)], none⟩, ⟨some (t + 6), .conv .u32 (.tmp (t + 5)), none⟩,
          ⟨some (t + 7), .bin .add (.const (.int .u32 0)) (.tmp (t + 6)), none⟩, ⟨some (t + 8), .call uv [.tmp (t + 1), .tmp (t + 7)], none⟩, ⟨some 1, .mv (.tmp (t + 8)), none⟩])
        (.blk [⟨some (t + 9), .mv (.tmp sp), none⟩, ⟨some (t + 10), .nilc (.tmp (t + 9)), none⟩, ⟨some (t + 11), .fad (.tmp (t + 10)) off, none⟩, ⟨some (t + 12), .mv (.tmp 1), none⟩, ⟨some (t + 13), .call ap [.tmp (t + 11), .tmp (t + 12)], none⟩, ⟨some 1, .mv (.tmp (t + 13)), none⟩])) .skip)]
structure ATop where
  flex : Option Int
  ap : Ap
  deriving Inhabited
def ATop.n0 (T : ATop) : Nat := if T.flex.isSome then 7 else 6
def ATop.t0 (T : ATop) : Nat := T.n0 + T.ap.nv
def ATop.tf (T : ATop) : Nat := T.t0 + 5 + (if T.flex.isSome then 3 else 0)
def ATop.gen (T : ATop) : IC × List RV × Nat :=
  (seqs ([.blk [⟨some 4, .mv (.const (.slice none 0 0)), none⟩], ldF 0 5 T.t0 0, .blk [⟨some (T.t0 + 4), .mv (.tmp 5), none⟩]] ++
    ((match T.flex with
      | none => []
      | some n => [.blk [⟨some (T.t0 + 5), .mv (.tmp 5), none⟩, ⟨some (T.t0 + 6), .bin .geq (.tmp (T.t0 + 5)) (.const (.int .i16 n)), none⟩, ⟨some 6, .mv (.tmp (T.t0 + 6)), none⟩], .blk [⟨some (T.t0 + 7), .mv (.tmp 6), none⟩]]) ++
    (T.ap.gen 0 1 T.n0 T.tf 0 ++ [.blk [⟨some (T.tf + T.ap.nt), .mv (.tmp 1), none⟩, ⟨some 4, .mv (.tmp (T.tf + T.ap.nt)), none⟩], .ret]))), [.tmp 4], T.tf + T.ap.nt + 1)
def encV (V ver : Int) (x : Bool) (g : GV) : List UInt8 :=
  if ver < V then (match g with
    | .nstr o => encP .str x (.num (Msk.str (o.getD [])))
    | _ => []) else encP .nstr x g
def Ap.enc (ver : Int) (x : Bool) : Ap → List GV → List UInt8
  | .nil, _ => []
  | .prm vc _ p _ rest, g :: gs => (if vc.holds ver then encP p x g else []) ++ rest.enc ver x gs
  | .uid vc _ rest, g :: gs => (if vc.holds ver then encP .uuid x g else []) ++ rest.enc ver x gs
  | .vst vc V _ _ rest, g :: gs => (if vc.holds ver then encV V ver x g else []) ++ rest.enc ver x gs
  | .lsp vc nul _ p _ rest, g :: gs => (if vc.holds ver then (match g with | .lst isnil _ es => encLen nul x isnil es.length ++ es.flatMap (encP p x) | _ => []) else []) ++ rest.enc ver x gs
  | .lss vc nul _ _ body rest, g :: gs => (if vc.holds ver then (match g with | .lst isnil _ es => encLen nul x isnil es.length ++ es.flatMap (fun g => match g with | .rcd l => body.enc ver x l | _ => []) | _ => []) else []) ++ rest.enc ver x gs
  | .sub vc _ body rest, g :: gs => (if vc.holds ver then (match g with | .rcd l => body.enc ver x l | _ => []) else []) ++ rest.enc ver x gs
  | .tags _ _ _, g :: _ => if x then (match g with | .tag m => uvE m.length ++ tagsR (sortT m) | _ => []) else []
  | _, [] => []
def FitL (sz : Nat) (e : GV → Prop) (g : GV) : Prop := ∃ isnil s es, g = .lst isnil s es ∧ (isnil = false → s = sz) ∧ es.length < 4294967295 ∧ ∀ y ∈ es, e y
def Ap.Fit (ver : Int) : Ap → List GV → Prop
  | .nil, gs => gs = []
  | .prm vc _ p _ rest, gs => ∃ g r, gs = g :: r ∧ g.wid = 1 ∧ (vc.holds ver = true → FitP p g ∧ p ≠ .uuid) ∧ rest.Fit ver r
  | .uid vc _ rest, gs => ∃ g r, gs = g :: r ∧ g.wid = 16 ∧ (vc.holds ver = true → FitP .uuid g) ∧ rest.Fit ver r
  | .vst vc _ _ _ rest, gs => ∃ g r, gs = g :: r ∧ g.wid = 1 ∧ (vc.holds ver = true → FitP .nstr g) ∧ rest.Fit ver r
  | .lsp vc _ _ p _ rest, gs => ∃ g r, gs = g :: r ∧ g.wid = 1 ∧ (vc.holds ver = true → FitL 1 (FitP p) g ∧ p ≠ .uuid) ∧ rest.Fit ver r
  | .lss vc _ _ sz body rest, gs => ∃ g r, gs = g :: r ∧ g.wid = 1 ∧ (vc.holds ver = true → FitL sz (fun y => ∃ l, y = .rcd l ∧ body.Fit ver l) g) ∧ rest.Fit ver r
  | .sub vc sz body rest, gs => ∃ g r, gs = g :: r ∧ g.wid = sz ∧ (vc.holds ver = true → ∃ l, g = .rcd l ∧ body.Fit ver l) ∧ rest.Fit ver r
  | .tags _ _ _, gs => ∃ g, gs = [g] ∧ ∃ m, g = .tag m ∧ m.length ≤ 2147483647 ∧ ∀ p ∈ m, p.2.length ≤ 2147483647
end Go.Msk

namespace Go.Msk
open Go.RowKit
set_option maxRecDepth 100000
def Kp (NV nv nt : Nat) (σ σ' : Sl) : Prop := ∀ j, j ≠ 1 → (j < nv ∨ (NV ≤ j ∧ j < nt)) → σ' j = σ j
theorem Kp.refl {NV nv nt : Nat} (σ : Sl) : Kp NV nv nt σ σ := fun _ _ _ => rfl
theorem Kp.trans {NV nv nt nv' nt' nv'' nt'' : Nat} {σ σ' σ'' : Sl} (h : Kp NV nv nt σ σ') (h' : Kp NV nv' nt' σ' σ'') (a : nv'' ≤ nv) (b : nt'' ≤ nt) (a' : nv'' ≤ nv') (b' : nt'' ≤ nt') : Kp NV nv'' nt'' σ σ'' :=
  fun j h1 h2 => (h' j h1 (h2.imp (fun h => by omega) fun h => by omega)).trans (h j h1 (h2.imp (fun h => by omega) fun h => by omega))
structure AS (w0 : World) (ver : Int) (hf x : Bool) (l : List UInt8) (σ : Sl) (w : World) : Prop where
  d : DRaw w w0.heap.size (σ 1) l
  m : Mod [] w0 w
  v : σ 5 = .int .i16 ver
  x : hf = true → σ 6 = .bool x
def bse (hf : Bool) : Nat := if hf then 7 else 6
theorem AS.keep {w0 : World} {ver : Int} {hf x : Bool} {l l' : List UInt8} {σ σ' : Sl} {w w' : World} {NV nv nt : Nat} (h : AS w0 ver hf x l σ w) (hk : Kp NV nv nt σ σ') (hn : bse hf ≤ nv) (hd : DRaw w' w0.heap.size (σ' 1) l') (hm : Mod [] w0 w') : AS w0 ver hf x l' σ' w' := by
  have h6 : 6 ≤ nv := by unfold bse at hn; split at hn <;> omega
  refine ⟨hd, hm, by rw [hk 5 (by omega) (.inl (by omega))]; exact h.v, fun e => ?_⟩
  subst e
  rw [hk 6 (by omega) (.inl (by simp only [bse, if_true] at hn; omega))]; exact h.x rfl
section
variable {P : Program}
attribute [local simp] gOk updo upd ev RK.val? isShift intBin Addr.add_mk args0 Value.cells undef
theorem wrapA {vc : VC} {f : Nat → IC} {ver : Int} {t : Nat} {σ : Sl} {w : World} {Q : Exit → Sl → World → Prop} (hv : σ 5 = .int .i16 ver) (ht : 5 < t)
    (h1 : vc.holds ver = true → ∀ σ', Ag t σ σ' → wpC P (f (t + vc.nt)) Q σ' w) (h0 : vc.holds ver = false → ∀ σ', Ag t σ σ' → Q .normal σ' w) : wpC P (vc.wrap E0 t f) Q σ w := by
  have hvs : E0.vs = 5 := rfl
  cases vc with
  | all => exact h1 rfl σ (Ag.refl _ _)
  | ge k =>
    simp only [VC.wrap, wpC, wpR, RI.wp, gOk, if_true, RK.run, ev, updo, hvs]
    simp only [upd, if_true, hv, isShift, decide_true, Bool.or_true, intBin, thenC]
    have hag : ∀ v, Ag t σ (fun j => if j = t + 1 then v else if j = t then Value.int .i16 ver else σ j) := fun v j hj => by
      simp only [show j ≠ t by omega, show j ≠ t + 1 by omega, if_false]
    cases hh : decide (ver ≥ k) with
    | true => exact h1 (by simpa [VC.holds] using hh) _ (hag _)
    | false => exact h0 (by simpa [VC.holds] using hh) _ (hag _)
  | rng a b =>
    simp only [VC.wrap, wpC, wpR, RI.wp, gOk, if_true, RK.run, ev, updo, hvs]
    simp only [upd, if_true, hv, isShift, decide_true, Bool.or_true, intBin, thenC, show 5 ≠ t + 2 by omega, show 5 ≠ t + 1 by omega, show 5 ≠ t by omega, if_false, show t + 2 ≠ t + 3 by omega, show t + 2 ≠ t + 4 by omega]
    cases hh : decide (ver ≥ a) with
    | true =>
      simp only [beq_self_eq_true, if_true]
      cases hh2 : decide (ver ≤ b) with
      | true =>
        refine h1 (by simp only [VC.holds, hh, hh2, Bool.and_self]) _ fun j hj => ?_
        simp only [upd, show j ≠ t by omega, show j ≠ t + 1 by omega, show j ≠ t + 2 by omega, show j ≠ t + 3 by omega, show j ≠ t + 4 by omega, show j ≠ t + 5 by omega, if_false]
      | false =>
        refine h0 (by simp only [VC.holds, hh, hh2, Bool.and_false]) _ fun j hj => ?_
        simp only [upd, show j ≠ t by omega, show j ≠ t + 1 by omega, show j ≠ t + 2 by omega, show j ≠ t + 3 by omega, show j ≠ t + 4 by omega, show j ≠ t + 5 by omega, if_false]
    | false =>
      have hbf : (false == true) = false := rfl
      simp only [hbf, Bool.false_eq_true, if_false]
      refine h0 (by simp only [VC.holds, hh, Bool.false_and]) _ fun j hj => ?_
      simp only [upd, show j ≠ t by omega, show j ≠ t + 1 by omega, show j ≠ t + 2 by omega, show j ≠ t + 3 by omega, show j ≠ t + 4 by omega, show j ≠ t + 5 by omega, if_false]
theorem acB_wp {t y n0 : Nat} {f : FuncId} {σ : Sl} {w w0 : World} {l' : List UInt8} {Q : Exit → Sl → World → Prop} (_ht : 6 < t) (hy : y < t)
    (hc : Calls P f [σ 1, σ y].toArray w fun e w' => ∃ dv', e = .returned dv' ∧ DRaw w' n0 dv' l' ∧ Mod [] w0 w')
    (hQ : ∀ σ' w', (∀ j, j ≠ 1 → j < t → σ' j = σ j) → DRaw w' n0 (σ' 1) l' → Mod [] w0 w' → Q .normal σ' w') : wpC P (acB t y f) Q σ w := by
  have hy' : y ≠ t := by omega
  unfold acB
  rw [wpC_blk]
  refine go1 (v := σ 1) rfl (by simp) ?_
  refine go1 (v := σ y) rfl (by simp [hy']) ?_
  refine goCall rfl (vs := [σ 1, σ y]) (by simp) hc ?_
  rintro e w1 ⟨dv', rfl, h1, h2⟩
  refine ⟨dv', rfl, go1 (v := dv') rfl (by simp) (goEnd (hQ _ _ (fun j hj hjt => ?_) (by simpa using h1) h2))⟩
  simp only [updo, upd, hj, show j ≠ t by omega, show j ≠ t + 1 by omega, show j ≠ t + 2 by omega, if_false]
theorem mv6_wp {t : Nat} {v : Value} {σ : Sl} {w : World} {Q : Exit → Sl → World → Prop} (h6 : σ 6 = v) (hQ : ∀ σ', Ag t σ σ' → σ' t = v → Q .normal σ' w) : wpC P (.blk [⟨some t, .mv (.tmp 6), none⟩]) Q σ w := by
  rw [wpC_blk]
  refine go1 (v := v) rfl (by simp [h6]) (goEnd (hQ _ (fun j hj => ?_) (by simp)))
  simp only [updo, upd, show j ≠ t by omega, if_false]
theorem AC.gen_wp {a : AC} {x : Bool} {t y n0 : Nat} {σ : Sl} {w w0 : World} {l' : List UInt8} {Q : Exit → Sl → World → Prop} (ht : 6 < t) (hy : y < t) (hx : a.fx = true → σ 6 = .bool x)
    (hc : Calls P (a.sel x) [σ 1, σ y].toArray w fun e w' => ∃ dv', e = .returned dv' ∧ DRaw w' n0 dv' l' ∧ Mod [] w0 w')
    (hQ : ∀ σ' w', (∀ j, j ≠ 1 → j < t → σ' j = σ j) → DRaw w' n0 (σ' 1) l' → Mod [] w0 w' → Q .normal σ' w') : wpL P (a.gen t y) Q σ w := by
  obtain ⟨f, g⟩ := a
  cases g with
  | none => exact acB_wp ht hy hc hQ
  | some g =>
    have h6 := hx rfl
    simp only [AC.gen, wpL]
    refine mv6_wp h6 fun σ1 a1 e1 => ?_
    simp only [thenC]
    have e : ([σ1 1, σ1 y] : List Value) = [σ 1, σ y] := by rw [a1 1 (by omega), a1 y hy]
    cases x with
    | true =>
      rw [wpC_cond_t (show ev σ1 (.tmp t) = _ from e1)]
      refine acB_wp (n0 := n0) (w0 := w0) (l' := l') (by omega) (by omega) (by rw [e]; exact hc) fun σ2 w2 a2 h2 m2 => hQ σ2 w2 (fun j hj hjt => by rw [a2 j hj (by omega), a1 j hjt]) h2 m2
    | false =>
      rw [wpC_cond_f (show ev σ1 (.tmp t) = _ from e1)]
      refine acB_wp (n0 := n0) (w0 := w0) (l' := l') (by omega) (by omega) (by rw [e]; exact hc) fun σ2 w2 a2 h2 m2 => hQ σ2 w2 (fun j hj hjt => by rw [a2 j hj (by omega), a1 j hjt]) h2 m2
theorem lcB_wp {nul : Bool} {t y n0 n c : Nat} {base : Option Addr} {f : FuncId} {σ : Sl} {w w0 : World} {l' : List UInt8} {Q : Exit → Sl → World → Prop} (_ht : 6 < t) (hy : y < t) (hs : σ y = .slice base n c)
    (hc : Calls P f ((σ 1 :: .int .i64 (n : Nat) :: if nul then [Value.bool base.isNone] else []).toArray) w fun e w' => ∃ dv', e = .returned dv' ∧ DRaw w' n0 dv' l' ∧ Mod [] w0 w')
    (hQ : ∀ σ' w', (∀ j, j ≠ 1 → j < t → σ' j = σ j) → DRaw w' n0 (σ' 1) l' → Mod [] w0 w' → Q .normal σ' w') : wpC P (lcB nul t y f) Q σ w := by
  have hy' : y ≠ t := by omega
  have hy1 : y ≠ t + 1 := by omega
  have hy2 : y ≠ t + 2 := by omega
  unfold lcB
  cases nul with
  | true =>
    simp only [if_true] at hc ⊢
    rw [wpC_blk]
    refine go1 (v := σ 1) rfl (by simp) ?_
    refine go1 (v := .slice base n c) rfl (by simp [hy', hs]) ?_
    refine go1 (v := .int .i64 (n : Nat)) rfl (by simp) ?_
    refine go1 (v := .slice base n c) rfl (by simp [hy', hy1, hy2, hs]) ?_
    refine go1 (v := .bool base.isNone) rfl (by simp) ?_
    refine goCall rfl (vs := [σ 1, .int .i64 (n : Nat), .bool base.isNone]) (by simp) hc ?_
    rintro e w1 ⟨dv', rfl, h1, h2⟩
    refine ⟨dv', rfl, go1 (v := dv') rfl (by simp) (goEnd (hQ _ _ (fun j hj hjt => ?_) (by simpa using h1) h2))⟩
    simp only [updo, upd, hj, show j ≠ t by omega, show j ≠ t + 1 by omega, show j ≠ t + 2 by omega, show j ≠ t + 3 by omega, show j ≠ t + 4 by omega, show j ≠ t + 5 by omega, if_false]
  | false =>
    simp only [Bool.false_eq_true, if_false] at hc ⊢
    rw [wpC_blk]
    refine go1 (v := σ 1) rfl (by simp) ?_
    refine go1 (v := .slice base n c) rfl (by simp [hy', hs]) ?_
    refine go1 (v := .int .i64 (n : Nat)) rfl (by simp) ?_
    refine goCall rfl (vs := [σ 1, .int .i64 (n : Nat)]) (by simp) hc ?_
    rintro e w1 ⟨dv', rfl, h1, h2⟩
    refine ⟨dv', rfl, go1 (v := dv') rfl (by simp) (goEnd (hQ _ _ (fun j hj hjt => ?_) (by simpa using h1) h2))⟩
    simp only [updo, upd, hj, show j ≠ t by omega, show j ≠ t + 1 by omega, show j ≠ t + 2 by omega, show j ≠ t + 3 by omega, if_false]
theorem AC.lgen_wp {a : AC} {nul x : Bool} {t y n0 n c : Nat} {base : Option Addr} {σ : Sl} {w w0 : World} {l' : List UInt8} {Q : Exit → Sl → World → Prop} (ht : 6 < t) (hy : y < t) (hx : a.fx = true → σ 6 = .bool x) (hs : σ y = .slice base n c)
    (hc : Calls P (a.sel x) ((σ 1 :: .int .i64 (n : Nat) :: if nul then [Value.bool base.isNone] else []).toArray) w fun e w' => ∃ dv', e = .returned dv' ∧ DRaw w' n0 dv' l' ∧ Mod [] w0 w')
    (hQ : ∀ σ' w', (∀ j, j ≠ 1 → j < t → σ' j = σ j) → DRaw w' n0 (σ' 1) l' → Mod [] w0 w' → Q .normal σ' w') : wpC P (a.lgen nul t y) Q σ w := by
  obtain ⟨f, g⟩ := a
  cases g with
  | none => exact lcB_wp ht hy hs hc hQ
  | some g =>
    have h6 := hx rfl
    simp only [AC.lgen]
    rw [wpC_seq]
    refine mv6_wp h6 fun σ1 a1 e1 => ?_
    simp only [thenC]
    have e : σ1 1 = σ 1 := a1 1 (by omega)
    have es : σ1 y = .slice base n c := (a1 y hy).trans hs
    cases x with
    | true =>
      rw [wpC_cond_t (show ev σ1 (.tmp t) = _ from e1)]
      refine lcB_wp (n0 := n0) (w0 := w0) (l' := l') (by omega) (by omega) es (by rw [e]; exact hc) fun σ2 w2 a2 h2 m2 => hQ σ2 w2 (fun j hj hjt => by rw [a2 j hj (by omega), a1 j hjt]) h2 m2
    | false =>
      rw [wpC_cond_f (show ev σ1 (.tmp t) = _ from e1)]
      refine lcB_wp (n0 := n0) (w0 := w0) (l' := l') (by omega) (by omega) es (by rw [e]; exact hc) fun σ2 w2 a2 h2 m2 => hQ σ2 w2 (fun j hj hjt => by rw [a2 j hj (by omega), a1 j hjt]) h2 m2
theorem lstA_wp {v t nb nx n c NV nv : Nat} {base : Option Addr} {body : List IC} {w0 : World} {ver : Int} {hf x : Bool} {E : Nat → List UInt8} {σ : Sl} {w : World} {Q : Exit → Sl → World → Prop}
    (hn : n < 4294967295) (hs : σ v = .slice base n c) (hb : bse hf ≤ nv) (hvn : v = nv) (hNV : nv + 3 ≤ NV) (hNt : NV ≤ t) (hnx : t + 5 ≤ nx) (h0 : AS w0 ver hf x (E 0) σ w)
    (hstep : ∀ j σ1 w1, j < n → AS w0 ver hf x (E j) σ1 w1 → Kp NV (nv + 1) t σ σ1 → σ1 (v + 1) = .int .i64 (j : Nat) → ∀ Q' : Exit → Sl → World → Prop,
      (∀ σ2 w2, AS w0 ver hf x (E (j + 1)) σ2 w2 → Kp NV (nv + 1) (t + 4) σ1 σ2 → Q' .normal σ2 w2) → wpL P body Q' σ1 w1)
    (hQ : ∀ σ' w', AS w0 ver hf x (E n) σ' w' → Kp NV (nv + 1) t σ σ' → Q .normal σ' w') : wpL P (lstA v t nb nx body) Q σ w := by
  subst hvn
  have hv6 : 6 ≤ v := by unfold bse at hb; split at hb <;> omega
  have hvt : v ≠ t ∧ v ≠ t + 1 ∧ v ≠ t + 2 := by omega
  have kup : ∀ {σa σb : Sl}, (∀ j, j ≠ 1 → j < t → j ≠ v + 1 → σb j = σa j) → Kp NV (v + 1) t σa σb := fun h j h1 h2 => h j h1 (by omega) (by omega)
  unfold lstA
  simp only [wpL]
  rw [wpC_blk]
  refine go1 (v := .slice base n c) rfl (by simp [hs]) ?_
  refine go1 (v := .int .i64 (n : Nat)) rfl (by simp) ?_
  refine go1 (v := .int .i64 (0 : Nat)) rfl (by simp) (goEnd ?_)
  simp only [thenC]
  have asup : ∀ {l : List UInt8} {σa σb : Sl} {wa : World}, AS w0 ver hf x l σa wa → (∀ j, j < v + 1 → σb j = σa j) → AS w0 ver hf x l σb wa := fun {l σa σb wa} h hh =>
    h.keep (NV := 0) (nt := 0) (nv := v + 1) (fun j _ hj => hh j (by omega)) (by omega) (by rw [hh 1 (by omega)]; exact h.d) h.m
  refine rangeLoop (n := n) (fun j σ1 w1 => AS w0 ver hf x (E j) σ1 w1 ∧ Kp NV (v + 1) t σ σ1 ∧ σ1 (t + 2) = .int .i64 (j : Nat) ∧ σ1 (t + 1) = .int .i64 (n : Nat)) (by omega) (by omega) (fun j σ1 w1 h => ⟨h.2.2.1, h.2.2.2⟩) ?_ ?_ ?_
  · refine ⟨asup h0 fun j hj => ?_, fun j h1 h2 => ?_, by simp, by simp⟩
    · simp only [updo, upd, show j ≠ t by omega, show j ≠ t + 1 by omega, show j ≠ t + 2 by omega, if_false]
    · simp only [updo, upd, show j ≠ t by omega, show j ≠ t + 1 by omega, show j ≠ t + 2 by omega, if_false]
  · rintro j σ1 w1 hj ⟨ha, hk, hc2, hc1⟩
    rw [wpC_seqs]
    simp only [wpL]
    rw [wpC_blk]
    refine go1 (v := .int .i64 (j : Nat)) rfl (by simp [hc2]) ?_
    refine go1 (v := .int .i64 (j : Nat)) rfl (by simp) (goEnd ?_)
    simp only [thenC]
    have e1 : ∀ k, k ≠ t + 3 → k ≠ t + 4 → k ≠ v + 1 → updo (updo (upd σ1 (t + 3) (.bool true)) (some (t + 4)) (.int .i64 (j : Nat))) (some (v + 1)) (.int .i64 (j : Nat)) k = σ1 k := fun k h1 h2 h3 => by simp only [updo, upd, h1, h2, h3, if_false]
    have e2 : updo (updo (upd σ1 (t + 3) (.bool true)) (some (t + 4)) (.int .i64 (j : Nat))) (some (v + 1)) (.int .i64 (j : Nat)) (v + 1) = .int .i64 (j : Nat) := by simp only [updo, upd, if_true]
    generalize updo (updo (upd σ1 (t + 3) (.bool true)) (some (t + 4)) (.int .i64 (j : Nat))) (some (v + 1)) (.int .i64 (j : Nat)) = σ2 at e1 e2 ⊢
    refine hstep j σ2 w1 hj (asup ha fun k hk => e1 k (by omega) (by omega) (by omega)) (fun k h1 h2 => (e1 k (by omega) (by omega) (by omega)).trans (hk k h1 h2)) e2 _ fun σ3 w3 ha3 hk3 => ?_
    simp only [rngP]
    have c2 : σ3 (t + 2) = .int .i64 (j : Nat) := by rw [hk3 (t + 2) (by omega) (.inr (by omega)), e1 _ (by omega) (by omega) (by omega)]; exact hc2
    have c1 : σ3 (t + 1) = .int .i64 (n : Nat) := by rw [hk3 (t + 1) (by omega) (.inr (by omega)), e1 _ (by omega) (by omega) (by omega)]; exact hc1
    refine ⟨c2, asup ha3 fun k hk => ?_, fun k h1 h2 => ?_, by simp only [upd, if_true], ?_⟩
    · simp only [upd, show k ≠ t + 2 by omega, show k ≠ nx by omega, if_false]
    · simp only [upd, show k ≠ t + 2 by omega, show k ≠ nx by omega, if_false]
      rw [hk3 k h1 (by omega), e1 k (by omega) (by omega) (by omega)]; exact hk k h1 h2
    · simp only [upd, show t + 1 ≠ t + 2 by omega, show t + 1 ≠ nx by omega, if_false]; exact c1
  · rintro σ1 w1 ⟨ha, hk, -, -⟩
    refine hQ _ _ (asup ha fun j hj => ?_) fun j h1 h2 => ?_
    · simp only [upd, show j ≠ t + 3 by omega, if_false]
    · simp only [upd, show j ≠ t + 3 by omega, if_false]; exact hk j h1 h2
end
end Go.Msk

namespace Go.Msk
open Go.RowKit
set_option maxRecDepth 100000
structure TgC (P : Program) (ln uv ap : FuncId) : Prop where
  ln : ∀ (w : World) (B o : Nat) (v : Value) (m : List (Nat × List UInt8)), w.cell? ⟨B, o, none⟩ = some v → TagM anyB w v m → Calls P ln [.pointer (some ⟨B, o, none⟩)].toArray w fun e w' => e = .returned (.int .i64 (m.length : Nat)) ∧ w' = w
  uv : ∀ n : Nat, n < 4294967296 → AppK P uv (fun _ v => v = .int .u32 (n : Nat)) (uvE n)
  ap : ∀ (w0 w : World) (B o : Nat) (dv v : Value) (l : List UInt8) (m : List (Nat × List UInt8)), Mod [] w0 w → DRaw w w0.heap.size dv l → l.length + (tagsR (sortT m)).length ≤ lim → w0.cell? ⟨B, o, none⟩ = some v → TagM anyB w0 v m → m.length ≤ 2147483647 → (∀ p ∈ m, p.2.length ≤ 2147483647) →
    Calls P ap [.pointer (some ⟨B, o, none⟩), dv].toArray w fun e w' => ∃ dv', e = .returned dv' ∧ DRaw w' w0.heap.size dv' (l ++ tagsR (sortT m)) ∧ Mod [] w0 w'
def Ap.Ok (P : Program) (hf x : Bool) : Ap → Prop
  | .nil => True
  | .prm _ _ p a rest => (a.fx = true → hf = true) ∧ ApF P (a.sel x) p x ∧ rest.Ok P hf x
  | .uid _ f rest => (∀ u : List UInt8, u.length = 16 → AppK P f (fun _ v => v = .agg (u8s u).toArray) u) ∧ rest.Ok P hf x
  | .vst _ _ a1 a2 rest => (a1.fx = true → hf = true) ∧ (a2.fx = true → hf = true) ∧ ApF P (a1.sel x) .str x ∧ ApF P (a2.sel x) .nstr x ∧ rest.Ok P hf x
  | .lsp _ nul ln p a rest => (ln.fx = true → hf = true) ∧ (a.fx = true → hf = true) ∧ ApL P (ln.sel x) nul x ∧ ApF P (a.sel x) p x ∧ rest.Ok P hf x
  | .lss _ nul ln _ body rest => (ln.fx = true → hf = true) ∧ ApL P (ln.sel x) nul x ∧ body.Ok P hf x ∧ rest.Ok P hf x
  | .sub _ _ body rest => body.Ok P hf x ∧ rest.Ok P hf x
  | .tags ln uv ap => hf = true ∧ TgC P ln uv ap
theorem Rep.lst_inv {w : World} {isnil : Bool} {s : Nat} {es : List GV} {v : Value} (h : Rep [] w (.lst isnil s es) [v]) :
    ∃ base c css, v = .slice base es.length c ∧ isnil = base.isNone ∧ RepL [] w es css ∧ (∀ cs ∈ css, cs.length = s) ∧ (∀ a, base = some a → Cells w a css.flatten) ∧ (base = none → es = []) := by
  cases h with
  | lst0 => exact ⟨none, 0, [], rfl, rfl, .nil, by simp, by simp, fun _ => rfl⟩
  | lst1 h1 h2 h3 h4 h5 h6 h7 => exact ⟨some _, _, _, by rw [← h3], rfl, h6, h5, fun a ha => by cases ha; exact h7, by simp⟩
section
variable {P : Program}
attribute [local simp] gOk updo upd ev RK.val? isShift intBin Addr.add_mk args0 Value.cells undef
theorem ldA_wp {sp y t off B o : Nat} {σ : Sl} {w : World} {v : Value} {Q : Exit → Sl → World → Prop} (hs : σ sp = .pointer (some ⟨B, o, none⟩)) (hc : w.cell? ⟨B, o + off, none⟩ = some v) (_ly : y < t) (_ls : sp < t)
    (hQ : ∀ σ', (∀ j, j < t → j ≠ y → σ' j = σ j) → σ' y = v → Q .normal σ' w) : wpC P (ldF sp y t off) Q σ w := by
  unfold ldF
  rw [wpC_blk]
  refine go1 (v := .pointer (some ⟨B, o, none⟩)) rfl (by simp [hs]) ?_
  refine go1 (v := .pointer (some ⟨B, o, none⟩)) rfl (by simp) ?_
  refine go1 (v := .pointer (some ⟨B, o + off, none⟩)) rfl (by simp) ?_
  refine go1 (v := v) rfl (by simp [hc]) ?_
  refine go1 (v := v) rfl (by simp) (goEnd (hQ _ (fun j hj hne => ?_) (by simp)))
  simp only [updo, upd, hne, show j ≠ t by omega, show j ≠ t + 1 by omega, show j ≠ t + 2 by omega, show j ≠ t + 3 by omega, if_false]
theorem fld_wp {vc : VC} {f : Nat → IC} {w0 : World} {ver : Int} {hf x : Bool} {l e : List UInt8} {NV nv nt : Nat} {σ : Sl} {w : World} {Q : Exit → Sl → World → Prop} (hA : AS w0 ver hf x l σ w) (hnt : 6 < nt) (hnv : bse hf ≤ nv) (hnn : nv ≤ nt)
    (h1 : vc.holds ver = true → ∀ σ', Ag nt σ σ' → AS w0 ver hf x l σ' w → ∀ Q1 : Exit → Sl → World → Prop, (∀ σ1 w1, DRaw w1 w0.heap.size (σ1 1) (l ++ e) → Mod [] w0 w1 → Kp NV nv nt σ' σ1 → Q1 .normal σ1 w1) → wpC P (f (nt + vc.nt)) Q1 σ' w)
    (hQ : ∀ σ1 w1, AS w0 ver hf x (l ++ if vc.holds ver then e else []) σ1 w1 → Kp NV nv nt σ σ1 → Q .normal σ1 w1) : wpC P (vc.wrap E0 nt f) Q σ w := by
  have kap : ∀ {σ'}, Ag nt σ σ' → nv ≤ nt → Kp NV nv nt σ σ' := fun a hn j _ hj => a j (by omega)
  refine wrapA hA.v (by omega) (fun hv σ' a => ?_) fun hv σ' a => ?_
  · have ha : AS w0 ver hf x l σ' w := ⟨by rw [a 1 (by omega)]; exact hA.d, hA.m, by rw [a 5 (by omega)]; exact hA.v, fun e => by rw [a 6 (by omega)]; exact hA.x e⟩
    refine h1 hv σ' a ha _ fun σ1 w1 hd hm hk => hQ σ1 w1 ?_ ?_
    · rw [hv, if_pos rfl]; exact ha.keep hk hnv hd hm
    · intro j h1 h2
      rw [hk j h1 h2]
      by_cases hj : j < nt
      · exact a j hj
      · exfalso; omega
  · refine hQ σ' w ⟨by rw [hv]; simp only [Bool.false_eq_true, if_false, List.append_nil]; rw [a 1 (by omega)]; exact hA.d, hA.m, by rw [a 5 (by omega)]; exact hA.v, fun e => by rw [a 6 (by omega)]; exact hA.x e⟩ ?_
    intro j h1 h2
    by_cases hj : j < nt
    · exact a j hj
    · exfalso; omega
end
end Go.Msk

namespace Go.Msk
open Go.RowKit
set_option maxRecDepth 100000
theorem take_flat {α : Type} (f : α → List UInt8) {es : List α} {j : Nat} {y : α} (h : es[j]? = some y) : (es.take (j + 1)).flatMap f = (es.take j).flatMap f ++ f y := by
  rw [List.take_add_one, h]; simp
theorem take_flat_le {α : Type} (f : α → List UInt8) (es : List α) (j : Nat) : ((es.take j).flatMap f).length ≤ (es.flatMap f).length := by
  have : es.flatMap f = (es.take j).flatMap f ++ (es.drop j).flatMap f := by rw [← List.flatMap_append, List.take_append_drop]
  rw [this]; simp
section
variable {P : Program}
attribute [local simp] gOk updo upd ev RK.val? isShift intBin Addr.add_mk args0 Value.cells undef
def Ap.SoundAt (P : Program) (hf x : Bool) (ver : Int) (w0 : World) (NV : Nat) (ap : Ap) : Prop :=
  ∀ (gs : List GV) (css : List (List Value)) (sp off nv nt nb B o : Nat) (l : List UInt8) (σ : Sl) (w : World) (Q : Exit → Sl → World → Prop), ap.Fit ver gs → RepL [] w0 gs css → Cells w0 ⟨B, o + off, none⟩ css.flatten →
    σ sp = .pointer (some ⟨B, o, none⟩) → sp < nv → sp ≠ 1 → bse hf ≤ nv → nv + ap.nv ≤ NV → NV ≤ nt → AS w0 ver hf x l σ w → l.length + (ap.enc ver x gs).length ≤ lim →
    (∀ σ' w', AS w0 ver hf x (l ++ ap.enc ver x gs) σ' w' → Kp NV nv nt σ σ' → Q .normal σ' w') → wpL P (ap.gen sp off nv nt nb) Q σ w
variable {hf x : Bool} {ver : Int} {w0 : World} {NV : Nat}
theorem cons_wp {rest : Ap} (ih : rest.SoundAt P hf x ver w0 NV) {F : IC} {k m z nb' sp off nv nt B o : Nat} {r : List GV} {cs : List Value} {css : List (List Value)} {l e : List UInt8} {σ : Sl} {w : World} {Q : Exit → Sl → World → Prop}
    (hfit : rest.Fit ver r) (hr : RepL [] w0 r css) (hc : Cells w0 ⟨B, o + off, none⟩ (cs ++ css.flatten)) (hz : cs.length = z) (hs : σ sp = .pointer (some ⟨B, o, none⟩)) (h1 : sp < nv) (h2 : sp ≠ 1) (h3 : bse hf ≤ nv) (h4 : nv + k + rest.nv ≤ NV) (h5 : NV ≤ nt)
    (hl : l.length + (e ++ rest.enc ver x r).length ≤ lim)
    (hF : ∀ Q1 : Exit → Sl → World → Prop, (∀ σ1 w1, AS w0 ver hf x (l ++ e) σ1 w1 → Kp NV nv nt σ σ1 → Q1 .normal σ1 w1) → wpC P F Q1 σ w)
    (hQ : ∀ σ' w', AS w0 ver hf x (l ++ (e ++ rest.enc ver x r)) σ' w' → Kp NV nv nt σ σ' → Q .normal σ' w') : wpL P (F :: rest.gen sp (off + z) (nv + k) (nt + m) nb') Q σ w := by
  simp only [wpL]
  refine hF _ fun σ1 w1 ha hk => ?_
  simp only [thenC]
  simp only [List.length_append] at hl
  refine ih r css sp (off + z) (nv + k) (nt + m) nb' B o (l ++ e) σ1 w1 Q hfit hr ?_ ?_ (by omega) h2 (by omega) h4 (by omega) ha (by simp only [List.length_append]; omega) fun σ2 w2 ha2 hk2 => ?_
  · have := hc.app.2; rwa [hz, Nat.add_assoc] at this
  · rw [hk sp h2 (.inl h1)]; exact hs
  · exact hQ σ2 w2 (by rw [← List.append_assoc]; exact ha2) (hk.trans hk2 (Nat.le_refl _) (Nat.le_refl _) (by omega) (by omega))
theorem one_cell {g : GV} {cs : List Value} (h : Rep [] w0 g cs) (hw : g.wid = 1) : ∃ v, cs = [v] := by
  have := h.wid
  rw [hw] at this
  match cs, this with
  | [v], _ => exact ⟨v, rfl⟩
theorem bse6 {nv : Nat} (h : bse hf ≤ nv) : 6 ≤ nv ∧ (hf = true → 6 < nv) := by
  unfold bse at h
  cases hf <;> simp at h ⊢ <;> omega
theorem lst_wp {nul : Bool} {ln : AC} {nb nx sp off nv t T B o : Nat} {isnil : Bool} {s : Nat} {es : List GV} {v : Value} {f : GV → List UInt8} {body : List IC} {l : List UInt8} {σ : Sl} {w : World} {Q : Exit → Sl → World → Prop}
    (hln : ln.fx = true → hf = true) (hL : ApL P (ln.sel x) nul x) (hrep : Rep [] w0 (.lst isnil s es) [v]) (hn : es.length < 4294967295) (hc : w0.cell? ⟨B, o + off, none⟩ = some v) (hs : σ sp = .pointer (some ⟨B, o, none⟩)) (h1 : sp < nv) (h3 : bse hf ≤ nv) (hnv : nv + 3 ≤ NV) (h5 : NV ≤ t) (hA : AS w0 ver hf x l σ w)
    (hT : T = t + 4 + ln.lnt nul) (hnx : T + 5 ≤ nx) (hl : l.length + (encLen nul x isnil es.length ++ es.flatMap f).length ≤ lim)
    (hstep : ∀ (base : Addr) (c : Nat) (css : List (List Value)), RepL [] w0 es css → (∀ cs ∈ css, cs.length = s) → isnil = false → Cells w0 base css.flatten → ∀ j y σ1 w1, es[j]? = some y → AS w0 ver hf x (l ++ encLen nul x isnil es.length ++ (es.take j).flatMap f) σ1 w1 → (l ++ encLen nul x isnil es.length ++ (es.take j).flatMap f).length + (f y).length ≤ lim →
      σ1 nv = .slice (some base) es.length c → σ1 (nv + 1) = .int .i64 (j : Nat) → ∀ Q' : Exit → Sl → World → Prop,
      (∀ σ2 w2, AS w0 ver hf x (l ++ encLen nul x isnil es.length ++ (es.take (j + 1)).flatMap f) σ2 w2 → Kp NV (nv + 1) (T + 4) σ1 σ2 → Q' .normal σ2 w2) → wpL P body Q' σ1 w1)
    (hQ : ∀ σ' w', DRaw w' w0.heap.size (σ' 1) (l ++ (encLen nul x isnil es.length ++ es.flatMap f)) → Mod [] w0 w' → Kp NV nv t σ σ' → Q .normal σ' w') :
    wpC P (seqs (ldF sp nv t off :: ln.lgen nul (t + 4) nv :: lstA nv T nb nx body)) Q σ w := by
  obtain ⟨base, c, css, rfl, rfl, hre, hsz, hcells, hnone⟩ := hrep.lst_inv
  obtain ⟨h6, h6'⟩ := bse6 h3
  rw [wpC_seqs]
  simp only [wpL]
  simp only [List.length_append] at hl
  refine ldA_wp hs (cell_mod hc hA.m (by simp)) (by omega) (by omega) fun σ1 a1 v1 => ?_
  simp only [thenC]
  have hA1 : AS w0 ver hf x l σ1 w := hA.keep (NV := 0) (nt := 0) (nv := nv) (fun j _ hj => a1 j (by omega) (by omega)) h3 (by rw [a1 1 (by omega) (by omega)]; exact hA.d) hA.m
  refine AC.lgen_wp (x := x) (n0 := w0.heap.size) (w0 := w0) (l' := l ++ encLen nul x base.isNone es.length) (by omega) (by omega) (fun e => hA1.x (hln e)) v1 (hL w0 w (σ1 1) l es.length base.isNone hn hA1.m hA1.d (by omega)) fun σ2 w2 a2 hd2 hm2 => ?_
  simp only [thenC]
  have hA2 : AS w0 ver hf x (l ++ encLen nul x base.isNone es.length) σ2 w2 := hA1.keep (NV := 0) (nt := 0) (nv := nv) (fun j hj1 hj => a2 j hj1 (by omega)) h3 hd2 hm2
  have k2 : Kp NV nv t σ σ2 := fun j hj1 hj => (a2 j hj1 (by omega)).trans (a1 j (by omega) (by omega))
  have v2 : σ2 nv = .slice base es.length c := (a2 nv (by omega) (by omega)).trans v1
  refine lstA_wp (E := fun j => l ++ encLen nul x base.isNone es.length ++ (es.take j).flatMap f) (nv := nv) (NV := NV) hn v2 h3 rfl hnv (by omega) hnx (by simpa using hA2) (fun j σ3 w3 hj ha3 hk3 hi3 Q' hQ' => ?_) fun σ3 w3 ha3 hk3 => ?_
  · cases hb : base with
    | none => rw [hnone hb] at hj; simp at hj
    | some a =>
      subst hb
      have hy : es[j]? = some es[j] := List.getElem?_eq_getElem hj
      refine hstep a c css hre hsz rfl (hcells a rfl) j es[j] σ3 w3 hy ha3 ?_ ?_ hi3 Q' hQ'
      · have := take_flat_le f es (j + 1)
        rw [take_flat f hy, List.length_append] at this
        simp only [List.length_append]
        omega
      · rw [hk3 nv (by omega) (.inl (by omega))]; exact v2
  · refine hQ σ3 w3 ?_ ha3.m (k2.trans hk3 (Nat.le_refl _) (Nat.le_refl _) (by omega) (by omega))
    have := ha3.d
    simpa [List.append_assoc] using this
end
end Go.Msk

namespace Go.Msk
open Go.RowKit
set_option maxRecDepth 100000
section
variable {P : Program}
attribute [local simp] gOk updo upd ev RK.val? isShift intBin Addr.add_mk args0 Value.cells undef
variable {hf x : Bool} {ver : Int} {w0 : World} {NV : Nat}
theorem len_if {b : Bool} {l e r : List UInt8} (hl : l.length + ((if b = true then e else []) ++ r).length ≤ lim) (hb : b = true) : l.length + e.length ≤ lim := by
  rw [hb, if_pos rfl, List.length_append] at hl; omega
theorem Ap.sound (_hm : P.follows .mixedOrders = true) : ∀ ap : Ap, ap.Ok P hf x → ap.SoundAt P hf x ver w0 NV := by
  intro ap
  induction ap with
  | nil =>
    intro _ gs css sp off nv nt nb B o l σ w Q _ _ _ _ _ _ _ _ _ hA _ hQ
    refine hQ σ w ?_ (Kp.refl _)
    simpa [Ap.enc] using hA
  | prm vc cp p a rest ih =>
    rintro ⟨hx, hf1, hrest⟩ gs css sp off nv nt nb B o l σ w Q ⟨g, r, rfl, hw, hfit, hfr⟩ hrep hc hs h1 h2 h3 h4 h5 hA hl hQ
    cases hrep with
    | @cons _ _ cs css hg hr =>
    obtain ⟨v, rfl⟩ := one_cell hg hw
    obtain ⟨h6, h6'⟩ := bse6 h3
    simp only [Ap.nv] at h4
    simp only [Ap.enc] at hl hQ
    rw [List.flatten_cons] at hc
    have hnv : nv + 1 ≤ NV := by split at h4 <;> omega
    refine cons_wp (ih hrest) hfr hr hc rfl hs h1 h2 h3 (by omega) h5 hl (fun Q1 hQ1 => ?_) hQ
    refine fld_wp hA (by omega) h3 (by omega) (fun hv σ1 a1 ha1 Q2 hQ2 => ?_) hQ1
    obtain ⟨hfp, hpu⟩ := hfit hv
    have hl1 := len_if hl hv
    have hcell : w.cell? ⟨B, o + off, none⟩ = some v := cell_mod (by have := hc.app.1.head; exact this) ha1.m (by simp)
    rw [wpC_seqs]
    simp only [wpL]
    refine ldA_wp ((a1 sp (by omega)).trans hs) hcell (by omega) (by omega) fun σ2 a2 v2 => ?_
    simp only [thenC]
    have d2 : DRaw w w0.heap.size (σ2 1) l := by rw [a2 1 (by omega) (by omega)]; exact ha1.d
    cases cp with
    | false =>
      simp only [Bool.false_eq_true, if_false]
      refine AC.gen_wp (x := x) (n0 := w0.heap.size) (w0 := w0) (l' := l ++ encP p x g) (by omega) (by omega) (fun e => ?_) ?_ fun σ3 w3 a3 hd3 hm3 => hQ2 σ3 w3 hd3 hm3 fun j hj1 hj => ?_
      · have := h6' (hx e); rw [a2 6 (by omega) (by omega)]; exact ha1.x (hx e)
      · exact hf1 w0 w (σ2 1) (σ2 nv) l g hfp (by rw [v2]; exact hg) ha1.m d2 hl1
      · rw [a3 j hj1 (by omega), a2 j (by omega) (by omega)]
    | true =>
      simp only [if_true] at h4 ⊢
      simp only [wpL]
      refine cpF_wp (by omega) fun σ3 a3 v3 => ?_
      simp only [thenC]
      refine AC.gen_wp (x := x) (n0 := w0.heap.size) (w0 := w0) (l' := l ++ encP p x g) (by omega) (by omega) (fun e => ?_) ?_ fun σ4 w4 a4 hd4 hm4 => hQ2 σ4 w4 hd4 hm4 fun j hj1 hj => ?_
      · have := h6' (hx e); rw [a3 6 (by omega) (by omega), a2 6 (by omega) (by omega)]; exact ha1.x (hx e)
      · exact hf1 w0 w (σ3 1) (σ3 (nv + 1)) l g hfp (by rw [v3, v2]; exact hg) ha1.m (by rw [a3 1 (by omega) (by omega)]; exact d2) hl1
      · rw [a4 j hj1 (by omega), a3 j (by omega) (by omega), a2 j (by omega) (by omega)]
  | uid vc f rest ih =>
    rintro ⟨hf1, hrest⟩ gs css sp off nv nt nb B o l σ w Q ⟨g, r, rfl, hw, hfit, hfr⟩ hrep hc hs h1 h2 h3 h4 h5 hA hl hQ
    cases hrep with
    | @cons _ _ cs css hg hr =>
    obtain ⟨h6, h6'⟩ := bse6 h3
    simp only [Ap.nv] at h4
    simp only [Ap.enc] at hl hQ
    rw [List.flatten_cons] at hc
    have hcl : cs.length = 16 := hg.wid.trans hw
    refine cons_wp (ih hrest) hfr hr hc hcl hs h1 h2 h3 (by omega) h5 hl (fun Q1 hQ1 => ?_) hQ
    refine fld_wp hA (by omega) h3 (by omega) (fun hv σ1 a1 ha1 Q2 hQ2 => ?_) hQ1
    obtain ⟨u, rfl, hu⟩ := hfit hv
    have hl1 := len_if hl hv
    cases hg with
    | arr =>
    have hcw := cellsAt_of' (hc.app.1.mod ha1.m (.inr (by simp))) (show (u8s u).length = 16 by rw [u8s_length]; exact hu)
    generalize ht : nt + vc.nt = t
    have s1 : σ1 sp = .pointer (some ⟨B, o, none⟩) := (a1 sp (by omega)).trans hs
    rw [wpC_seq, wpC_blk]
    refine go1 (v := .pointer (some ⟨B, o, none⟩)) rfl (by simp [s1]) ?_
    refine go1 (v := .pointer (some ⟨B, o, none⟩)) rfl (by simp) ?_
    refine go1 (v := .pointer (some ⟨B, o + off, none⟩)) rfl (by simp) ?_
    refine go1 (v := .agg (u8s u).toArray) rfl (by simp [hcw]) ?_
    refine goAlloc fun w1 hb1 hm1 => ?_
    refine goSt (b := w.heap.size) (v := .agg (u8s u).toArray) (by simp) (by simp [show t + 3 ≠ nv by omega]) hb1 (by simp [u8s_length, hu]) (by simp [z16]) (by simp [u8s, Value.oneCell']) fun w2 hb2 hm2 => goEnd ?_
    simp only [thenC]
    have hb2' : Blk w2 w.heap.size (u8s u) := by simpa using hb2
    have hm02 : Mod [] w w2 := Mod.drop (b := w.heap.size) (S := []) (hm1.nil.trans hm2) (Nat.le_refl _)
    have hcw2 := cellsAt_of' hb2'.cells (show (u8s u).length = 16 by rw [u8s_length]; exact hu)
    have n1 : nv ≠ t := by omega
    have n2 : nv ≠ t + 4 := by omega
    have n3 : ¬ nv = 1 := by omega
    rw [wpC_blk]
    refine go1 (v := σ1 1) rfl (by simp [show t ≠ 0 by omega, show 1 ≠ nv by omega, show 1 ≠ t by omega]) ?_
    refine go1 (v := .agg (u8s u).toArray) rfl (by simp [n2, hcw2]) ?_
    refine goCall rfl (vs := [σ1 1, .agg (u8s u).toArray]) (by simp) (hf1 u hu w0 w2 (σ1 1) _ l (ha1.m.trans hm02) (ha1.d.keep' hm02) (by simpa [encP] using hl1) rfl) ?_
    rintro e w3 ⟨dv', rfl, hd3, hm3⟩
    refine ⟨dv', rfl, go1 (v := dv') rfl (by simp) (goEnd (hQ2 _ w3 (by simpa [encP] using hd3) hm3 fun j hj1 hj => ?_))⟩
    simp only [updo, upd, hj1, show j ≠ nv by omega, show j ≠ t by omega, show j ≠ t + 1 by omega, show j ≠ t + 2 by omega, show j ≠ t + 3 by omega, show j ≠ t + 4 by omega, show j ≠ t + 5 by omega, show j ≠ t + 6 by omega, if_false]
  | vst vc V a1 a2 rest ih =>
    rintro ⟨hx1, hx2, hf1, hf2, hrest⟩ gs css sp off nv nt nb B o l σ w Q ⟨g, r, rfl, hw, hfit, hfr⟩ hrep hc hs h1 h2 h3 h4 h5 hA hl hQ
    cases hrep with
    | @cons _ _ cs css hg hr =>
    obtain ⟨v, rfl⟩ := one_cell hg hw
    obtain ⟨h6, h6'⟩ := bse6 h3
    simp only [Ap.nv] at h4
    simp only [Ap.enc] at hl hQ
    rw [List.flatten_cons] at hc
    refine cons_wp (ih hrest) hfr hr hc rfl hs h1 h2 h3 (by omega) h5 hl (fun Q1 hQ1 => ?_) hQ
    refine fld_wp hA (by omega) h3 (by omega) (fun hv σ1 a1' ha1 Q2 hQ2 => ?_) hQ1
    have hfp := hfit hv
    have hl1 := len_if hl hv
    have hcell : w.cell? ⟨B, o + off, none⟩ = some v := cell_mod (by have := hc.app.1.head; exact this) ha1.m (by simp)
    generalize ht : nt + vc.nt = t
    unfold vstA
    rw [wpC_seqs]
    simp only [wpL]
    refine ldA_wp ((a1' sp (by omega)).trans hs) hcell (by omega) (by omega) fun σ2 a2' v2 => ?_
    simp only [thenC]
    have d2 : DRaw w w0.heap.size (σ2 1) l := by rw [a2' 1 (by omega) (by omega)]; exact ha1.d
    have e5 : σ2 5 = .int .i16 ver := by rw [a2' 5 (by omega) (by omega)]; exact ha1.v
    rw [wpC_blk]
    refine go1 (v := .int .i16 ver) rfl (by simp [e5]) ?_
    refine go1 (v := .bool (decide (ver < V))) rfl (by simp) (goEnd ?_)
    simp only [thenC]
    generalize hσ : updo _ (some (t + 5)) _ = σ3
    have a3' : ∀ j, j < t + 4 → σ3 j = σ2 j := fun j hj => by rw [← hσ]; simp only [updo, upd, show j ≠ t + 4 by omega, show j ≠ t + 5 by omega, if_false]
    have c3 : σ3 (t + 5) = .bool (decide (ver < V)) := by rw [← hσ]; simp only [updo, upd_same]
    clear hσ
    by_cases hlt : ver < V
    · rw [decide_eq_true hlt] at c3
      simp only [encV, if_pos hlt] at hl1 hQ2
      rw [wpC_cond_t (by simp only [ev, c3]), wpC_seqs]
      simp only [wpL]
      obtain ⟨og, rfl, hog⟩ := hfp
      simp only at hl1 hQ2
      rw [wpC_blk]
      refine go1 (v := .string .empty) rfl rfl (goEnd ?_)
      simp only [thenC]
      have key : ∀ (σ4 : Sl), (∀ j, j < t → j ≠ nv + 1 → σ4 j = σ2 j) → σ4 (nv + 1) = Msk.str (og.getD []) →
          wpL P (.blk [⟨some (t + 11), .mv (.tmp (nv + 1)), none⟩, ⟨some (nv + 2), .mv (.tmp (t + 11)), none⟩] :: a1.gen (t + 12) (nv + 2)) Q2 σ4 w := by
        intro σ4 a4 v4
        simp only [wpL]
        rw [wpC_blk]
        refine go1 (v := Msk.str (og.getD [])) rfl (by simp [v4]) ?_
        refine go1 (v := Msk.str (og.getD [])) rfl (by simp) (goEnd ?_)
        simp only [thenC]
        refine AC.gen_wp (x := x) (n0 := w0.heap.size) (w0 := w0) (l' := l ++ encP .str x (.num (Msk.str (og.getD [])))) (by omega) (by omega) (fun e => ?_) ?_ fun σ6 w6 a6 hd6 hm6 => hQ2 σ6 w6 hd6 hm6 fun j hj1 hj => ?_
        · have := h6' (hx1 e)
          simp only [updo, upd, show (6 : Nat) ≠ nv + 2 by omega, show (6 : Nat) ≠ t + 11 by omega, if_false]
          rw [a4 6 (by omega) (by omega), a2' 6 (by omega) (by omega)]; exact ha1.x (hx1 e)
        · refine hf1 w0 w _ _ l (.num (Msk.str (og.getD []))) ⟨_, rfl, ?_⟩ (by simp only [updo, upd_same]; exact .num rfl) ha1.m ?_ hl1
          · cases og with
            | none => simp
            | some s => exact hog s rfl
          · simp only [updo, upd, show (1 : Nat) ≠ nv + 2 by omega, show (1 : Nat) ≠ t + 11 by omega, if_false]
            rw [a4 1 (by omega) (by omega)]; exact d2
        · rw [a6 j hj1 (by omega)]
          simp only [updo, upd, show j ≠ nv + 2 by omega, show j ≠ t + 11 by omega, if_false]
          rw [a4 j (by omega) (by omega), a2' j (by omega) (by omega)]
      rw [wpC_seq, wpC_blk]
      have b3 : ∀ j, j < t → j ≠ nv + 1 → (updo σ3 (some (nv + 1)) (.string .empty)) j = σ2 j := fun j hj hne => by simp only [updo, upd, hne, if_false]; exact a3' j (by omega)
      have v3 : (updo σ3 (some (nv + 1)) (.string .empty)) nv = v := by rw [b3 nv (by omega) (by omega)]; exact v2
      have n3 : (updo σ3 (some (nv + 1)) (.string .empty)) (nv + 1) = .string .empty := by simp only [updo, upd_same]
      generalize updo σ3 (some (nv + 1)) (.string .empty) = σ4 at b3 v3 n3
      refine go1 (v := v) rfl (by simp [v3]) ?_
      cases hg with
      | nstr0 =>
        refine go1 (v := .bool false) rfl (by simp) (goEnd ?_)
        simp only [thenC]
        rw [wpC_cond_f (by simp), wpC_skip]
        simp only [thenC]
        simp only [show thenC (fun a b => Q2 .normal a b) Q2 = Q2 from thenC_same Q2]
        refine key _ (fun j hj hne => ?_) ?_
        · simp only [updo, upd, show j ≠ t + 6 by omega, show j ≠ t + 7 by omega, if_false]
          exact b3 j hj hne
        · simp only [updo, upd, show nv + 1 ≠ t + 6 by omega, show nv + 1 ≠ t + 7 by omega, if_false]
          exact n3
      | @nstr1 b sl hb0 hcb =>
        have hcb' : w.cell? ⟨b, 0, none⟩ = some (Msk.str sl) := cell_mod hcb ha1.m (by simp)
        refine go1 (v := .bool true) rfl (by simp) (goEnd ?_)
        simp only [thenC]
        rw [wpC_cond_t (by simp), wpC_blk]
        refine go1 (v := .pointer (some ⟨b, 0, none⟩)) rfl (by simp [show nv ≠ t + 6 by omega, show nv ≠ t + 7 by omega, v3]) ?_
        refine go1 (v := .pointer (some ⟨b, 0, none⟩)) rfl (by simp) ?_
        refine go1 (v := Msk.str sl) rfl (by simp [hcb']) ?_
        refine go1 (v := Msk.str sl) rfl (by simp) (goEnd ?_)
        simp only [thenC]
        simp only [show thenC (fun a b => Q2 .normal a b) Q2 = Q2 from thenC_same Q2]
        refine key _ (fun j hj hne => ?_) ?_
        · simp only [updo, upd, hne, show j ≠ t + 6 by omega, show j ≠ t + 7 by omega, show j ≠ t + 8 by omega, show j ≠ t + 9 by omega, show j ≠ t + 10 by omega, if_false]
          exact b3 j hj hne
        · simp only [updo, upd_same]; rfl
    · rw [decide_eq_false hlt] at c3
      simp only [encV, if_neg hlt] at hl1 hQ2
      rw [wpC_cond_f (by simp only [ev, c3]), wpC_seqs]
      refine AC.gen_wp (x := x) (n0 := w0.heap.size) (w0 := w0) (l' := l ++ encP .nstr x g) (by omega) (by omega) (fun e => ?_) ?_ fun σ6 w6 a6 hd6 hm6 => hQ2 σ6 w6 hd6 hm6 fun j hj1 hj => ?_
      · have := h6' (hx2 e)
        rw [a3' 6 (by omega), a2' 6 (by omega) (by omega)]; exact ha1.x (hx2 e)
      · refine hf2 w0 w _ _ l g hfp ?_ ha1.m ?_ hl1
        · rw [a3' nv (by omega), v2]; exact hg
        · rw [a3' 1 (by omega)]; exact d2
      · rw [a6 j hj1 (by omega), a3' j (by omega), a2' j (by omega) (by omega)]
  | lsp vc nul ln p a rest ih =>
    rintro ⟨hxl, hx, hL, hf1, hrest⟩ gs css sp off nv nt nb B o l σ w Q ⟨g, r, rfl, hw, hfit, hfr⟩ hrep hc hs h1 h2 h3 h4 h5 hA hl hQ
    cases hrep with
    | @cons _ _ cs css hg hr =>
    obtain ⟨v, rfl⟩ := one_cell hg hw
    obtain ⟨h6, h6'⟩ := bse6 h3
    simp only [Ap.nv] at h4
    simp only [Ap.enc] at hl hQ
    rw [List.flatten_cons] at hc
    refine cons_wp (ih hrest) hfr hr hc rfl hs h1 h2 h3 (by omega) h5 hl (fun Q1 hQ1 => ?_) hQ
    refine fld_wp hA (by omega) h3 (by omega) (fun hv σ1 a1 ha1 Q2 hQ2 => ?_) hQ1
    obtain ⟨⟨isnil, s, es, rfl, hsz, hn, hes⟩, hpu⟩ := hfit hv
    have hl1 := len_if hl hv
    have hcell : w0.cell? ⟨B, o + off, none⟩ = some v := hc.app.1.head
    refine lst_wp (NV := NV) (t := nt + vc.nt) (f := encP p x) (s := s) (isnil := isnil) (es := es) hxl hL hg hn hcell ((a1 sp (by omega)).trans hs) h1 h3 (by omega) (by omega) ha1 rfl (by omega) hl1 (fun base c css' hre hsz' hnil hcs j y σ2 w2 hy ha2 hl2 v2 i2 Q' hQ' => ?_) fun σ2 w2 hd2 hm2 hk2 => hQ2 σ2 w2 hd2 hm2 (fun j hj1 hj => hk2 j hj1 (by omega))
    have hs1 := hsz hnil
    subst hs1
    obtain ⟨cs, hcs1, hry⟩ := hre.nth hy
    have hcl := hsz' cs (List.mem_of_getElem? hcs1)
    obtain ⟨u, rfl⟩ : ∃ u, cs = [u] := by match cs, hcl with | [u], _ => exact ⟨u, rfl⟩
    obtain ⟨bb, bo, bs⟩ := base
    have eb : bs = none := hcs.1
    subst eb
    have hce := (hcs.each hsz' hcs1).head
    have hjl : j < es.length := (List.getElem?_eq_some_iff.1 hy).1
    generalize hT : nt + vc.nt + 4 + ln.lnt nul = T
    simp only [wpL]
    rw [wpC_blk]
    refine go1 (v := .slice (some ⟨bb, bo, none⟩) es.length c) rfl (by simp [v2]) ?_
    refine go1 (v := .int .i64 (j : Nat)) rfl (by simp [i2, show nv ≠ T + 4 by omega]) ?_
    refine go1 (v := .pointer (some ⟨bb, bo + j * 1, none⟩)) rfl (by simp [hjl]) ?_
    refine go1 (v := u) rfl (by simp only [RK.val?, ev, updo, upd, if_true]; exact cell_mod hce ha2.m (by simp)) ?_
    refine go1 (v := u) rfl (by simp) (goEnd ?_)
    simp only [thenC]
    have e3 : ∀ k, k < T + 5 → k ≠ nv + 2 → updo (updo (updo (updo (updo σ2 (some (T + 5)) (.slice (some ⟨bb, bo, none⟩) es.length c)) (some (T + 6)) (.int .i64 (j : Nat))) (some (T + 7)) (.pointer (some ⟨bb, bo + j * 1, none⟩))) (some (T + 8)) u) (some (nv + 2)) u k = σ2 k := fun k hk hk2 => by
      simp only [updo, upd, hk2, show k ≠ T + 5 by omega, show k ≠ T + 6 by omega, show k ≠ T + 7 by omega, show k ≠ T + 8 by omega, if_false]
    have e4 : updo (updo (updo (updo (updo σ2 (some (T + 5)) (.slice (some ⟨bb, bo, none⟩) es.length c)) (some (T + 6)) (.int .i64 (j : Nat))) (some (T + 7)) (.pointer (some ⟨bb, bo + j * 1, none⟩))) (some (T + 8)) u) (some (nv + 2)) u (nv + 2) = u := by simp
    generalize updo (updo (updo (updo (updo σ2 (some (T + 5)) (.slice (some ⟨bb, bo, none⟩) es.length c)) (some (T + 6)) (.int .i64 (j : Nat))) (some (T + 7)) (.pointer (some ⟨bb, bo + j * 1, none⟩))) (some (T + 8)) u) (some (nv + 2)) u = σ3 at e3 e4 ⊢
    refine AC.gen_wp (x := x) (n0 := w0.heap.size) (w0 := w0) (l' := l ++ encLen nul x isnil es.length ++ (es.take j).flatMap (encP p x) ++ encP p x y) (by omega) (by omega) (fun e => ?_) ?_ fun σ4 w4 a4 hd4 hm4 => hQ' σ4 w4 ?_ fun k hk1 hk => ?_
    · have := h6' (hx e); rw [e3 6 (by omega) (by omega)]; exact ha2.x (hx e)
    · exact hf1 w0 w2 (σ3 1) (σ3 (nv + 2)) _ y (hes y (List.mem_of_getElem? hy)) (by rw [e4]; exact hry) ha2.m (by rw [e3 1 (by omega) (by omega)]; exact ha2.d) hl2
    · rw [take_flat (encP p x) hy, ← List.append_assoc]
      refine ha2.keep (NV := 0) (nt := 0) (nv := nv) (fun k hk1 hk => ?_) h3 hd4 hm4
      rw [a4 k hk1 (by omega), e3 k (by omega) (by omega)]
    · rw [a4 k hk1 (by omega), e3 k (by omega) (by omega)]
  | lss vc nul ln sz body rest ihb ih =>
    rintro ⟨hxl, hL, hbody, hrest⟩ gs css sp off nv nt nb B o l σ w Q ⟨g, r, rfl, hw, hfit, hfr⟩ hrep hc hs h1 h2 h3 h4 h5 hA hl hQ
    cases hrep with
    | @cons _ _ cs css hg hr =>
    obtain ⟨v, rfl⟩ := one_cell hg hw
    obtain ⟨h6, h6'⟩ := bse6 h3
    simp only [Ap.nv] at h4
    simp only [Ap.enc] at hl hQ
    rw [List.flatten_cons] at hc
    refine cons_wp (ih hrest) hfr hr hc rfl hs h1 h2 h3 (by omega) h5 hl (fun Q1 hQ1 => ?_) hQ
    refine fld_wp hA (by omega) h3 (by omega) (fun hv σ1 a1 ha1 Q2 hQ2 => ?_) hQ1
    obtain ⟨isnil, s, es, rfl, hsz, hn, hes⟩ := hfit hv
    have hl1 := len_if hl hv
    have hcell : w0.cell? ⟨B, o + off, none⟩ = some v := hc.app.1.head
    refine lst_wp (NV := NV) (t := nt + vc.nt) (f := fun g => match g with | .rcd l => body.enc ver x l | _ => []) (s := s) (isnil := isnil) (es := es) hxl hL hg hn hcell ((a1 sp (by omega)).trans hs) h1 h3 (by omega) (by omega) ha1 rfl (by omega) hl1 (fun base c css' hre hsz' hnil hcs j y σ2 w2 hy ha2 hl2 v2 i2 Q' hQ' => ?_) fun σ2 w2 hd2 hm2 hk2 => hQ2 σ2 w2 hd2 hm2 (fun j hj1 hj => hk2 j hj1 (by omega))
    have hs1 := hsz hnil
    subst hs1
    obtain ⟨cs, hcs1, hry⟩ := hre.nth hy
    obtain ⟨ly, rfl, hfy⟩ := hes y (List.mem_of_getElem? hy)
    obtain ⟨bb, bo, bs⟩ := base
    have eb : bs = none := hcs.1
    subst eb
    have hce := hcs.each hsz' hcs1
    have hjl : j < es.length := (List.getElem?_eq_some_iff.1 hy).1
    cases hry with
    | @rcd _ cssy hry =>
    generalize hT : nt + vc.nt + 4 + ln.lnt nul = T
    simp only [wpL]
    rw [wpC_blk]
    refine go1 (v := .slice (some ⟨bb, bo, none⟩) es.length c) rfl (by simp [v2]) ?_
    refine go1 (v := .int .i64 (j : Nat)) rfl (by simp [i2, show nv ≠ T + 4 by omega]) ?_
    refine go1 (v := .pointer (some ⟨bb, bo + j * s, none⟩)) rfl (by simp [hjl]) ?_
    refine go1 (v := .pointer (some ⟨bb, bo + j * s, none⟩)) rfl (by simp) (goEnd ?_)
    simp only [thenC]
    have e3 : ∀ k, k < T + 5 → k ≠ nv + 2 → updo (updo (updo (updo σ2 (some (T + 5)) (.slice (some ⟨bb, bo, none⟩) es.length c)) (some (T + 6)) (.int .i64 (j : Nat))) (some (T + 7)) (.pointer (some ⟨bb, bo + j * s, none⟩))) (some (nv + 2)) (.pointer (some ⟨bb, bo + j * s, none⟩)) k = σ2 k := fun k hk hk2 => by
      simp only [updo, upd, hk2, show k ≠ T + 5 by omega, show k ≠ T + 6 by omega, show k ≠ T + 7 by omega, if_false]
    have e4 : updo (updo (updo (updo σ2 (some (T + 5)) (.slice (some ⟨bb, bo, none⟩) es.length c)) (some (T + 6)) (.int .i64 (j : Nat))) (some (T + 7)) (.pointer (some ⟨bb, bo + j * s, none⟩))) (some (nv + 2)) (.pointer (some ⟨bb, bo + j * s, none⟩)) (nv + 2) = .pointer (some ⟨bb, bo + j * s, none⟩) := by simp
    generalize updo (updo (updo (updo σ2 (some (T + 5)) (.slice (some ⟨bb, bo, none⟩) es.length c)) (some (T + 6)) (.int .i64 (j : Nat))) (some (T + 7)) (.pointer (some ⟨bb, bo + j * s, none⟩))) (some (nv + 2)) (.pointer (some ⟨bb, bo + j * s, none⟩)) = σ3 at e3 e4 ⊢
    refine ihb hbody ly cssy (nv + 2) 0 (nv + 3) (T + 8) (nb + 2) bb (bo + j * s) _ σ3 w2 Q' hfy hry (by simpa using hce) e4 (by omega) (by omega) (by omega) (by omega) (by omega)
      (ha2.keep (NV := 0) (nt := 0) (nv := nv) (fun k hk1 hk => e3 k (by omega) (by omega)) h3 (by rw [e3 1 (by omega) (by omega)]; exact ha2.d) ha2.m) hl2 fun σ4 w4 ha4 hk4 => hQ' σ4 w4 ?_ fun k hk1 hk => ?_
    · rw [take_flat _ hy, ← List.append_assoc]; exact ha4
    · rw [hk4 k hk1 (by omega), e3 k (by omega) (by omega)]
  | sub vc sz body rest ihb ih =>
    rintro ⟨hbody, hrest⟩ gs css sp off nv nt nb B o l σ w Q ⟨g, r, rfl, hw, hfit, hfr⟩ hrep hc hs h1 h2 h3 h4 h5 hA hl hQ
    cases hrep with
    | @cons _ _ cs css hg hr =>
    obtain ⟨h6, h6'⟩ := bse6 h3
    simp only [Ap.nv] at h4
    simp only [Ap.enc] at hl hQ
    rw [List.flatten_cons] at hc
    have hcl : cs.length = sz := hg.wid.trans hw
    refine cons_wp (ih hrest) hfr hr hc hcl hs h1 h2 h3 (by omega) h5 hl (fun Q1 hQ1 => ?_) hQ
    refine fld_wp hA (by omega) h3 (by omega) (fun hv σ1 a1 ha1 Q2 hQ2 => ?_) hQ1
    obtain ⟨ly, rfl, hfy⟩ := hfit hv
    have hl1 := len_if hl hv
    cases hg with
    | @rcd _ cssy hry =>
    have s1 : σ1 sp = .pointer (some ⟨B, o, none⟩) := (a1 sp (by omega)).trans hs
    generalize ht : nt + vc.nt = t
    rw [wpC_seqs]
    simp only [wpL]
    rw [wpC_blk]
    refine go1 (v := .pointer (some ⟨B, o, none⟩)) rfl (by simp [s1]) ?_
    refine go1 (v := .pointer (some ⟨B, o, none⟩)) rfl (by simp) ?_
    refine go1 (v := .pointer (some ⟨B, o + off, none⟩)) rfl (by simp) ?_
    refine go1 (v := .pointer (some ⟨B, o + off, none⟩)) rfl (by simp) (goEnd ?_)
    simp only [thenC]
    have e3 : ∀ k, k < t → k ≠ nv → updo (updo (updo (updo σ1 (some t) (.pointer (some ⟨B, o, none⟩))) (some (t + 1)) (.pointer (some ⟨B, o, none⟩))) (some (t + 2)) (.pointer (some ⟨B, o + off, none⟩))) (some nv) (.pointer (some ⟨B, o + off, none⟩)) k = σ1 k := fun k hk hk2 => by
      simp only [updo, upd, hk2, show k ≠ t by omega, show k ≠ t + 1 by omega, show k ≠ t + 2 by omega, if_false]
    have e4 : updo (updo (updo (updo σ1 (some t) (.pointer (some ⟨B, o, none⟩))) (some (t + 1)) (.pointer (some ⟨B, o, none⟩))) (some (t + 2)) (.pointer (some ⟨B, o + off, none⟩))) (some nv) (.pointer (some ⟨B, o + off, none⟩)) nv = .pointer (some ⟨B, o + off, none⟩) := by simp
    generalize updo (updo (updo (updo σ1 (some t) (.pointer (some ⟨B, o, none⟩))) (some (t + 1)) (.pointer (some ⟨B, o, none⟩))) (some (t + 2)) (.pointer (some ⟨B, o + off, none⟩))) (some nv) (.pointer (some ⟨B, o + off, none⟩)) = σ3 at e3 e4 ⊢
    refine ihb hbody ly cssy nv 0 (nv + 1) (t + 3) nb B (o + off) _ σ3 w Q2 hfy hry (by simpa using hc.app.1) e4 (by omega) (by omega) (by omega) (by omega) (by omega)
      (ha1.keep (NV := 0) (nt := 0) (nv := nv) (fun k hk1 hk => e3 k (by omega) (by omega)) h3 (by rw [e3 1 (by omega) (by omega)]; exact ha1.d) ha1.m) hl1 fun σ4 w4 ha4 hk4 => hQ2 σ4 w4 ha4.d ha4.m fun k hk1 hk => ?_
    rw [hk4 k hk1 (by omega), e3 k (by omega) (by omega)]
  | tags ln uv ap =>
    rintro ⟨hhf, hT⟩ gs css sp off nv nt nb B o l σ w Q ⟨g, rfl, m, rfl, hml, hmv⟩ hrep hc hs h1 h2 h3 h4 h5 hA hl hQ
    cases hrep with
    | @cons _ _ cs css hg hr =>
    cases hr
    obtain ⟨h6, h6'⟩ := bse6 h3
    have h6 := h6' hhf
    simp only [Ap.enc] at hl hQ
    have hTM : ∃ v, cs = [v] ∧ TagM anyB w0 v m := by
      cases hg with
      | tag0 => exact ⟨_, rfl, .inl ⟨rfl, rfl⟩⟩
      | tag1 _ h => exact ⟨_, rfl, .inr ⟨_, rfl, h.mod (Mod.refl [] _) (by simp) (by simp) fun _ _ _ => trivial⟩⟩
    obtain ⟨v, rfl, hM⟩ := hTM
    have hc0 : w0.cell? ⟨B, o + off, none⟩ = some v := by simpa using hc.head
    simp only [Ap.gen, wpL]
    rw [wpC_seq]
    refine mv6_wp (hA.x hhf) fun σ1 a1 e1 => ?_
    simp only [thenC]
    cases x with
    | false =>
      rw [wpC_cond_f (show ev σ1 (.tmp nt) = _ from e1), wpC_skip]
      refine hQ σ1 w ?_ fun j hj1 hj => a1 j (by omega)
      simpa using hA.keep (NV := 0) (nt := 0) (nv := nv) (fun j _ hj => a1 j (by omega)) h3 (by rw [a1 1 (by omega)]; exact hA.d) hA.m
    | true =>
      simp only [if_true] at hl hQ
      simp only [List.length_append] at hl
      rw [wpC_cond_t (show ev σ1 (.tmp nt) = _ from e1)]
      have s1 : σ1 sp = .pointer (some ⟨B, o, none⟩) := (a1 sp (by omega)).trans hs
      have d1 : DRaw w w0.heap.size (σ1 1) l := by rw [a1 1 (by omega)]; exact hA.d
      have hm1 : TagM anyB w v m := by
        rcases hM with h | ⟨r, e, h⟩
        · exact .inl h
        · exact .inr ⟨r, e, h.mod hA.m (by simp) (by simp) fun _ _ _ => trivial⟩
      rw [wpC_seq, wpC_blk]
      refine go1 (v := σ1 1) rfl (by simp) ?_
      refine go1 (v := .pointer (some ⟨B, o, none⟩)) rfl (by simp [s1, show sp ≠ nt + 1 by omega]) ?_
      refine go1 (v := .pointer (some ⟨B, o, none⟩)) rfl (by simp) ?_
      refine go1 (v := .pointer (some ⟨B, o + off, none⟩)) rfl (by simp) ?_
      refine goCall rfl (vs := [.pointer (some ⟨B, o + off, none⟩)]) (by simp) (hT.ln w B (o + off) v m (cell_mod hc0 hA.m (by simp)) hm1) ?_
      rintro e w1 ⟨rfl, e2⟩
      subst e2
      refine ⟨_, rfl, ?_⟩
      refine go1 (v := .int .u32 (m.length : Nat)) rfl (by simp [u32_nat (n := m.length) (by omega)]) ?_
      refine go1 (v := .int .u32 (m.length : Nat)) rfl (by simp [u32_nat (n := m.length) (by omega)]) ?_
      refine goCall rfl (vs := [σ1 1, .int .u32 (m.length : Nat)]) (by simp) (hT.uv m.length (by omega) w0 w1 (σ1 1) _ l hA.m d1 (by omega) rfl) ?_
      rintro e w2 ⟨dv2, rfl, hd2, hm2⟩
      refine ⟨dv2, rfl, go1 (v := dv2) rfl (by simp) (goEnd ?_)⟩
      simp only [thenC]
      rw [wpC_blk]
      refine go1 (v := .pointer (some ⟨B, o, none⟩)) rfl (by simp [s1, h2, show sp ≠ nt + 1 by omega, show sp ≠ nt + 2 by omega, show sp ≠ nt + 3 by omega, show sp ≠ nt + 4 by omega, show sp ≠ nt + 5 by omega, show sp ≠ nt + 6 by omega, show sp ≠ nt + 7 by omega, show sp ≠ nt + 8 by omega]) ?_
      refine go1 (v := .pointer (some ⟨B, o, none⟩)) rfl (by simp) ?_
      refine go1 (v := .pointer (some ⟨B, o + off, none⟩)) rfl (by simp) ?_
      refine go1 (v := dv2) rfl (by simp []) ?_
      refine goCall rfl (vs := [.pointer (some ⟨B, o + off, none⟩), dv2]) (by simp) (hT.ap w0 w2 B (o + off) dv2 v (l ++ uvE m.length) m hm2 hd2 (by simp only [List.length_append]; omega) hc0 hM hml hmv) ?_
      rintro e w3 ⟨dv3, rfl, hd3, hm3⟩
      refine ⟨dv3, rfl, go1 (v := dv3) rfl (by simp) (goEnd ?_)⟩
      have fin : ∀ σ', σ' 1 = dv3 → (∀ j, j ≠ 1 → j < nt → σ' j = σ1 j) → Q .normal σ' w3 := fun σ' g1 g2 => by
        have kf : Kp NV nv nt σ σ' := fun j hj1 hj => (g2 j hj1 (by omega)).trans (a1 j (by omega))
        exact hQ σ' w3 (hA.keep kf h3 (by rw [g1]; simpa [List.append_assoc] using hd3) hm3) kf
      exact fin _ (by simp) fun j hj1 hj => by
        simp only [updo, upd, hj1, show j ≠ nt + 1 by omega, show j ≠ nt + 2 by omega, show j ≠ nt + 3 by omega, show j ≠ nt + 4 by omega, show j ≠ nt + 5 by omega, show j ≠ nt + 6 by omega, show j ≠ nt + 7 by omega, show j ≠ nt + 8 by omega, show j ≠ nt + 9 by omega, show j ≠ nt + 10 by omega, show j ≠ nt + 11 by omega, show j ≠ nt + 12 by omega, show j ≠ nt + 13 by omega, if_false]
end
end Go.Msk

namespace Go.Msk
open Go.RowKit
set_option maxRecDepth 100000
def ATop.x (T : ATop) (ver : Int) : Bool := match T.flex with | some n => decide (ver ≥ n) | none => false
section
variable {P : Program} {f : FuncId}
attribute [local simp] gOk updo upd ev RK.val? isShift intBin Addr.add_mk args0 Value.cells undef
end
end Go.Msk

namespace Go.Msk
open Go.RowKit
set_option maxRecDepth 100000
def newCode (z : List Value) (dfl : FuncId) : IC × List RV × Nat :=
  (.seq (.blk [⟨some 0, .mv (.const (.pointer none)), none⟩]) (.seq (.blk [⟨some 1, .alloc z, none⟩]) (.seq (.blk [⟨some 2, .call dfl [.tmp 1], none⟩]) (.seq (.blk [⟨some 0, .mv (.tmp 1), none⟩]) .ret))), [.tmp 0], 3)
def maxCode (v : Int) : IC × List RV × Nat :=
  (.seq (.blk [⟨some 2, .mv (.const (.int .i16 0)), none⟩]) (.seq (.blk [⟨some 2, .mv (.const (.int .i16 v)), none⟩]) .ret), [.tmp 2], 3)
def setCode : IC × List RV × Nat :=
  (.blk [⟨some 4, .mv (.tmp 0), none⟩, ⟨some 5, .mv (.tmp 1), none⟩, ⟨some 6, .nilc (.tmp 4), none⟩, ⟨some 7, .fad (.tmp 6) 0, none⟩, ⟨none, .st (.tmp 7) 1 (.tmp 5), none⟩], [], 8)
def rfCode (f : FuncId) (u : Bool) : IC × List RV × Nat :=
  (.seq (.blk [⟨some 4, .mv (.const .nilIface), none⟩]) (.seq (.blk [⟨some 5, .mv (.tmp 0), none⟩, ⟨some 6, .mv (.tmp 1), none⟩, ⟨some 7, .call f [.tmp 5, .tmp 6, .const (.bool u)], none⟩, ⟨some 4, .mv (.tmp 7), none⟩]) .ret), [.tmp 4], 8)
def impMaxCode (newp mxv : FuncId) : IC × List RV × Nat :=
  (.seq (.blk [⟨some 0, .mv (.const (.int .i64 0)), none⟩]) (.seq (.blk [⟨some 1, .call newp [], none⟩, ⟨some 2, .call mxv [.tmp 1], none⟩, ⟨some 3, .conv .i64 (.tmp 2), none⟩, ⟨some 0, .mv (.tmp 3), none⟩]) .ret), [.tmp 0], 4)
section
variable {P : Program}
attribute [local simp] bnd wpC wpR RI.wp gOk RK.run thenC inBlockC updo upd ev args0 postC rvals RV.val tup_one isShift
end
end Go.Msk
