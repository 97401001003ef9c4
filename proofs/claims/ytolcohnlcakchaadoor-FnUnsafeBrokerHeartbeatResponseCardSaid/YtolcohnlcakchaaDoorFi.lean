/- A small language of resolved operations, and what the generic and the generated functions do in it (part 9). -/
import Derived.Test.YtolcohnlcakchaaDoorFh

namespace Go.Msk
open Go.RowKit
set_option maxRecDepth 100000
def own : Value → Option Nat
  | .slice (some a) _ _ => some a.block
  | _ => none
structure LRaw (w : World) (n0 : Nat) (lv : Value) (css : List (List Value)) : Prop where
  five : ∀ cs ∈ css, cs.length = 5
  sl : (lv = .slice none 0 0 ∧ css = []) ∨ ∃ BA cap rest, lv = .slice (some ⟨BA, 0, none⟩) css.length cap ∧ css.length ≤ cap ∧ n0 ≤ BA ∧ Blk w BA (css.flatten ++ rest) ∧ rest.length = (cap - css.length) * 5
theorem LRaw.mod {w w' : World} {n0 : Nat} {lv : Value} {css : List (List Value)} {S : List Nat} (h : LRaw w n0 lv css) (hm : Mod S w w') (hS : ∀ b, own lv = some b → b ∉ S) : LRaw w' n0 lv css := by
  refine ⟨h.five, ?_⟩
  rcases h.sl with h1 | ⟨BA, cap, rest, h1, h2, h3, h4, h5⟩
  · exact .inl h1
  · exact .inr ⟨BA, cap, rest, h1, h2, h3, h4.mod hm (hS _ (by rw [h1]; rfl)), h5⟩
theorem LRaw.own {w : World} {n0 : Nat} {lv : Value} {css : List (List Value)} (h : LRaw w n0 lv css) {b : Nat} (hb : own lv = some b) : n0 ≤ b ∧ b < w.heap.size := by
  rcases h.sl with ⟨h1, -⟩ | ⟨BA, cap, rest, h1, h2, h3, h4, h5⟩
  · rw [h1] at hb; simp [Msk.own] at hb
  · rw [h1] at hb; simp only [Msk.own, Option.some.injEq] at hb; subst hb; exact ⟨h3, h4.lt⟩
theorem flat5 {css : List (List Value)} (h : ∀ cs ∈ css, cs.length = 5) : css.flatten.length = css.length * 5 := flatten_length h
theorem splice_end {p r es : List Value} {o : Nat} (h : p.length = o) : splice (p ++ r) o es = p ++ (es ++ r.drop es.length) := by
  subst h
  unfold splice
  rw [List.take_left, List.drop_length_add_append]
theorem flat_snoc (css : List (List Value)) (es : List Value) : (css ++ [es]).flatten = css.flatten ++ es := by simp
section
variable {P : Program}
theorem append_tree {σ : Sl} {w : World} {x y : Operand} {lv : Value} {css : List (List Value)} {es : List Value} {n0 sb : Nat} {K : Value → World → Prop} (hx : ev σ x = lv) (hraw : LRaw w n0 lv css) (hn0 : n0 ≤ w.heap.size)
    (hy : ev σ y = .slice (some ⟨sb, 0, none⟩) 1 1) (hsb : Blk w sb es) (h5 : es.length = 5) (hone : ∀ v ∈ es, v.oneCell' = true) (hl : css.length ≤ 2147483647)
    (hK : ∀ lv' w', LRaw w' n0 lv' (css ++ [es]) → (((own lv' = own lv ∧ Mod (own lv).toList w w') ∧ ∃ BA c, lv = .slice (some ⟨BA, 0, none⟩) css.length c ∧ css.length + 1 ≤ c) ∨ (own lv' = some w.heap.size ∧ Mod [] w w')) → K lv' w') : (RK.append x y 5 88).run P σ w K := by
  have hsrc : srcCells w 5 (.slice (some ⟨sb, 0, none⟩) 1 1) = some (1, es) := by
    simp only [srcCells, cellsAt_of' hsb.cells (n := 1 * 5) (by omega), Option.map_some]
  simp only [RK.run, hx, hy]
  have h5' : ∀ cs ∈ css ++ [es], cs.length = 5 := fun cs hc => by
    rcases List.mem_append.1 hc with hc | hc
    · exact hraw.five cs hc
    · simp only [List.mem_singleton] at hc; subst hc; exact h5
  have hfl := flat5 hraw.five
  rcases hraw.sl with ⟨rfl, rfl⟩ | ⟨BA, cap, rest, rfl, h2, h3, h4, hr⟩
  · simp only [hsrc, appendRun]
    rw [if_neg (by omega)]
    refine ⟨by omega, by omega, ?_⟩
    intro T cap rest hc hr
    refine hK _ _ ⟨h5', .inr ⟨w.heap.size, cap, rest, rfl, by simpa using hc, hn0, ?_, by simpa using hr⟩⟩ (.inr ⟨rfl, (Mod.drew _ _).trans (Mod.alloc _ _ _)⟩)
    have := Blk.new w.drew (es ++ rest) T
    simpa using this
  · simp only [hsrc, appendRun]
    by_cases hc : css.length + 1 ≤ cap
    · rw [if_pos hc]
      simp only [Addr.add_mk, Nat.zero_add]
      refine ⟨stOk_many h4 (by simp only [List.length_append]; omega) hone, hK _ _ ⟨h5', .inr ⟨BA, cap, rest.drop 5, by simp, by simpa using hc, h3, ?_, by simp; omega⟩⟩ (.inl ⟨⟨rfl, by simpa [own] using Mod.put (by simp)⟩, BA, cap, rfl, hc⟩)⟩
      have hput := h4.put (o := css.length * 5) (vs := es) (by simp only [List.length_append]; omega)
      have : splice (css.flatten ++ rest) (css.length * 5) es = (css ++ [es]).flatten ++ rest.drop 5 := by
        rw [splice_end hfl, h5, flat_snoc, List.append_assoc]
      rwa [this] at hput
    · rw [if_neg hc]
      refine ⟨by omega, by omega, ?_⟩
      have hco : cellsAt w ⟨BA, 0, none⟩ 0 (css.length * 5) = some css.flatten := by
        have := h4.cells.take css.flatten.length
        rw [List.take_left] at this
        exact cellsAt_of' this hfl
      simp only [hco]
      intro T cap' rest' hc' hr'
      refine hK _ _ ⟨h5', .inr ⟨w.heap.size, cap', rest', by simp, by simpa using hc', hn0, ?_, by simpa using hr'⟩⟩ (.inr ⟨rfl, (Mod.drew _ _).trans (Mod.alloc _ _ _)⟩)
      have := Blk.new w.drew (css.flatten ++ (es ++ rest')) T
      simpa using this
theorem LRaw.setLast {w : World} {n0 : Nat} {lv : Value} {css : List (List Value)} {es cs : List Value} (h : LRaw w n0 lv (css ++ [es])) (h5 : cs.length = 5) (hone : ∀ v ∈ cs, v.oneCell' = true) :
    ∃ BA cap, lv = .slice (some ⟨BA, 0, none⟩) (css.length + 1) cap ∧ n0 ≤ BA ∧ StOk w ⟨BA, css.length * 5, none⟩ cs ∧ LRaw (putCells w ⟨BA, css.length * 5, none⟩ 0 cs) n0 lv (css ++ [cs]) ∧
      Mod [BA] w (putCells w ⟨BA, css.length * 5, none⟩ 0 cs) := by
  have hes : es.length = 5 := h.five es (by simp)
  have h5c : ∀ c ∈ css, c.length = 5 := fun c hc => h.five c (by simp [hc])
  have hfl := flat5 h5c
  rcases h.sl with ⟨-, h1⟩ | ⟨BA, cap, rest, rfl, h2, h3, h4, hr⟩
  · simp at h1
  · refine ⟨BA, cap, by simp, h3, ?_, ⟨fun c hc => ?_, .inr ⟨BA, cap, rest, by simp, by simpa using h2, h3, ?_, by simpa using hr⟩⟩, Mod.put (by simp)⟩
    · exact stOk_many h4 (by rw [flat_snoc]; simp only [List.length_append]; omega) hone
    · rcases List.mem_append.1 hc with hc | hc
      · exact h5c c hc
      · simp only [List.mem_singleton] at hc; subst hc; exact h5
    · have hput := h4.put (o := css.length * 5) (vs := cs) (by rw [flat_snoc]; simp only [List.length_append]; omega)
      have : splice ((css ++ [es]).flatten ++ rest) (css.length * 5) cs = (css ++ [cs]).flatten ++ rest := by
        rw [flat_snoc, flat_snoc, List.append_assoc, splice_mid hfl (by omega), List.append_assoc]
      rwa [this] at hput
structure LS (w0 w : World) (Tb Lb n : Nat) (pre post : List Value) (nl : Bool) (lv : Value) (ts : List TR) (tcs : List (List Value)) : Prop where
  tw : TW w Tb Lb n (pre ++ ([.int .i64 0, .slice none 0 0, .bool nl, lv, .slice none 0 0] ++ post))
  raw : LRaw w w0.heap.size lv tcs
  rep : RepTL (fun b => w0.heap.size ≤ b ∧ own lv ≠ some b) w ts tcs
  mod : Mod [Lb] w0 w
  ltb : Tb < w0.heap.size
  llb : Lb < w0.heap.size
theorem TW.mod {w w' : World} {Tb Lb n : Nat} {cs : List Value} {S : List Nat} (h : TW w Tb Lb n cs) (hm : Mod S w w') (h1 : Tb ∉ S) (h2 : Lb ∉ S) : TW w' Tb Lb n cs := ⟨h.tb.mod hm h1, h.lb.mod hm h2, h.ne⟩
theorem LS.same {w0 w w' : World} {Tb Lb n : Nat} {pre post : List Value} {nl : Bool} {lv : Value} {ts : List TR} {tcs : List (List Value)} (h : LS w0 w Tb Lb n pre post nl lv ts tcs) (hm : Mod [] w w') : LS w0 w' Tb Lb n pre post nl lv ts tcs :=
  ⟨h.tw.mod hm (by simp) (by simp), h.raw.mod hm (by simp), h.rep.mod hm (by simp) (fun _ _ h => h), h.mod.trans hm.nil, h.ltb, h.llb⟩
theorem LS.appended {w0 w wr w' : World} {Tb Lb n : Nat} {pre post : List Value} {nl : Bool} {lv lv' : Value} {ts : List TR} {tcs : List (List Value)} (h : LS w0 w Tb Lb n pre post nl lv ts tcs)
    (hown : (own lv' = own lv ∧ Mod (own lv).toList w w') ∨ (own lv' = some w.heap.size ∧ Mod [] w w')) (hwr : ∀ b, own lv = some b → b < wr.heap.size) (hr0 : w0.heap.size ≤ wr.heap.size) :
    TW w' Tb Lb n (pre ++ ([.int .i64 0, .slice none 0 0, .bool nl, lv, .slice none 0 0] ++ post)) ∧ RepTL (fun b => w0.heap.size ≤ b ∧ own lv' ≠ some b) w' ts tcs ∧ Mod [Lb] w0 w' ∧
    ∀ t cs, RepT (fun b => wr.heap.size ≤ b) w t cs → RepT (fun b => w0.heap.size ≤ b ∧ own lv' ≠ some b) w' t cs := by
  have hlt : ∀ b, own lv = some b → w0.heap.size ≤ b := fun b hb => (h.raw.own hb).1
  have h1 := h.ltb
  have h2 := h.llb
  rcases hown with ⟨ho, hm⟩ | ⟨ho, hm⟩
  · have hS : ∀ b ∈ (own lv).toList, own lv = some b := fun b hb => by simpa using hb
    refine ⟨h.tw.mod hm (fun hc => by have := hlt _ (hS _ hc); omega) (fun hc => by have := hlt _ (hS _ hc); omega), h.rep.mod hm (fun b hb hc => hc.2 (hS b hb)) (fun b _ hb => by rw [ho]; exact hb), ?_, fun t cs ht => ?_⟩
    · refine ⟨hm.os.trans h.mod.os, hm.tape.trans h.mod.tape, hm.output.trans h.mod.output, Nat.le_trans h.mod.size hm.size, fun k hk hn => ?_⟩
      rw [hm.block k (Nat.lt_of_lt_of_le hk h.mod.size) (fun hc => by have := hlt _ (hS _ hc); omega)]
      exact h.mod.block k hk hn
    · refine ht.mod hm (fun b hb hc => by have := hwr _ (hS _ hb); omega) fun b _ hb => ⟨by omega, fun hc => ?_⟩
      rw [ho] at hc
      have := hwr _ hc; omega
  · refine ⟨h.tw.mod hm (by simp) (by simp), h.rep.mod hm (by simp) (fun b hb hc => ⟨hc.1, fun e => ?_⟩), h.mod.trans hm.nil, fun t cs ht => ht.mod hm (by simp) fun b hb hc => ⟨by omega, fun e => ?_⟩⟩
    · rw [ho] at e; simp only [Option.some.injEq] at e; omega
    · rw [ho] at e; simp only [Option.some.injEq] at e; omega
theorem TW.setL {w : World} {Tb Lb n i : Nat} {pre post : List Value} {nl : Bool} {lv lv' : Value} (h : TW w Tb Lb n (pre ++ ([.int .i64 0, .slice none 0 0, .bool nl, lv, .slice none 0 0] ++ post))) (hpre : pre.length = i * 5) (hone : lv'.cells = #[lv']) (h1 : lv'.oneCell' = true) :
    StOk w ⟨Lb, i * 5 + 3, none⟩ lv'.cells.toList ∧ TW (putCells w ⟨Lb, i * 5 + 3, none⟩ 0 lv'.cells.toList) Tb Lb n (pre ++ ([.int .i64 0, .slice none 0 0, .bool nl, lv', .slice none 0 0] ++ post)) ∧
      Mod [Lb] w (putCells w ⟨Lb, i * 5 + 3, none⟩ 0 lv'.cells.toList) := by
  rw [hone]
  have hput : Mod [Lb] w (putCells w ⟨Lb, i * 5 + 3, none⟩ 0 [lv']) := Mod.put (by simp)
  refine ⟨stOk_many h.lb (by simp; omega) (by simpa using h1), ⟨h.tb.mod hput (by simpa using h.ne), ?_, h.ne⟩, hput⟩
  have hp := h.lb.put (o := i * 5 + 3) (vs := [lv']) (by simp; omega)
  have : splice (pre ++ ([.int .i64 0, .slice none 0 0, .bool nl, lv, .slice none 0 0] ++ post)) (i * 5 + 3) [lv'] = pre ++ ([.int .i64 0, .slice none 0 0, .bool nl, lv', .slice none 0 0] ++ post) := by
    have e1 : ∀ x, pre ++ ([.int .i64 0, .slice none 0 0, .bool nl, x, .slice none 0 0] ++ post) = (pre ++ [.int .i64 0, .slice none 0 0, .bool nl]) ++ ([x] ++ ([.slice none 0 0] ++ post)) := fun x => by simp
    rw [e1, e1]
    exact splice_mid (old := [lv]) (vs := [lv']) (by simp only [List.length_append, List.length_cons, List.length_nil]; omega) rfl
  rwa [this] at hp
end
end Go.Msk

namespace Go.Msk
open Go.RowKit
set_option maxRecDepth 100000
def headA (t i off iv esz : Nat) : List DI :=
  [nd ⟨some t, .fad (.tmp 3) 3, none⟩, nd ⟨some (t + 1), .ld (.tmp t), none⟩, nd ⟨some (t + 2), .iad (.tmp (t + 1)) (.const (.int .i64 i)) 5, none⟩, nd ⟨some (t + 3), .fad (.tmp (t + 2)) 3, none⟩, nd ⟨some (t + 4), .ld (.tmp (t + 3)), none⟩,
   nd ⟨some (t + 5), .mv (.tmp 0), none⟩, nd ⟨some (t + 6), .nilc (.tmp (t + 5)), none⟩, nd ⟨some (t + 7), .fad (.tmp (t + 6)) off, none⟩, nd ⟨some (t + 8), .ld (.tmp (t + 7)), none⟩, nd ⟨some (t + 9), .mv (.tmp iv), none⟩,
   nd ⟨some (t + 10), .iad (.tmp (t + 8)) (.tmp (t + 9)) esz, none⟩]
def appA (k : EK) (a i off iv esz : Nat) : IC :=
  .seq (.drw (headA a i off iv esz ++ (k.dis (a + 10) (a + 11) 11 ++ [nd ⟨some (a + 11 + k.n), .len (.tmp (a + 4)), none⟩, ⟨⟨some (a + 12 + k.n), .bslice 1 tzero [(0, 5, .const (.agg tzero.toArray))], none⟩, true, []⟩]))
      [⟨some (a + 13 + k.n), .append (.tmp (a + 4)) (.tmp (a + 12 + k.n)) 5 88, none⟩, ⟨some (a + 14 + k.n), .iad (.tmp (a + 1)) (.const (.int .i64 i)) 5, none⟩, ⟨some (a + 15 + k.n), .fad (.tmp (a + 14 + k.n)) 3, none⟩,
       ⟨none, .st (.tmp (a + 15 + k.n)) 1 (.tmp (a + 13 + k.n)), none⟩])
    (.blk [⟨some (a + 16 + k.n), .iad (.tmp (a + 13 + k.n)) (.tmp (a + 11 + k.n)) 5, none⟩, ⟨none, .st (.tmp (a + 16 + k.n)) 5 (.tmp (k.val (a + 11))), none⟩])
def appBl (k : EK) (b i off iv esz : Nat) : List DI :=
  [nd ⟨some b, .fad (.tmp 3) 3, none⟩, nd ⟨some (b + 1), .ld (.tmp b), none⟩] ++ (headA (b + 2) i off iv esz ++ (k.dis (b + 12) (b + 13) 13 ++
      [⟨⟨some (b + 13 + k.n), .bslice 1 tzero [(0, 5, .tmp (k.val (b + 13)))], none⟩, true, k.node 13⟩,
       ⟨⟨some (b + 14 + k.n), .append (.tmp (b + 6)) (.tmp (b + 13 + k.n)) 5 88, none⟩, true, k.node 13 ++ [13 + k.n]⟩,
       ⟨⟨some (b + 15 + k.n), .iad (.tmp (b + 1)) (.const (.int .i64 i)) 5, none⟩, false, k.node 13 ++ [13 + k.n, 14 + k.n]⟩,
       ⟨⟨some (b + 16 + k.n), .fad (.tmp (b + 15 + k.n)) 3, none⟩, false, k.node 13 ++ [13 + k.n, 14 + k.n]⟩]))
def appB (k : EK) (b i off iv esz : Nat) : IC :=
  .drw (appBl k b i off iv esz) [⟨none, .st (.tmp (b + 16 + k.n)) 1 (.tmp (b + 14 + k.n)), none⟩]
section
variable {P : Program}
theorem headA_walk {l : List DI} {R : World → World → Prop} {Φ : Nat → Value → World → Prop} {w0 : World} {E : Sl → Prop} {r : List DI} {idx t i off iv esz Tb Lb n B base A ao len cap j : Nat} {σ : Sl} {lv : Value} (ht : 4 ≤ t) (hiv : iv < t)
    (h0 : σ 0 = .pointer (some ⟨B, base, none⟩)) (h3 : σ 3 = .pointer (some ⟨Tb, 0, none⟩)) (hj : σ iv = .int .i64 j) (hi : i < n) (hjl : j < len)
    (c3 : ∀ w, R w0 w → w.cell? ⟨Tb, 3, none⟩ = some (.slice (some ⟨Lb, 0, none⟩) n n)) (cl : ∀ w, R w0 w → w.cell? ⟨Lb, i * 5 + 3, none⟩ = some lv) (hc : ∀ w, R w0 w → w.cell? ⟨B, base + off, none⟩ = some (.slice (some ⟨A, ao, none⟩) len cap))
    (h : ∀ σ', Ag t σ σ' → σ' (t + 1) = .slice (some ⟨Lb, 0, none⟩) n n → σ' (t + 4) = lv → σ' (t + 10) = .pointer (some ⟨A, ao + j * esz, none⟩) → walk P l R Φ NT w0 E (idx + 11) r σ') : walk P l R Φ NT w0 E idx (headA t i off iv esz ++ r) σ := by
  simp only [headA, nd, List.cons_append, List.nil_append]
  refine walk_step (v := .pointer (some ⟨Tb, 3, none⟩)) (fun w hw => by simp only [RK.val?, ev, h3, Addr.add_mk, Nat.zero_add]) ?_
  refine walk_step (v := .slice (some ⟨Lb, 0, none⟩) n n) (fun w hw => by simp only [RK.val?, ev, updo, upd_same, c3 w hw]) ?_
  refine walk_step (v := .pointer (some ⟨Lb, i * 5, none⟩)) (fun w hw => by
    simp only [RK.val?, ev, updo, upd_same]; rw [if_pos (by omega)]; simp [Addr.add_mk]) ?_
  refine walk_step (v := .pointer (some ⟨Lb, i * 5 + 3, none⟩)) (fun w hw => by simp only [RK.val?, ev, updo, upd_same, Addr.add_mk]) ?_
  refine walk_step (v := lv) (fun w hw => by simp only [RK.val?, ev, updo, upd_same, cl w hw]) ?_
  refine walk_step (v := .pointer (some ⟨B, base, none⟩)) (fun w hw => by
    simp only [RK.val?, ev, updo, upd, show (0 : Nat) ≠ t by omega, show (0 : Nat) ≠ t + 1 by omega, show (0 : Nat) ≠ t + 2 by omega, show (0 : Nat) ≠ t + 3 by omega, show (0 : Nat) ≠ t + 4 by omega, if_false, h0]) ?_
  refine walk_step (v := .pointer (some ⟨B, base, none⟩)) (fun w hw => by simp only [RK.val?, ev, updo, upd_same]) ?_
  refine walk_step (v := .pointer (some ⟨B, base + off, none⟩)) (fun w hw => by simp only [RK.val?, ev, updo, upd_same, Addr.add_mk]) ?_
  refine walk_step (v := .slice (some ⟨A, ao, none⟩) len cap) (fun w hw => by simp only [RK.val?, ev, updo, upd_same, hc w hw]) ?_
  refine walk_step (v := .int .i64 j) (fun w hw => by
    simp only [RK.val?, ev, updo, upd, show iv ≠ t by omega, show iv ≠ t + 1 by omega, show iv ≠ t + 2 by omega, show iv ≠ t + 3 by omega, show iv ≠ t + 4 by omega, show iv ≠ t + 5 by omega, show iv ≠ t + 6 by omega, show iv ≠ t + 7 by omega,
      show iv ≠ t + 8 by omega, if_false, hj]) ?_
  refine walk_step (v := .pointer (some ⟨A, ao + j * esz, none⟩)) (fun w hw => by
    simp only [RK.val?, ev, updo, upd, show t + 8 ≠ t + 9 by omega, if_false, if_true]; rw [if_pos (by omega)]; simp [Addr.add_mk]) ?_
  refine h _ (fun k hk => ?_) ?_ ?_ ?_
  · simp only [updo, upd, show k ≠ t by omega, show k ≠ t + 1 by omega, show k ≠ t + 2 by omega, show k ≠ t + 3 by omega, show k ≠ t + 4 by omega, show k ≠ t + 5 by omega, show k ≠ t + 6 by omega, show k ≠ t + 7 by omega,
      show k ≠ t + 8 by omega, show k ≠ t + 9 by omega, show k ≠ t + 10 by omega, if_false]
  · simp only [updo, upd, show t + 1 ≠ t + 2 by omega, show t + 1 ≠ t + 3 by omega, show t + 1 ≠ t + 4 by omega, show t + 1 ≠ t + 5 by omega, show t + 1 ≠ t + 6 by omega, show t + 1 ≠ t + 7 by omega,
      show t + 1 ≠ t + 8 by omega, show t + 1 ≠ t + 9 by omega, show t + 1 ≠ t + 10 by omega, if_false, if_true]
  · simp only [updo, upd, show t + 4 ≠ t + 5 by omega, show t + 4 ≠ t + 6 by omega, show t + 4 ≠ t + 7 by omega, show t + 4 ≠ t + 8 by omega, show t + 4 ≠ t + 9 by omega, show t + 4 ≠ t + 10 by omega, if_false, if_true]
  · simp only [updo, upd_same]
theorem LRaw.len {w : World} {n0 : Nat} {lv : Value} {css : List (List Value)} (h : LRaw w n0 lv css) : ∃ b c, lv = .slice b css.length c := by
  rcases h.sl with ⟨rfl, rfl⟩ | ⟨BA, cap, rest, h1, -⟩
  · exact ⟨_, _, rfl⟩
  · exact ⟨_, _, h1⟩
theorem LRaw.one {w : World} {n0 : Nat} {lv : Value} {css : List (List Value)} (h : LRaw w n0 lv css) : lv.cells = #[lv] ∧ lv.oneCell' = true := by
  obtain ⟨b, c, rfl⟩ := h.len
  exact ⟨rfl, rfl⟩
theorem EK.n_pos (k : EK) : 1 ≤ k.n := by cases k with | num c => cases c <;> simp [EK.n] | _ => simp [EK.n]
theorem EK.node_lt {k : EK} {idx j : Nat} (h : j ∈ k.node idx) : idx ≤ j ∧ j < idx + k.n := by
  cases k with
  | num c => simp [EK.node] at h
  | str => simp only [EK.node, List.mem_singleton] at h; subst h; simp [EK.n]
  | tell f => simp only [EK.node, List.mem_singleton] at h; subst h; simp [EK.n]
theorem EK.dis_node {k : EK} {p e idx j : Nat} (h : j ∈ k.node idx) : ∃ d, (k.dis p e idx)[j - idx]? = some d ∧ d.node = true ∧ d.ri.guard = none ∧ d.ri.dst = some (e + (j - idx)) := by
  cases k with
  | num c => simp [EK.node] at h
  | str => simp only [EK.node, List.mem_singleton] at h; subst h; simp [EK.dis]
  | tell f => simp only [EK.node, List.mem_singleton] at h; subst h; simp [EK.dis]
theorem EK.dis_length (k : EK) (p e idx : Nat) : (k.dis p e idx).length = k.n := by
  cases k with | num c => cases c <;> rfl | _ => rfl
def BS (n0 : Nat) (es : Value → Prop) (v : Value) (w : World) : Prop := ∃ sb cs, v = .slice (some ⟨sb, 0, none⟩) 1 1 ∧ n0 ≤ sb ∧ Blk w sb cs ∧ cs.length = 5 ∧ es (.agg cs.toArray)
theorem bslice_run {σ : Sl} {w : World} {x : Operand} {cs : List Value} {n0 : Nat} {K : Value → World → Prop} (hx : ev σ x = .agg cs.toArray) (h5 : cs.length = 5) (hn : n0 ≤ w.heap.size)
    (hK : ∀ v w', BS n0 (fun v => v = .agg cs.toArray) v w' → Mod [] w w' → K v w') : (RK.bslice 1 tzero [(0, 5, x)]).run P σ w K := by
  have hf : fillL (zrep 1 tzero) [(0, 5, Value.agg cs.toArray)] = some cs := by
    have e : zrep 1 tzero = tzero := by simp [zrep]
    rw [e]
    have ec : (Value.agg cs.toArray).cells = cs.toArray := rfl
    simp only [fillL]
    rw [if_pos ⟨by rw [ec]; simp [h5], by simp [tzero]⟩, ec]
    simp [splice, h5, tzero]
  simp only [RK.run, List.map_cons, List.map_nil, hx, hf]
  intro T
  exact hK _ _ ⟨w.heap.size, cs, rfl, hn, Blk.new _ _ _, h5, rfl⟩ (Mod.alloc _ _ _)
theorem appA_wp {k : EK} {T : List GV → Prop} (hk : k.Ok P T) {a i off iv esz Tb Lb n B base A ao len cap j : Nat} {O : List Nat} {pre post : List Value} {nl : Bool} {lv : Value} {ts : List TR} {tcs : List (List Value)} {g : GV} {gcs : List Value}
    {σ : Sl} {w0 w : World} {Q : Exit → Sl → World → Prop} (ht : 4 ≤ a) (hiv : iv < a) (h0 : σ 0 = .pointer (some ⟨B, base, none⟩)) (h3 : σ 3 = .pointer (some ⟨Tb, 0, none⟩)) (hj : σ iv = .int .i64 j) (hi : i < n) (hjl : j < len)
    (hls : LS w0 w Tb Lb n pre post nl lv ts tcs) (hpre : pre.length = i * 5) (hc : w.cell? ⟨B, base + off, none⟩ = some (.slice (some ⟨A, ao, none⟩) len cap))
    (hg : k.ty T g) (hr : Rep O w g gcs) (hcs : Cells w ⟨A, ao + j * esz, none⟩ gcs) (hlen : tcs.length ≤ 2147483647)
    (hQ : ∀ σ' w' lv' cs, Ag a σ σ' → LS w0 w' Tb Lb n pre post nl lv' (ts ++ [g.told]) (tcs ++ [cs]) → Q .normal σ' w') : wpC P (appA k a i off iv esz) Q σ w := by
  have hn := k.n_pos
  have hls' : LS w0 w.drew Tb Lb n pre post nl lv ts tcs := hls.same (Mod.drew _ _)
  obtain ⟨lb, lc, hlv⟩ := hls.raw.len
  have hcl : ∀ w1, Mod [] w.drew w1 → w1.cell? ⟨Lb, i * 5 + 3, none⟩ = some lv := fun w1 hm => by
    rw [(hls'.same hm).tw.lb.cell]
    rw [← hpre]; simp
  simp only [appA, wpC]
  refine ⟨fun w w' => Mod [] w w', fun jj v w1 => if jj = 12 + k.n then BS w.heap.size (fun v => v = .agg tzero.toArray) v w1 else k.Phi w.heap.size g v w1, NT, fun w => Mod.refl _ w, fun _ _ _ => Mod.trans, fun jj v w1 w2 h hm => ?_, fun _ => trivial, ?_⟩
  · dsimp only at h hm ⊢
    split at h
    · rename_i hjj
      rw [if_pos hjj]
      obtain ⟨sb, cs, h1, h2, h3, h4⟩ := h
      exact ⟨sb, cs, h1, h2, h3.mod hm (by simp), h4⟩
    · rename_i hjj
      rw [if_neg hjj]; exact h.mod hm (by simp)
  refine headA_walk (R := fun w w' => Mod [] w w') ht hiv h0 h3 hj hi hjl (fun w1 hm => (hls'.same hm).tw.tb.cell 3) hcl (fun w1 hm => cell_mod (w := w.drew) hc hm (by simp)) fun σ1 a1 s1 s4 s10 => ?_
  refine EK.walk_wp (S := []) hk (by omega) s10 (fun w1 hm => hm) (fun _ _ h => h) (by simp) hg (hr.fresh (Mod.drew [] w) (by simp) (fun x hx => .inl hx)) (hcs.mod (Mod.drew [] w) (.inr (by simp))) (.inr trivial) (fun jj v w1 hjj => ?_) fun σ2 a2 hval => ?_
  · have := EK.node_lt hjj
    rw [if_neg (by omega)]; exact Iff.rfl
  refine walk_step (v := .int .i64 tcs.length) (fun w1 _ => by simp only [RK.val?, ev, a2 (a + 4) (by omega), s4, hlv]) ?_
  refine walk_node (fun w1 hm _ => ?_) fun u hu => ?_
  · refine bslice_run (cs := tzero) (n0 := w.heap.size) rfl rfl hm.size fun v w2 hbs hm2 => ?_
    refine ⟨hm2, ?_⟩
    rw [if_pos (by omega)]; exact hbs
  simp only [walk]
  intro w1 hm hkn
  have hm1 : Mod [] w w1 := (Mod.drew _ _).trans hm
  have hls1 := hls.same hm1
  have fr : ∀ q, q < a + 11 + k.n → (updo (updo σ2 (some (a + 11 + k.n)) (.int .i64 tcs.length)) (some (a + 12 + k.n)) u) q = σ2 q := fun q hq => by
    simp only [updo, upd, show q ≠ a + 12 + k.n by omega, show q ≠ a + 11 + k.n by omega, if_false]
  have hkv : k.val (a + 11) < a + 11 + k.n := by unfold EK.val; omega
  have hlen0 : (headA a i off iv esz).length = 11 := rfl
  obtain ⟨cs, hv, htree⟩ := hval w1 fun jj hjj => by
    obtain ⟨d, hd1, hd2, hd3, hd4⟩ := EK.dis_node (p := a + 10) (e := a + 11) hjj
    have hlt := EK.node_lt hjj
    have := hkn jj (by simp [headA, EK.dis_length]; omega) d (by
      rw [List.getElem?_append_right (by omega), hlen0, List.getElem?_append_left (by rw [EK.dis_length]; omega)]; exact hd1) hd2 (by rw [hd3]; rfl) _ hd4
    rwa [fr _ (by omega)] at this
  have hbs := hkn (12 + k.n) (by simp [headA, EK.dis_length]; omega) ⟨⟨some (a + 12 + k.n), .bslice 1 tzero [(0, 5, .const (.agg tzero.toArray))], none⟩, true, []⟩ (by
    rw [List.getElem?_append_right (by omega), hlen0, List.getElem?_append_right (by rw [EK.dis_length]; omega), EK.dis_length, show 12 + k.n - 11 - k.n = 1 by omega]; rfl) rfl rfl _ rfl
  dsimp only at hbs
  rw [if_pos rfl] at hbs
  simp only [updo, upd_same] at hbs
  obtain ⟨sb, es, rfl, hsb, hblk, h5, hes⟩ := hbs
  have hes' : es = tzero := by
    have := congrArg (fun v => match v with | Value.agg a => a.toList | _ => []) hes
    simpa using this
  subst hes'
  simp only [wpR, RI.wp, gOk, if_true]
  refine append_tree (lv := lv) (css := tcs) (n0 := w0.heap.size) ((fr (a + 4) (by omega)).trans ((a2 _ (by omega)).trans s4)) hls1.raw hls1.mod.size (by simp only [ev, updo, upd_same]) hblk rfl (by simp [tzero, Value.oneCell'])
    hlen fun lv' w2 hraw2 hown => ?_
  obtain ⟨htw2, hrep2, hm02, htree2⟩ := hls1.appended (wr := w) (hown.imp And.left id) (fun b hb => (hls.raw.own hb).2) hls.mod.size
  obtain ⟨o1, o2⟩ := hraw2.one
  obtain ⟨k1, k2, k3⟩ := htw2.setL hpre o1 o2
  have b1 : ∀ q, q < a + 11 + k.n → ∀ x y z, (updo (updo (updo (updo (updo σ2 (some (a + 11 + k.n)) (.int .i64 tcs.length)) (some (a + 12 + k.n)) (.slice (some ⟨sb, 0, none⟩) 1 1)) (some (a + 13 + k.n)) x) (some (a + 14 + k.n)) y) (some (a + 15 + k.n)) z) q = σ2 q := fun q hq x y z => by
    simp only [updo, upd, show q ≠ a + 11 + k.n by omega, show q ≠ a + 12 + k.n by omega, show q ≠ a + 13 + k.n by omega, show q ≠ a + 14 + k.n by omega, show q ≠ a + 15 + k.n by omega, if_false]
  have st1 : σ2 (a + 1) = .slice (some ⟨Lb, 0, none⟩) n n := by rw [a2 _ (by omega), s1]
  simp only [RK.run, ev]
  have c1 : ∀ x, updo (updo (updo σ2 (some (a + 11 + k.n)) (.int .i64 tcs.length)) (some (a + 12 + k.n)) (.slice (some ⟨sb, 0, none⟩) 1 1)) (some (a + 13 + k.n)) x (a + 1) = .slice (some ⟨Lb, 0, none⟩) n n := fun x => by
    simp only [updo, upd, show a + 1 ≠ a + 11 + k.n by omega, show a + 1 ≠ a + 12 + k.n by omega, show a + 1 ≠ a + 13 + k.n by omega, if_false, st1]
  simp only [c1]
  refine ⟨by omega, by omega, ?_⟩
  simp only [updo, upd_same, Int.toNat_natCast, Addr.add_mk, Nat.zero_add]
  have c13 : ∀ x y z q, upd (upd (upd q (a + 13 + k.n) x) (a + 14 + k.n) y) (a + 15 + k.n) z (a + 13 + k.n) = x := fun x y z q => by
    simp only [upd, show a + 13 + k.n ≠ a + 14 + k.n by omega, show a + 13 + k.n ≠ a + 15 + k.n by omega, if_false, if_true]
  simp only [c13]
  refine ⟨by rw [o1]; rfl, k1, ?_⟩
  simp only [thenC, c13]
  have hraw3 := hraw2.mod k3 (fun b hb => by
    have := (hraw2.own hb).1; have := hls.llb; simp; omega)
  obtain ⟨BA, cap', rfl, hBA, q1, q2, q3⟩ := hraw3.setLast htree.five htree.oneCell
  have c11 : ∀ x y z, upd (upd (upd (upd (upd σ2 (a + 11 + k.n) (.int .i64 tcs.length)) (a + 12 + k.n) x) (a + 13 + k.n) y) (a + 14 + k.n) z) (a + 15 + k.n) (.pointer (some ⟨Lb, i * 5 + 3, none⟩)) (a + 11 + k.n) = .int .i64 tcs.length := fun x y z => by
    simp only [upd, show a + 11 + k.n ≠ a + 12 + k.n by omega, show a + 11 + k.n ≠ a + 13 + k.n by omega, show a + 11 + k.n ≠ a + 14 + k.n by omega, show a + 11 + k.n ≠ a + 15 + k.n by omega, if_false, if_true]
  simp only [c11]
  refine ⟨by omega, by omega, ?_⟩
  simp only [Int.toNat_natCast, Addr.add_mk, Nat.zero_add]
  have cv : ∀ x y z u, upd (upd (upd (upd (upd (upd σ2 (a + 11 + k.n) (.int .i64 tcs.length)) (a + 12 + k.n) x) (a + 13 + k.n) y) (a + 14 + k.n) z) (a + 15 + k.n) (.pointer (some ⟨Lb, i * 5 + 3, none⟩))) (a + 16 + k.n) u (k.val (a + 11)) = .agg cs.toArray := fun x y z u => by
    rw [← hv]
    simp only [upd, show k.val (a + 11) ≠ a + 11 + k.n by omega, show k.val (a + 11) ≠ a + 12 + k.n by omega, show k.val (a + 11) ≠ a + 13 + k.n by omega, show k.val (a + 11) ≠ a + 14 + k.n by omega, show k.val (a + 11) ≠ a + 15 + k.n by omega,
      show k.val (a + 11) ≠ a + 16 + k.n by omega, if_false]
  simp only [cv]
  have ec : (Value.agg cs.toArray).cells = cs.toArray := rfl
  rw [ec]
  refine ⟨by simp [htree.five], by simpa using q1, ?_⟩
  have hok : own (.slice (some ⟨BA, 0, none⟩) (tcs.length + 1) cap') = some BA := rfl
  have hLB : Lb < w0.heap.size := hls.llb
  have hTB : Tb < w0.heap.size := hls.ltb
  refine hQ _ _ (.slice (some ⟨BA, 0, none⟩) (tcs.length + 1) cap') cs (fun q hq => ?_) ⟨(k2.mod q3 (by simp; omega) (by simp; omega)), q2, ?_, ?_, hls.ltb, hls.llb⟩
  · simp only [upd, show q ≠ a + 11 + k.n by omega, show q ≠ a + 12 + k.n by omega, show q ≠ a + 13 + k.n by omega, show q ≠ a + 14 + k.n by omega, show q ≠ a + 15 + k.n by omega, show q ≠ a + 16 + k.n by omega, if_false]
    rw [a2 _ (by omega), a1 _ hq]
  · have hx : RepTL (fun b => w0.heap.size ≤ b ∧ own (.slice (some ⟨BA, 0, none⟩) (tcs.length + 1) cap') ≠ some b) w2 (ts ++ [g.told]) (tcs ++ [cs]) := hrep2.append (.cons (htree2 _ _ htree) .nil)
    refine (hx.mod k3 (fun b hb hc => ?_) (fun _ _ h => h)).mod q3 (fun b hb hc => ?_) (fun _ _ h => h)
    · simp only [List.mem_singleton] at hb; omega
    · simp only [List.mem_singleton] at hb; exact hc.2 (by rw [hok, hb])
  · refine ⟨q3.os.trans (k3.os.trans hm02.os), q3.tape.trans (k3.tape.trans hm02.tape), q3.output.trans (k3.output.trans hm02.output), Nat.le_trans hm02.size (Nat.le_trans k3.size q3.size), fun b hb hnb => ?_⟩
    rw [q3.block b (Nat.lt_of_lt_of_le hb (Nat.le_trans hm02.size k3.size)) (by simp; omega), k3.block b (Nat.lt_of_lt_of_le hb hm02.size) hnb]
    exact hm02.block b hb hnb
end
end Go.Msk

namespace Go.Msk
open Go.RowKit
set_option maxRecDepth 100000
def BT (n0 : Nat) (t : TR) (v : Value) (w : World) : Prop := ∃ sb cs, v = .slice (some ⟨sb, 0, none⟩) 1 1 ∧ n0 ≤ sb ∧ Blk w sb cs ∧ RepT (fun b => n0 ≤ b) w t cs
section
variable {P : Program}
theorem BT.mod {n0 : Nat} {t : TR} {v : Value} {w w' : World} {S : List Nat} (h : BT n0 t v w) (hm : Mod S w w') (hS : ∀ b ∈ S, b < n0) : BT n0 t v w' := by
  obtain ⟨sb, cs, h1, h2, h3, h4⟩ := h
  exact ⟨sb, cs, h1, h2, h3.mod hm (fun hc => by have := hS _ hc; omega), h4.mod hm (fun b hb hc => by have := hS b hb; omega) fun _ _ h => h⟩
theorem appBl_node {k : EK} {b i off iv esz jj : Nat} (h : jj ∈ k.node 13) : ∃ d, (appBl k b i off iv esz)[jj]? = some d ∧ d.node = true ∧ d.ri.guard = none ∧ d.ri.dst = some (b + 13 + (jj - 13)) := by
  obtain ⟨d, hd1, hd2⟩ := EK.dis_node (p := b + 12) (e := b + 13) h
  have hlt := EK.node_lt h
  have hlen0 : (headA (b + 2) i off iv esz).length = 11 := rfl
  refine ⟨d, ?_, hd2⟩
  unfold appBl
  rw [List.getElem?_append_right (by simp; omega), List.getElem?_append_right (by rw [hlen0]; simp; omega), hlen0, List.getElem?_append_left (by rw [EK.dis_length]; simp; omega)]
  simp only [List.length_cons, List.length_nil]
  rw [show jj - (0 + 1 + 1) - 11 = jj - 13 by omega]; exact hd1
theorem appBl_tail {k : EK} {b i off iv esz jj : Nat} : (appBl k b i off iv esz)[13 + k.n + jj]? = ([⟨⟨some (b + 13 + k.n), .bslice 1 tzero [(0, 5, .tmp (k.val (b + 13)))], none⟩, true, k.node 13⟩,
       ⟨⟨some (b + 14 + k.n), .append (.tmp (b + 6)) (.tmp (b + 13 + k.n)) 5 88, none⟩, true, k.node 13 ++ [13 + k.n]⟩,
       ⟨⟨some (b + 15 + k.n), .iad (.tmp (b + 1)) (.const (.int .i64 i)) 5, none⟩, false, k.node 13 ++ [13 + k.n, 14 + k.n]⟩,
       ⟨⟨some (b + 16 + k.n), .fad (.tmp (b + 15 + k.n)) 3, none⟩, false, k.node 13 ++ [13 + k.n, 14 + k.n]⟩] : List DI)[jj]? := by
  have hlen0 : (headA (b + 2) i off iv esz).length = 11 := rfl
  unfold appBl
  rw [List.getElem?_append_right (by simp; omega), List.getElem?_append_right (by rw [hlen0]; simp; omega), hlen0, List.getElem?_append_right (by rw [EK.dis_length]; simp; omega), EK.dis_length]
  simp only [List.length_cons, List.length_nil]
  rw [show 13 + k.n + jj - (0 + 1 + 1) - 11 - k.n = jj by omega]
theorem appBl_length (k : EK) (b i off iv esz : Nat) : (appBl k b i off iv esz).length = 17 + k.n := by
  have hlen0 : (headA (b + 2) i off iv esz).length = 11 := rfl
  unfold appBl
  simp only [List.length_append, List.length_cons, List.length_nil, hlen0, EK.dis_length]; omega
theorem appB_core {k : EK} {T : List GV → Prop} (hk : k.Ok P T) {a i off iv esz Tb Lb n B base A ao len cap j : Nat} {O S : List Nat} {pre post : List Value} {nl : Bool} {lv : Value} {ts : List TR} {tcs : List (List Value)} {g : GV} {gcs : List Value}
    {σ : Sl} {w0 w : World} {Q : Exit → Sl → World → Prop} {R : World → World → Prop} {App : Value → World → Prop} (ht : 4 ≤ a) (hiv : iv < a) (h0 : σ 0 = .pointer (some ⟨B, base, none⟩)) (h3 : σ 3 = .pointer (some ⟨Tb, 0, none⟩)) (hj : σ iv = .int .i64 j) (hi : i < n) (hjl : j < len)
    (hls : LS w0 w Tb Lb n pre post nl lv ts tcs) (hpre : pre.length = i * 5) (hc : w.cell? ⟨B, base + off, none⟩ = some (.slice (some ⟨A, ao, none⟩) len cap)) (hB : B < w0.heap.size) (hA : A < w0.heap.size)
    (hg : k.ty T g) (hr : Rep O w g gcs) (hcs : Cells w ⟨A, ao + j * esz, none⟩ gcs)
    (hS : ∀ b ∈ S, b ∈ O ∧ own lv = some b)
    (hRr : ∀ w, R w w) (hRt : ∀ u v w, R u v → R v w → R u w) (hRS : ∀ w1 w2, R w1 w2 → Mod S w1 w2) (hR0 : ∀ w1 w2, Mod [] w1 w2 → R w1 w2) (hAst : ∀ v w1 w2, App v w1 → R w1 w2 → App v w2)
    (happ : ∀ (σ : Sl) (x y : Operand) (w1 : World), R w.drew w1 → ev σ x = lv → BT w.heap.size g.told (ev σ y) w1 → (RK.append x y 5 88).run P σ w1 fun v w' => R w1 w' ∧ App v w')
    (hfin : ∀ w1 v, R w.drew w1 → App v w1 → ∃ cs, LRaw w1 w0.heap.size v (tcs ++ [cs]) ∧ (∀ b, own v = some b → own lv = some b ∨ w.heap.size ≤ b) ∧ RepT (fun b => w0.heap.size ≤ b ∧ own v ≠ some b) w1 g.told cs ∧ RepTL (fun b => w0.heap.size ≤ b ∧ own v ≠ some b) w1 ts tcs)
    (hQ : ∀ σ' w' lv' cs, Ag a σ σ' → LS w0 w' Tb Lb n pre post nl lv' (ts ++ [g.told]) (tcs ++ [cs]) → Q .normal σ' w') : wpC P (appB k a i off iv esz) Q σ w := by
  have hn := k.n_pos
  have hown : ∀ b ∈ S, w0.heap.size ≤ b ∧ b < w.heap.size := fun b hb => hls.raw.own (hS b hb).2
  have hTb := hls.ltb
  have hLb := hls.llb
  have nT : Tb ∉ S := fun hx => by have := hown _ hx; omega
  have nL : Lb ∉ S := fun hx => by have := hown _ hx; omega
  have nB : B ∉ S := fun hx => by have := hown _ hx; omega
  have nA : ∀ x ∈ S, x ≠ A := fun x hx e => by have := hown _ hx; omega
  have hls' : LS w0 w.drew Tb Lb n pre post nl lv ts tcs := hls.same (Mod.drew _ _)
  have htw : ∀ w1, R w.drew w1 → TW w1 Tb Lb n (pre ++ ([.int .i64 0, .slice none 0 0, .bool nl, lv, .slice none 0 0] ++ post)) := fun w1 hm => hls'.tw.mod (hRS _ _ hm) nT nL
  have c3 : ∀ w1, R w.drew w1 → w1.cell? ⟨Tb, 3, none⟩ = some (.slice (some ⟨Lb, 0, none⟩) n n) := fun w1 hm => (htw w1 hm).tb.cell 3
  have hcl : ∀ w1, R w.drew w1 → w1.cell? ⟨Lb, i * 5 + 3, none⟩ = some lv := fun w1 hm => by
    rw [(htw w1 hm).lb.cell]
    rw [← hpre]; simp
  simp only [appB, wpC]
  refine ⟨R, fun jj v w1 => if jj = 13 + k.n then BT w.heap.size g.told v w1 else if jj = 14 + k.n then App v w1 else k.Phi w.heap.size g v w1, NT, hRr, hRt, fun jj v w1 w2 h hm => ?_, fun _ => trivial, ?_⟩
  · dsimp only at h ⊢
    split at h
    · rename_i hjj
      rw [if_pos hjj]; exact h.mod (hRS _ _ hm) fun b hb => (hown b hb).2
    · rename_i hjj
      rw [if_neg hjj]
      split at h
      · rename_i hjj2
        rw [if_pos hjj2]; exact hAst _ _ _ h hm
      · rename_i hjj2
        rw [if_neg hjj2]; exact h.mod (hRS _ _ hm) fun b hb => (hown b hb).2
  have hunf : ∀ (l : List DI) E, walk P l R (fun jj v w1 => if jj = 13 + k.n then BT w.heap.size g.told v w1 else if jj = 14 + k.n then App v w1 else k.Phi w.heap.size g v w1) NT w.drew E 0 (appBl k a i off iv esz) σ =
      walk P l R (fun jj v w1 => if jj = 13 + k.n then BT w.heap.size g.told v w1 else if jj = 14 + k.n then App v w1 else k.Phi w.heap.size g v w1) NT w.drew E 0 ([nd ⟨some a, .fad (.tmp 3) 3, none⟩, nd ⟨some (a + 1), .ld (.tmp a), none⟩] ++ (headA (a + 2) i off iv esz ++ (k.dis (a + 12) (a + 13) 13 ++
      [⟨⟨some (a + 13 + k.n), .bslice 1 tzero [(0, 5, .tmp (k.val (a + 13)))], none⟩, true, k.node 13⟩,
       ⟨⟨some (a + 14 + k.n), .append (.tmp (a + 6)) (.tmp (a + 13 + k.n)) 5 88, none⟩, true, k.node 13 ++ [13 + k.n]⟩,
       ⟨⟨some (a + 15 + k.n), .iad (.tmp (a + 1)) (.const (.int .i64 i)) 5, none⟩, false, k.node 13 ++ [13 + k.n, 14 + k.n]⟩,
       ⟨⟨some (a + 16 + k.n), .fad (.tmp (a + 15 + k.n)) 3, none⟩, false, k.node 13 ++ [13 + k.n, 14 + k.n]⟩]))) σ := fun _ _ => rfl
  rw [hunf]
  simp only [nd, List.cons_append, List.nil_append]
  refine walk_step (v := .pointer (some ⟨Tb, 3, none⟩)) (fun w hw => by simp only [RK.val?, ev, h3, Addr.add_mk, Nat.zero_add]) ?_
  refine walk_step (v := .slice (some ⟨Lb, 0, none⟩) n n) (fun w hw => by simp only [RK.val?, ev, updo, upd_same, c3 w hw]) ?_
  have e0 : ∀ q, q < a → (updo (updo σ (some a) (.pointer (some ⟨Tb, 3, none⟩))) (some (a + 1)) (.slice (some ⟨Lb, 0, none⟩) n n)) q = σ q := fun q hq => by
    simp only [updo, upd, show q ≠ a by omega, show q ≠ a + 1 by omega, if_false]
  have e1 : (updo (updo σ (some a) (.pointer (some ⟨Tb, 3, none⟩))) (some (a + 1)) (.slice (some ⟨Lb, 0, none⟩) n n)) (a + 1) = .slice (some ⟨Lb, 0, none⟩) n n := by simp only [updo, upd_same]
  generalize (updo (updo σ (some a) (.pointer (some ⟨Tb, 3, none⟩))) (some (a + 1)) (.slice (some ⟨Lb, 0, none⟩) n n)) = σx at e0 e1
  refine headA_walk (idx := 2) (t := a + 2) (by omega) (by omega) ((e0 0 (by omega)).trans h0) ((e0 3 (by omega)).trans h3) ((e0 iv hiv).trans hj) hi hjl c3 hcl (fun w1 hm => cell_mod (w := w.drew) hc (hRS _ _ hm) nB) fun σ1 a1 s1 s4 s10 => ?_
  refine EK.walk_wp (S := S) (p := a + 12) (e := a + 13) (idx := 13) hk (by omega) s10 (fun w1 hm => hRS _ _ hm) hR0 (fun x hx => ⟨(hS x hx).1, nA x hx⟩) hg (hr.fresh (Mod.drew [] w) (by simp) (fun x hx => .inl hx)) (hcs.mod (Mod.drew [] w) (.inr (by simp))) (.inr trivial) (fun jj v w1 hjj => ?_) fun σ2 a2 hval => ?_
  · have := EK.node_lt hjj
    rw [if_neg (by omega), if_neg (by omega)]; exact Iff.rfl
  have hkv : k.val (a + 13) < a + 13 + k.n := by unfold EK.val; omega
  have hlen0 : (headA (a + 2) i off iv esz).length = 11 := rfl
  -- what a node of the element is in the whole list
  have hnode : ∀ (js : List Nat) (σ3 : Sl) (w1 : World), (∀ q, q < a + 13 + k.n → σ3 q = σ2 q) → (∀ jj ∈ k.node 13, jj ∈ js) →
      known (appBl k a i off iv esz) (fun jj v w1 => if jj = 13 + k.n then BT w.heap.size g.told v w1 else if jj = 14 + k.n then App v w1 else k.Phi w.heap.size g v w1) js σ3 w1 →
      ∃ cs, σ2 (k.val (a + 13)) = .agg cs.toArray ∧ RepT (fun b => w.drew.heap.size ≤ b) w1 g.told cs := fun js σ3 w1 h3 hjs hkn => hval w1 fun jj hjj => by
    obtain ⟨d, hd1, hd2, hd3, hd4⟩ := appBl_node (b := a) (i := i) (off := off) (iv := iv) (esz := esz) hjj
    have hlt := EK.node_lt hjj
    have := hkn jj (hjs jj hjj) d hd1 hd2 (by rw [hd3]; rfl) _ hd4
    rwa [h3 _ (by omega)] at this
  refine walk_node (fun w1 hm hkn => ?_) fun u hu => ?_
  · obtain ⟨cs, hv, htree⟩ := hnode _ σ2 w1 (fun _ _ => rfl) (fun jj hjj => hjj) hkn
    refine bslice_run (cs := cs) (n0 := w.heap.size) hv htree.five (hRS _ _ hm).size fun v w2 hbs hm2 => ?_
    obtain ⟨sb, cs', h1, h2, h3, h4, h5⟩ := hbs
    have hes' : cs' = cs := by
      have := congrArg (fun v => match v with | Value.agg a => a.toList | _ => []) h5
      simpa using this
    subst hes'
    refine ⟨hR0 _ _ hm2, ?_⟩
    rw [if_pos (by omega)]
    exact ⟨sb, cs', h1, h2, h3, htree.mod hm2 (by simp) fun _ _ h => h⟩
  refine walk_node (fun w1 hm hkn => ?_) fun lv' hlv' => ?_
  · have hbs := hkn (13 + k.n) (by simp) _ (appBl_tail (jj := 0)) rfl rfl _ rfl
    dsimp only at hbs
    rw [if_pos rfl] at hbs
    have := happ (updo σ2 (some (a + 13 + k.n)) u) (.tmp (a + 6)) (.tmp (a + 13 + k.n)) w1 hm (by
      simp only [ev, updo, upd, show a + 6 ≠ a + 13 + k.n by omega, if_false]; rw [a2 _ (by omega)]; exact s4) hbs
    refine run_mono this fun v w2 ⟨k1, k2⟩ => ⟨k1, ?_⟩
    rw [if_neg (by omega), if_pos (by omega)]; exact k2
  have st1 : σ2 (a + 1) = .slice (some ⟨Lb, 0, none⟩) n n := by rw [a2 _ (by omega), a1 _ (by omega)]; exact e1
  refine walk_step (v := .pointer (some ⟨Lb, i * 5, none⟩)) (fun w1 _ => by
    simp only [RK.val?, ev, updo, upd, show a + 1 ≠ a + 13 + k.n by omega, show a + 1 ≠ a + 14 + k.n by omega, if_false, st1]; rw [if_pos (by omega)]; simp [Addr.add_mk]) ?_
  refine walk_step (v := .pointer (some ⟨Lb, i * 5 + 3, none⟩)) (fun w1 _ => by simp only [RK.val?, ev, updo, upd_same, Addr.add_mk]) ?_
  simp only [walk]
  intro w1 hm hkn
  have hap := hkn (13 + k.n + 1) (by rw [List.mem_range, appBl_length]; omega) _ (appBl_tail (jj := 1)) rfl rfl _ rfl
  dsimp only at hap
  rw [if_neg (by omega), if_pos (by omega)] at hap
  have f14 : updo (updo (updo (updo σ2 (some (a + 13 + k.n)) u) (some (a + 14 + k.n)) lv') (some (a + 15 + k.n)) (.pointer (some ⟨Lb, i * 5, none⟩))) (some (a + 16 + k.n)) (.pointer (some ⟨Lb, i * 5 + 3, none⟩)) (a + 14 + k.n) = lv' := by
    simp only [updo, upd, show a + 14 + k.n ≠ a + 15 + k.n by omega, show a + 14 + k.n ≠ a + 16 + k.n by omega, if_false, if_true]
  rw [f14] at hap
  obtain ⟨cs, hraw, hown2, htree, hrep⟩ := hfin w1 lv' hm hap
  obtain ⟨o1, o2⟩ := hraw.one
  obtain ⟨k1, k2, k3⟩ := (htw w1 hm).setL hpre o1 o2
  have f16 : updo (updo (updo (updo σ2 (some (a + 13 + k.n)) u) (some (a + 14 + k.n)) lv') (some (a + 15 + k.n)) (.pointer (some ⟨Lb, i * 5, none⟩))) (some (a + 16 + k.n)) (.pointer (some ⟨Lb, i * 5 + 3, none⟩)) (a + 16 + k.n) = .pointer (some ⟨Lb, i * 5 + 3, none⟩) := by
    simp only [updo, upd_same]
  simp only [wpR, RI.wp, gOk, if_true, RK.run, ev, f14, f16]
  refine ⟨by rw [o1]; rfl, k1, ?_⟩
  have hge : ∀ b, own lv' = some b → w0.heap.size ≤ b := fun b hb => (hraw.own hb).1
  have hmS := hRS _ _ hm
  refine hQ _ _ lv' cs (fun q hq => ?_) ⟨k2, hraw.mod k3 (fun b hb => by have := hge b hb; simp; omega), ?_, ?_, hls.ltb, hls.llb⟩
  · simp only [updo, upd, show q ≠ a + 13 + k.n by omega, show q ≠ a + 14 + k.n by omega, show q ≠ a + 15 + k.n by omega, show q ≠ a + 16 + k.n by omega, if_false]
    rw [a2 _ (by omega), a1 _ (by omega), e0 _ hq]
  · exact (hrep.append (.cons htree .nil)).mod k3 (fun b hb hx => by simp only [List.mem_singleton] at hb; omega) (fun _ _ h => h)
  · have hm0 := hls'.mod
    refine ⟨k3.os.trans (hmS.os.trans hm0.os), k3.tape.trans (hmS.tape.trans hm0.tape), k3.output.trans (hmS.output.trans hm0.output), Nat.le_trans hm0.size (Nat.le_trans hmS.size k3.size), fun b hb hnb => ?_⟩
    rw [k3.block b (Nat.lt_of_lt_of_le hb (Nat.le_trans hm0.size hmS.size)) hnb, hmS.block b (Nat.lt_of_lt_of_le hb hm0.size) (fun hx => by have := hown _ hx; omega)]
    exact hm0.block b hb hnb
end
end Go.Msk

namespace Go.Msk
open Go.RowKit
set_option maxRecDepth 100000
section
variable {P : Program}
theorem appB_wp {k : EK} {T : List GV → Prop} (hk : k.Ok P T) {a i off iv esz Tb Lb n B base A ao len cap j : Nat} {O : List Nat} {pre post : List Value} {nl : Bool} {lv : Value} {ts : List TR} {tcs : List (List Value)} {g : GV} {gcs : List Value}
    {σ : Sl} {w0 w : World} {Q : Exit → Sl → World → Prop} (ht : 4 ≤ a) (hiv : iv < a) (h0 : σ 0 = .pointer (some ⟨B, base, none⟩)) (h3 : σ 3 = .pointer (some ⟨Tb, 0, none⟩)) (hj : σ iv = .int .i64 j) (hi : i < n) (hjl : j < len)
    (hls : LS w0 w Tb Lb n pre post nl lv ts tcs) (hpre : pre.length = i * 5) (hc : w.cell? ⟨B, base + off, none⟩ = some (.slice (some ⟨A, ao, none⟩) len cap)) (hB : B < w0.heap.size) (hA : A < w0.heap.size)
    (hg : k.ty T g) (hr : Rep O w g gcs) (hcs : Cells w ⟨A, ao + j * esz, none⟩ gcs) (hlen : tcs.length ≤ 2147483647) (hO : ∀ b, own lv = some b → b ∈ O)
    (hQ : ∀ σ' w' lv' cs, Ag a σ σ' → LS w0 w' Tb Lb n pre post nl lv' (ts ++ [g.told]) (tcs ++ [cs]) → Q .normal σ' w') : wpC P (appB k a i off iv esz) Q σ w := by
  have hnw : w0.heap.size ≤ w.heap.size := hls.mod.size
  have hls' : LS w0 w.drew Tb Lb n pre post nl lv ts tcs := hls.same (Mod.drew _ _)
  by_cases hin : ∃ BA c, lv = .slice (some ⟨BA, 0, none⟩) tcs.length c ∧ tcs.length + 1 ≤ c
  · obtain ⟨BA, c, rfl, hc1⟩ := hin
    obtain ⟨o1, o2⟩ := hls.raw.own (b := BA) rfl
    let lv2 : Value := .slice (some ⟨BA, 0, none⟩) (tcs.length + 1) c
    let Fin : World → Prop := fun w' => ∃ cs, LRaw w' w0.heap.size lv2 (tcs ++ [cs]) ∧ RepT (fun b => w.heap.size ≤ b) w' g.told cs
    have finMod : ∀ w1 w2, Fin w1 → Mod [] w1 w2 → Fin w2 := fun w1 w2 ⟨cs, h1, h2⟩ hm => ⟨cs, h1.mod hm (by simp), h2.mod hm (by simp) fun _ _ h => h⟩
    refine appB_core hk (S := [BA]) (R := fun w1 w2 => Mod [] w1 w2 ∨ (Mod [BA] w1 w2 ∧ Fin w2)) (App := fun v w1 => v = lv2 ∧ Fin w1) ht hiv h0 h3 hj hi hjl hls hpre hc hB hA hg hr hcs
      (fun b hb => by simp only [List.mem_singleton] at hb; subst hb; exact ⟨hO _ rfl, rfl⟩) (fun _ => .inl (Mod.refl _ _)) ?_ ?_ (fun _ _ h => .inl h) ?_ ?_ ?_ hQ
    · rintro u v w' (h1 | ⟨h1, f1⟩) (h2 | ⟨h2, f2⟩)
      · exact .inl (h1.trans h2)
      · exact .inr ⟨h1.nil.trans h2, f2⟩
      · exact .inr ⟨h1.trans h2.nil, finMod _ _ f1 h2⟩
      · exact .inr ⟨h1.trans h2, f2⟩
    · rintro w1 w2 (h1 | ⟨h1, -⟩)
      · exact h1.nil
      · exact h1
    · rintro v w1 w2 ⟨rfl, f1⟩ (h1 | ⟨h1, f2⟩)
      · exact ⟨rfl, finMod _ _ f1 h1⟩
      · exact ⟨rfl, f2⟩
    · intro σ x y w1 hR hx hy
      obtain ⟨sb, cs, hy, hsb, hblk, htree⟩ := hy
      have hM : Mod [BA] w.drew w1 := hR.elim (·.nil) (·.1)
      have hsz : w.heap.size ≤ w1.heap.size := hM.size
      -- the list's block, as it is now
      have hrawblk : ∃ rest, Blk w1 BA (tcs.flatten ++ rest) ∧ rest.length = (c - tcs.length) * 5 := by
        rcases hR with h1 | ⟨-, cs', f1, -⟩
        · rcases (hls'.raw.mod h1 (by simp)).sl with ⟨h, -⟩ | ⟨BA', c', rest, h, -, -, hb, hl⟩
          · simp at h
          · simp only [Value.slice.injEq, Option.some.injEq, Addr.mk.injEq, and_true, true_and] at h
            obtain ⟨rfl, rfl⟩ := h
            exact ⟨rest, hb, hl⟩
        · have h5 := f1.five cs' (by simp)
          rcases f1.sl with ⟨h, -⟩ | ⟨BA', c', rest, h, -, -, hb, hl⟩
          · simp [lv2] at h
          · simp only [lv2, List.length_append, List.length_cons, List.length_nil, Value.slice.injEq, Option.some.injEq, Addr.mk.injEq, and_true, true_and] at h
            obtain ⟨rfl, -, rfl⟩ := h
            refine ⟨cs' ++ rest, by simpa using hb, ?_⟩
            simp only [List.length_append, List.length_cons, List.length_nil] at hl ⊢
            omega
      obtain ⟨rest, hb, hl⟩ := hrawblk
      have hraw1 : LRaw w1 w0.heap.size (.slice (some ⟨BA, 0, none⟩) tcs.length c) tcs := ⟨hls.raw.five, .inr ⟨BA, c, rest, rfl, by omega, o1, hb, hl⟩⟩
      have hfl := flat5 hls.raw.five
      have hput : Mod [BA] w1 (putCells w1 ⟨BA, tcs.length * 5, none⟩ 0 cs) := Mod.put (by simp)
      have h5 := htree.five
      have hsrc : srcCells w1 5 (.slice (some ⟨sb, 0, none⟩) 1 1) = some (1, cs) := by
        simp only [srcCells, cellsAt_of' hblk.cells (n := 1 * 5) (by omega), Option.map_some]
      have hfin : Fin (putCells w1 ⟨BA, tcs.length * 5, none⟩ 0 cs) := by
        refine ⟨cs, ⟨fun d hd => ?_, .inr ⟨BA, c, rest.drop 5, by simp [lv2], by simpa using hc1, o1, ?_, by simp; omega⟩⟩, htree.mod hput (fun b hb hx => by simp only [List.mem_singleton] at hb; omega) fun _ _ h => h⟩
        · rcases List.mem_append.1 hd with hd | hd
          · exact hls.raw.five d hd
          · simp only [List.mem_singleton] at hd; subst hd; exact h5
        · have hp := hb.put (o := tcs.length * 5) (vs := cs) (by simp only [List.length_append]; omega)
          rwa [splice_end hfl, h5, ← List.append_assoc, ← flat_snoc] at hp
      simp only [RK.run, hx, hy, hsrc, appendRun]
      rw [if_pos hc1]
      simp only [Addr.add_mk, Nat.zero_add]
      exact ⟨stOk_many hb (by simp only [List.length_append]; omega) htree.oneCell, .inr ⟨hput, hfin⟩, rfl, hfin⟩
    · rintro w1 v hR ⟨rfl, cs, f1, f2⟩
      have hM : Mod [BA] w.drew w1 := hR.elim (·.nil) (·.1)
      have t1 : RepT (fun b => w0.heap.size ≤ b ∧ own lv2 ≠ some b) w1 g.told cs := f2.mod (Mod.refl [] _) (by simp) (by
        intro b _ hb
        refine ⟨by omega, fun e => ?_⟩
        have : BA = b := by simpa [lv2, own] using e
        omega)
      have t2 : RepTL (fun b => w0.heap.size ≤ b ∧ own lv2 ≠ some b) w1 ts tcs := hls'.rep.mod hM (by
        intro b hb hx
        simp only [List.mem_singleton] at hb; subst hb; exact hx.2 rfl) fun _ _ h => h
      exact ⟨cs, f1, fun b hb => .inl hb, t1, t2⟩
  · -- a new block is made
    refine appB_core hk (S := []) (R := fun w1 w2 => Mod [] w1 w2) (App := fun v w1 => ∃ cs b, own v = some b ∧ w.heap.size ≤ b ∧ LRaw w1 w0.heap.size v (tcs ++ [cs]) ∧ RepT (fun b => w.heap.size ≤ b ∧ own v ≠ some b) w1 g.told cs)
      ht hiv h0 h3 hj hi hjl hls hpre hc hB hA hg hr hcs (by simp) (fun _ => Mod.refl _ _) (fun _ _ _ => Mod.trans) (fun _ _ h => h) (fun _ _ h => h) ?_ ?_ ?_ hQ
    · rintro v w1 w2 ⟨cs, b, h1, h2, h3, h4⟩ hm
      exact ⟨cs, b, h1, h2, h3.mod hm (by simp), h4.mod hm (by simp) fun _ _ h => h⟩
    · intro σ x y w1 hR hx hy
      obtain ⟨sb, cs, hy, hsb, hblk, htree⟩ := hy
      refine append_tree hx (hls'.raw.mod hR (by simp)) (Nat.le_trans hnw hR.size) hy hblk htree.five htree.oneCell hlen fun lv' w' hraw' hown => ?_
      rcases hown with ⟨-, h2⟩ | ⟨h1, h2⟩
      · exact absurd h2 hin
      · refine ⟨h2, cs, w1.heap.size, h1, hR.size, hraw', htree.mod h2 (by simp) (by
          intro b hb hx
          refine ⟨hx, fun e => ?_⟩
          rw [h1] at e; simp only [Option.some.injEq] at e; omega)⟩
    · rintro w1 v hR ⟨cs, b, h1, h2, h3, h4⟩
      have t1 : RepT (fun b => w0.heap.size ≤ b ∧ own v ≠ some b) w1 g.told cs := h4.mod (Mod.refl [] _) (by simp) (by
        intro b' _ hb'
        exact ⟨by omega, hb'.2⟩)
      have t2 : RepTL (fun b => w0.heap.size ≤ b ∧ own v ≠ some b) w1 ts tcs := hls'.rep.mod hR (by simp) (by
        intro b' hb' hx
        refine ⟨hx.1, fun e => ?_⟩
        rw [h1] at e; simp only [Option.some.injEq] at e
        have : b' < w.heap.size := hb'
        omega)
      exact ⟨cs, h3, fun b' hb' => .inr (by rw [h1] at hb'; simp only [Option.some.injEq] at hb'; omega), t1, t2⟩
end
end Go.Msk

namespace Go.Msk
open Go.RowKit
set_option maxRecDepth 100000
def nullF (i t off : Nat) : IC :=
  .drw (headD t off ++ [nd ⟨some (t + 6), .isnil .sl false (.tmp (t + 5)), none⟩, nd ⟨some (t + 7), .iad (.tmp (t + 1)) (.const (.int .i64 i)) 5, none⟩, nd ⟨some (t + 8), .fad (.tmp (t + 7)) 2, none⟩])
    [⟨none, .st (.tmp (t + 8)) 1 (.tmp (t + 6)), none⟩]
def loopT (k : EK) (i s off iv nb esz : Nat) : IC :=
  .seq (.blk [⟨some s, .mv (.tmp 0), none⟩, ⟨some (s + 1), .nilc (.tmp s), none⟩, ⟨some (s + 2), .fad (.tmp (s + 1)) off, none⟩, ⟨some (s + 3), .ld (.tmp (s + 2)), none⟩, ⟨some (s + 4), .len (.tmp (s + 3)), none⟩, ⟨some (s + 5), .mv (.const (.int .i64 0)), none⟩])
    (.block nb (.loop (.seq (.blk [⟨some (s + 6), .bin .lss (.tmp (s + 5)) (.tmp (s + 4)), none⟩]) (.seq (.cond (.tmp (s + 6)) .skip (.exit nb))
      (.seq (.block (nb + 1) (.seq (.blk [⟨some (s + 7), .mv (.tmp (s + 5)), none⟩, ⟨some iv, .mv (.tmp (s + 7)), none⟩]) (.seq (.rnd (s + 8) (s + 9)) (.cond (.tmp (s + 9)) (appA k (s + 10) i off iv esz) (appB k (s + 27 + k.n) i off iv esz)))))
        (.blk [⟨some (s + 44 + 2 * k.n), .bin .add (.tmp (s + 5)) (.const (.int .i64 1)), none⟩, ⟨some (s + 5), .mv (.tmp (s + 44 + 2 * k.n)), none⟩]))))))
section
variable {P : Program}
theorem nullF_wp {i t off Tb Lb n B base : Nat} {pre post : List Value} {sb : Option Addr} {len cap : Nat} {σ : Sl} {w : World} {Q : Exit → Sl → World → Prop} (ht : 4 ≤ t)
    (h0 : σ 0 = .pointer (some ⟨B, base, none⟩)) (h3 : σ 3 = .pointer (some ⟨Tb, 0, none⟩)) (hw : TW w Tb Lb n (pre ++ (tzero ++ post))) (hpre : pre.length = i * 5) (hi : i < n)
    (hc : w.cell? ⟨B, base + off, none⟩ = some (.slice sb len cap))
    (hQ : ∀ σ' w', Ag t σ σ' → Mod [Lb] w w' → w'.heap.size = w.heap.size → TW w' Tb Lb n (pre ++ ([.int .i64 0, .slice none 0 0, .bool sb.isNone, .slice none 0 0, .slice none 0 0] ++ post)) → Q .normal σ' w') : wpC P (nullF i t off) Q σ w := by
  have c3 : w.drew.cell? ⟨Tb, 3, none⟩ = some (.slice (some ⟨Lb, 0, none⟩) n n) := hw.tb.cell 3
  simp only [nullF, wpC]
  refine wpD_pure rfl (head_wpR ht h0 h3 c3 (show w.drew.cell? _ = _ from hc) fun σ1 a1 s1 s5 => ?_)
  simp only [nd, List.map_cons, List.map_nil, List.cons_append, List.nil_append]
  refine wpR_step (v := .bool sb.isNone) (by simp only [RK.val?, ev, s5, Bool.false_eq_true, if_false]) ?_
  refine wpR_step (v := .pointer (some ⟨Lb, i * 5, none⟩)) (by
    simp only [RK.val?, ev, updo, upd, show t + 1 ≠ t + 6 by omega, if_false, s1]; rw [if_pos (by omega)]; simp [Addr.add_mk]) ?_
  refine wpR_step (v := .pointer (some ⟨Lb, i * 5 + 2, none⟩)) (by simp only [RK.val?, ev, updo, upd_same, Addr.add_mk]) ?_
  simp only [wpR, RI.wp, gOk, if_true, RK.run, ev, updo, upd_same]
  have e6 : ∀ x y z, upd (upd (upd σ1 (t + 6) x) (t + 7) y) (t + 8) z (t + 6) = x := fun x y z => by
    simp only [upd, show t + 6 ≠ t + 7 by omega, show t + 6 ≠ t + 8 by omega, if_false, if_true]
  rw [e6]
  have hlb : Blk w.drew Lb (pre ++ (tzero ++ post)) := hw.lb
  have hput : Mod [Lb] w.drew (putCells w.drew ⟨Lb, i * 5 + 2, none⟩ 0 [.bool sb.isNone]) := Mod.put (by simp)
  refine ⟨rfl, stOk_many hlb (by simp [tzero, Value.cells]; omega) (by simp [Value.cells, Value.oneCell']), hQ _ _ (fun j hj => ?_) ((Mod.drew _ _).trans hput) (by rw [size_putCells]; rfl) ⟨?_, ?_, hw.ne⟩⟩
  · simp only [upd, show j ≠ t + 6 by omega, show j ≠ t + 7 by omega, show j ≠ t + 8 by omega, if_false]
    exact a1 j hj
  · exact (show Blk w.drew Tb _ from hw.tb).mod hput (by simpa using hw.ne)
  · have hp := hlb.put (o := i * 5 + 2) (vs := [.bool sb.isNone]) (by simp [tzero]; omega)
    have e1 : ∀ x, pre ++ ([.int .i64 0, .slice none 0 0, x, .slice none 0 0, .slice none 0 0] ++ post) = (pre ++ [.int .i64 0, .slice none 0 0]) ++ ([x] ++ ([.slice none 0 0, .slice none 0 0] ++ post)) := fun x => by simp
    rw [show tzero = [.int .i64 0, .slice none 0 0, .bool false, .slice none 0 0, .slice none 0 0] from rfl, e1, splice_mid (old := [.bool false]) (vs := [.bool sb.isNone]) (by simp only [List.length_append, List.length_cons, List.length_nil]; omega) rfl] at hp
    rw [e1]; exact hp
theorem _root_.Go.Msk.RepL.nth {O : List Nat} {w : World} {gs : List GV} {css : List (List Value)} (h : RepL O w gs css) {j : Nat} {g : GV} (hg : gs[j]? = some g) : ∃ cs, css[j]? = some cs ∧ Rep O w g cs := by
  induction gs generalizing css j with
  | nil => simp at hg
  | cons a l ih =>
    cases h with
    | cons h1 h2 =>
      cases j with
      | zero => simp only [List.getElem?_cons_zero, Option.some.injEq] at hg; subst hg; exact ⟨_, rfl, h1⟩
      | succ j => simp only [List.getElem?_cons_succ] at hg ⊢; exact ih h2 hg
theorem flat_cells {w : World} {a : Addr} {css : List (List Value)} {sz j : Nat} {cs : List Value} (h : Cells w a css.flatten) (hsz : ∀ c ∈ css, c.length = sz) (hj : css[j]? = some cs) : Cells w ⟨a.block, a.off + j * sz, none⟩ cs := by
  induction css generalizing a j with
  | nil => simp at hj
  | cons c css ih =>
    cases j with
    | zero =>
      simp only [List.getElem?_cons_zero, Option.some.injEq] at hj; subst hj
      have := h.take c.length
      simp only [List.flatten_cons, List.take_left] at this
      have hs := h.1
      cases a; simp only at hs; subst hs
      simpa using this
    | succ j =>
      simp only [List.getElem?_cons_succ] at hj
      have h1 := h.sub c.length
      simp only [List.flatten_cons, List.drop_left] at h1
      have h2 := ih h1 (fun d hd => hsz d (List.mem_cons_of_mem _ hd)) hj
      rw [hsz c List.mem_cons_self] at h2
      simp only at h2
      rw [show a.off + (j + 1) * sz = a.off + sz + j * sz by rw [Nat.succ_mul]; omega]
      exact h2
theorem lpHead_wp {s off B base : Nat} {len cap : Nat} {sb : Option Addr} {σ : Sl} {w : World} {Q : Exit → Sl → World → Prop} (h0 : σ 0 = .pointer (some ⟨B, base, none⟩)) (hc : w.cell? ⟨B, base + off, none⟩ = some (.slice sb len cap))
    (hQ : ∀ σ', Ag s σ σ' → σ' (s + 4) = .int .i64 len → σ' (s + 5) = .int .i64 0 → Q .normal σ' w) :
    wpC P (.blk [⟨some s, .mv (.tmp 0), none⟩, ⟨some (s + 1), .nilc (.tmp s), none⟩, ⟨some (s + 2), .fad (.tmp (s + 1)) off, none⟩, ⟨some (s + 3), .ld (.tmp (s + 2)), none⟩, ⟨some (s + 4), .len (.tmp (s + 3)), none⟩, ⟨some (s + 5), .mv (.const (.int .i64 0)), none⟩]) Q σ w := by
  simp only [wpC]
  refine wpR_step (v := .pointer (some ⟨B, base, none⟩)) (by simp only [RK.val?, ev, h0]) ?_
  refine wpR_step (v := .pointer (some ⟨B, base, none⟩)) (by simp only [RK.val?, ev, updo, upd_same]) ?_
  refine wpR_step (v := .pointer (some ⟨B, base + off, none⟩)) (by simp only [RK.val?, ev, updo, upd_same, Addr.add_mk]) ?_
  refine wpR_step (v := .slice sb len cap) (by simp only [RK.val?, ev, updo, upd_same, hc]) ?_
  refine wpR_step (v := .int .i64 len) (by simp only [RK.val?, ev, updo, upd_same]) ?_
  refine wpR_step (v := .int .i64 0) (by simp only [RK.val?, ev]) ?_
  simp only [wpR]
  refine hQ _ (fun q hq => ?_) ?_ ?_
  · simp only [updo, upd, show q ≠ s by omega, show q ≠ s + 1 by omega, show q ≠ s + 2 by omega, show q ≠ s + 3 by omega, show q ≠ s + 4 by omega, show q ≠ s + 5 by omega, if_false]
  · simp only [updo, upd, show s + 4 ≠ s + 5 by omega, if_false, if_true]
  · simp only [updo, upd_same]
theorem loopT_wp {k : EK} {T : List GV → Prop} (hk : k.Ok P T) {i s off iv nb esz Tb Lb n B base : Nat} {O : List Nat} {pre post : List Value} {gs : List GV} {gcs : List (List Value)} {sb : Option Addr} {cap : Nat} {nl : Bool}
    {σ : Sl} {w : World} {Q : Exit → Sl → World → Prop} (hs : 4 ≤ s) (hiv : iv < s) (hiv4 : 4 ≤ iv) (h0 : σ 0 = .pointer (some ⟨B, base, none⟩)) (h3 : σ 3 = .pointer (some ⟨Tb, 0, none⟩)) (hi : i < n)
    (hw : TW w Tb Lb n (pre ++ ([.int .i64 0, .slice none 0 0, .bool nl, .slice none 0 0, .slice none 0 0] ++ post))) (hpre : pre.length = i * 5)
    (hc : w.cell? ⟨B, base + off, none⟩ = some (.slice sb gs.length cap)) (hB : B ≠ Lb) (hLO : Lb ∈ O) (hr : RepL O w gs gcs) (hsb : ∀ a, sb = some a → a.block ∉ O ∧ a.block < w.heap.size ∧ Cells w a gcs.flatten) (hsn : sb = none → gs = [])
    (hsz : ∀ cs ∈ gcs, cs.length = esz) (hg : ∀ g ∈ gs, k.ty T g) (hlen : gs.length ≤ 2147483647)
    (hQ : ∀ σ' w' cs, (∀ q, q < s → q ≠ iv → σ' q = σ q) → Mod [Lb] w w' → RepT (fun b => w.heap.size ≤ b) w' (.mk 0 [] nl (GV.toldL gs) []) cs → TW w' Tb Lb n (pre ++ (cs ++ post)) → Q .normal σ' w') : wpC P (loopT k i s off iv nb esz) Q σ w := by
  have hn := k.n_pos
  have hBlt : B < w.heap.size := World.block_lt_of_cell? w _ hc
  have hTlt := hw.tb.lt
  have hLlt := hw.lb.lt
  unfold loopT
  rw [wpC_seq]
  refine lpHead_wp h0 hc fun σ0 a0 s4 s5 => ?_
  simp only [thenC]
  rw [wpC_block, wpC_loop]
  refine ⟨fun σ1 w1 => ∃ j lv tcs, j ≤ gs.length ∧ (∀ q, q < s → q ≠ iv → σ1 q = σ q) ∧ σ1 (s + 4) = .int .i64 gs.length ∧ σ1 (s + 5) = .int .i64 j ∧ LS w w1 Tb Lb n pre post nl lv ((gs.take j).map GV.told) tcs ∧ tcs.length = j,
    fun σ1 _ => gs.length - (match σ1 (s + 5) with | .int _ j => j.toNat | _ => 0), ?_, ?_⟩
  · exact ⟨0, .slice none 0 0, [], Nat.zero_le _, fun q hq _ => a0 q hq, s4, s5, ⟨hw, ⟨by simp, .inl ⟨rfl, rfl⟩⟩, by simpa using .nil, Mod.refl _ _, hTlt, hLlt⟩, rfl⟩
  rintro σ1 w1 ⟨j, lv, tcs, hj, hag, h4, h5, hls, htl⟩
  rw [wpC_seq, wpC_blk]
  refine wpR_step (v := .bool (decide ((j : Int) < gs.length))) (by simp only [RK.val?, ev, h4, h5, isShift, decide_true, Bool.or_true, if_true, intBin]) ?_
  simp only [wpR, thenC]
  rw [wpC_seq]
  by_cases hlt : j < gs.length
  · have hd : decide ((j : Int) < gs.length) = true := by simp; omega
    rw [wpC_cond_t (by simp only [ev, updo, upd_same, hd])]
    rw [wpC_skip]
    simp only [thenC]
    rw [wpC_seq, wpC_block, wpC_seq, wpC_blk]
    refine wpR_step (v := .int .i64 j) (by simp only [RK.val?, ev, updo, upd, show s + 5 ≠ s + 6 by omega, if_false, h5]) ?_
    refine wpR_step (v := .int .i64 j) (by simp only [RK.val?, ev, updo, upd_same]) ?_
    simp only [wpR, thenC]
    rw [wpC_seq, wpC_rnd]
    intro c Ty
    simp only [thenC]
    -- the state ahead of one more
    have hm1 : Mod [] w1 (w1.drew.alloc (.cells [.bool c].toArray Ty)) := (Mod.drew _ _).trans (Mod.alloc _ _ _)
    have hls2 := hls.same hm1
    generalize w1.drew.alloc (.cells [.bool c].toArray Ty) = w2 at hm1 hls2 ⊢
    obtain ⟨gl, hgl⟩ : ∃ g, gs[j]? = some g := ⟨gs[j], List.getElem?_eq_getElem hlt⟩
    obtain ⟨sa, rfl⟩ : ∃ a, sb = some a := by
      cases sb with
      | none => have := hsn rfl; subst this; simp at hlt
      | some a => exact ⟨a, rfl⟩
    obtain ⟨ha1, hAlt, ha2⟩ := hsb sa rfl
    have hm2 := hls2.mod
    have hown : ∀ b, own lv = some b → w.heap.size ≤ b := fun b hb => (hls.raw.own hb).1
    -- the element
    obtain ⟨cs0, hcs0, hrep0, hc0⟩ : ∃ cs0, cs0.length = esz ∧ Rep O w gl cs0 ∧ Cells w ⟨sa.block, sa.off + j * esz, none⟩ cs0 := by
      obtain ⟨cs0, h1, h2⟩ := hr.nth hgl
      refine ⟨cs0, hsz _ (List.mem_of_getElem? h1), h2, ?_⟩
      exact flat_cells ha2 hsz h1
    have hsasp : sa = ⟨sa.block, sa.off, none⟩ := by
      have := ha2.1
      cases sa; simp only at this; subst this; rfl
    have hc2 : w2.cell? ⟨B, base + off, none⟩ = some (.slice (some ⟨sa.block, sa.off, none⟩) gs.length cap) := by
      rw [← hsasp]; exact cell_mod hc hm2 (by simpa using hB)
    have hc02 : Cells w2 ⟨sa.block, sa.off + j * esz, none⟩ cs0 := hc0.mod hm2 (.inr (by simp only [List.mem_singleton]; exact fun e => ha1 (e ▸ hLO)))
    have hrep2 : Rep ((own lv).toList ++ O) w2 gl cs0 := hrep0.fresh hm2 (fun x hx => .inl (by simp only [List.mem_singleton] at hx; subst hx; exact hLO)) (fun x hx => by
      rcases List.mem_append.1 hx with hx | hx
      · exact .inr (hown x (by simpa using hx))
      · exact .inl hx)
    have hgt := hg gl (List.mem_of_getElem? hgl)
    -- the slots
    have hσ : ∀ x, ∀ q, q < s + 10 → q ≠ s + 9 → q ≠ s + 8 → q ≠ iv → q ≠ s + 7 → q ≠ s + 6 → (upd (upd (updo (updo (updo σ1 (some (s + 6)) (.bool (decide ((j : Int) < gs.length)))) (some (s + 7)) (.int .i64 j)) (some iv) (.int .i64 j)) (s + 8) x) (s + 9) (.bool c)) q = σ1 q := by
      intro x q h1 h2 h3 h4 h5 h6
      simp only [updo, upd, h2, h3, h4, h5, h6, if_false]
    have hσiv : ∀ x, (upd (upd (updo (updo (updo σ1 (some (s + 6)) (.bool (decide ((j : Int) < gs.length)))) (some (s + 7)) (.int .i64 j)) (some iv) (.int .i64 j)) (s + 8) x) (s + 9) (.bool c)) iv = .int .i64 j := by
      intro x
      simp only [updo, upd, show iv ≠ s + 8 by omega, show iv ≠ s + 9 by omega, if_false, if_true]
    have hσc : ∀ x, (upd (upd (updo (updo (updo σ1 (some (s + 6)) (.bool (decide ((j : Int) < gs.length)))) (some (s + 7)) (.int .i64 j)) (some iv) (.int .i64 j)) (s + 8) x) (s + 9) (.bool c)) (s + 9) = .bool c := fun x => by simp only [upd_same]
    generalize Value.pointer (some ⟨w1.heap.size, 0, none⟩) = px
    specialize hσ px
    specialize hσiv px
    specialize hσc px
    generalize (upd (upd (updo (updo (updo σ1 (some (s + 6)) (.bool (decide ((j : Int) < gs.length)))) (some (s + 7)) (.int .i64 j)) (some iv) (.int .i64 j)) (s + 8) px) (s + 9) (.bool c)) = σ2 at hσ hσiv hσc ⊢
    have hσ0 : σ2 0 = .pointer (some ⟨B, base, none⟩) := by rw [hσ 0 (by omega) (by omega) (by omega) (by omega) (by omega) (by omega), hag 0 (by omega) (by omega)]; exact h0
    have hσ3 : σ2 3 = .pointer (some ⟨Tb, 0, none⟩) := by rw [hσ 3 (by omega) (by omega) (by omega) (by omega) (by omega) (by omega), hag 3 (by omega) (by omega)]; exact h3
    have fin : ∀ σ' w' lv' cs, Ag (s + 10) σ2 σ' → LS w w' Tb Lb n pre post nl lv' ((gs.take j).map GV.told ++ [gl.told]) (tcs ++ [cs]) →
        wpC P (.blk [⟨some (s + 44 + 2 * k.n), .bin .add (.tmp (s + 5)) (.const (.int .i64 1)), none⟩, ⟨some (s + 5), .mv (.tmp (s + 44 + 2 * k.n)), none⟩])
          (thenC (fun σ' w' => (∃ j lv tcs, j ≤ gs.length ∧ (∀ q, q < s → q ≠ iv → σ' q = σ q) ∧ σ' (s + 4) = .int .i64 gs.length ∧ σ' (s + 5) = .int .i64 j ∧ LS w w' Tb Lb n pre post nl lv ((gs.take j).map GV.told) tcs ∧ tcs.length = j) ∧
            gs.length - (match σ' (s + 5) with | .int _ j => j.toNat | _ => 0) < gs.length - (match σ1 (s + 5) with | .int _ j => j.toNat | _ => 0)) (inBlockC nb Q)) σ' w' := by
      intro σ' w' lv' cs ha hl
      have h5' : σ' (s + 5) = .int .i64 j := by rw [ha _ (by omega), hσ _ (by omega) (by omega) (by omega) (by omega) (by omega) (by omega)]; exact h5
      have hw : IntKind.i64.wrap ((j : Int) + 1) = ((j + 1 : Nat) : Int) := by
        simp only [IntKind.wrap, IntKind.bits, IntKind.signed]; simp; omega
      rw [wpC_blk]
      refine wpR_step (v := .int .i64 ((j + 1 : Nat) : Int)) (by simp only [RK.val?, ev, h5', isShift, decide_true, Bool.or_true, if_true, intBin, hw]) ?_
      refine wpR_step (v := .int .i64 ((j + 1 : Nat) : Int)) (by simp only [RK.val?, ev, updo, upd_same]) ?_
      simp only [wpR, thenC]
      refine ⟨⟨j + 1, lv', tcs ++ [cs], hlt, fun q hq hne => ?_, ?_, by simp only [updo, upd_same], ?_, by simp [htl]⟩, ?_⟩
      · simp only [updo, upd, show q ≠ s + 5 by omega, show q ≠ s + 44 + 2 * k.n by omega, if_false]
        rw [ha _ (by omega), hσ q (by omega) (by omega) (by omega) hne (by omega) (by omega)]
        exact hag q hq hne
      · simp only [updo, upd, show s + 4 ≠ s + 5 by omega, show s + 4 ≠ s + 44 + 2 * k.n by omega, if_false]
        rw [ha _ (by omega), hσ _ (by omega) (by omega) (by omega) (by omega) (by omega) (by omega)]; exact h4
      · rw [List.take_add_one, hgl]
        simpa using hl
      · simp only [updo, upd_same, h5, Int.toNat_natCast]
        show gs.length - (j + 1) < gs.length - j
        omega
    cases c with
    | true =>
      rw [wpC_cond_t (by simp only [ev, hσc])]
      refine appA_wp hk (by omega) (by omega) hσ0 hσ3 hσiv hi hlt hls2 hpre hc2 hgt hrep2 hc02 (by omega) fun σ' w' lv' cs ha hl => ?_
      exact fin σ' w' lv' cs ha hl
    | false =>
      rw [wpC_cond_f (by simp only [ev, hσc])]
      refine appB_wp hk (by omega) (by omega) hσ0 hσ3 hσiv hi hlt hls2 hpre hc2 hBlt hAlt hgt hrep2 hc02 (by omega) (fun b hb => by simp [hb]) fun σ' w' lv' cs ha hl => ?_
      exact fin σ' w' lv' cs (ha.mono (by omega)) hl
  · have hd : decide ((j : Int) < gs.length) = false := by simp; omega
    rw [wpC_cond_f (by simp only [ev, updo, upd_same, hd])]
    simp only [wpC, thenC, inBlockC, if_true]
    have hje : j = gs.length := by omega
    subst hje
    rw [List.take_length] at hls
    obtain ⟨b1, c1, hlv⟩ := hls.raw.len
    refine hQ _ w1 [.int .i64 0, .slice none 0 0, .bool nl, lv, .slice none 0 0] (fun q hq hne => ?_) hls.mod ?_ hls.tw
    · simp only [updo, upd, show q ≠ s + 6 by omega, if_false]; exact hag q hq hne
    · refine .mk (css := tcs) (uss := []) SlC.nil ?_ (by rw [GV.toldL_map]; exact hls.rep.mod (Mod.refl [] _) (by simp) fun b _ hb => hb.1) SlC.nil .nil
      rw [GV.toldL_map, List.length_map, ← htl]
      rcases hls.raw.sl with ⟨rfl, rfl⟩ | ⟨BA, cap', rest, rfl, q2, q3, q4, q5⟩
      · exact SlC.nil
      · refine ⟨some ⟨BA, 0, none⟩, cap', rfl, q2, fun h => by simp at h, fun a ha _ => ?_⟩
        simp only [Option.some.injEq] at ha; subst ha
        refine ⟨q3, q4.lt, ?_⟩
        have := q4.cells.take tcs.flatten.length
        rwa [List.take_left] at this
end
end Go.Msk

namespace Go.Msk
open Go.RowKit
set_option maxRecDepth 100000
def u32v (k : Nat) : Value := .int .u32 k
theorem putObj_size (w : World) (r : Nat) (o : Obj) : (putObj w r o).heap.size = w.heap.size := by simp [putObj]
theorem putObj_other {w : World} {r k : Nat} {o : Obj} (h : k ≠ r) : (putObj w r o).heap[k]? = w.heap[k]? := by
  simp only [putObj]; exact Array.getElem?_setIfInBounds_ne (fun e => h e.symm)
theorem nodup_of_map {α β : Type} {f : α → β} {l : List α} (h : (l.map f).Nodup) : l.Nodup :=
  List.Pairwise.of_map f (fun _ _ hab e => hab (congrArg f e)) h
structure SeenL (es : Array MapEntry) (seen : Array Nat) (E : List MapEntry) : Prop where
  sub : ∀ e ∈ E, e ∈ es.toList
  nd : (E.map (·.born)).Nodup
  all : seen.toList = E.map (·.born)
theorem SeenL.push {es : Array MapEntry} {seen : Array Nat} {E : List MapEntry} {e : MapEntry} (h : SeenL es seen E) (he : e ∈ (leftOf es seen).toList) : SeenL es (seen.push e.born) (E ++ [e]) := by
  obtain ⟨h1, h2⟩ := mem_left he
  refine ⟨fun x hx => ?_, ?_, by simp [h.all]⟩
  · rcases List.mem_append.1 hx with hx | hx
    · exact h.sub x hx
    · simp only [List.mem_singleton] at hx; subst hx; exact h1
  · rw [List.map_append, List.nodup_append]
    refine ⟨h.nd, by simp, fun a ha b hb => ?_⟩
    simp only [List.map_cons, List.map_nil, List.mem_singleton] at hb
    subst hb
    intro e'
    subst e'
    rw [← h.all] at ha
    have : seen.contains e.born = true := by simpa using ha
    rw [this] at h2; simp at h2
theorem SeenL.perm {es : Array MapEntry} {seen : Array Nat} {E : List MapEntry} (h : SeenL es seen E) (hb : (es.toList.map (·.born)).Nodup) (h0 : (leftOf es seen).size = 0) : E.Perm es.toList := by
  have hE : E.Nodup := nodup_of_map h.nd
  have hes : es.toList.Nodup := nodup_of_map hb
  refine (List.perm_ext_iff_of_nodup hE hes).2 fun x => ⟨fun hx => h.sub x hx, fun hx => ?_⟩
  have hc := all_seen es seen h0 x hx
  have : x.born ∈ seen.toList := by simpa using hc
  rw [h.all] at this
  obtain ⟨y, hy, hyx⟩ := List.mem_map.1 this
  have := born_inj hb (h.sub y hy) hx hyx
  exact this ▸ hy
theorem SeenL.lt {es : Array MapEntry} {seen : Array Nat} {E : List MapEntry} {e : MapEntry} (h : SeenL es seen E) (_hb : (es.toList.map (·.born)).Nodup) (he : e ∈ (leftOf es seen).toList) : E.length < es.size := by
  have h2 := h.push he
  have hE : (E ++ [e]).Nodup := nodup_of_map h2.nd
  have := hE.length_le_of_subset (l₂ := es.toList) h2.sub
  simp only [List.length_append, List.length_cons, List.length_nil, Array.length_toList] at this
  omega
section
variable {P : Program} {F : Nat → Nat}
structure KeyS (w0 : World) (w : World) (σ : Sl) (it Bs B r n : Nat) (es : Array MapEntry) (clock : Nat) (E : List MapEntry) : Prop where
  s24 : σ 24 = .pointer (some ⟨it, 0, none⟩)
  s4 : σ 4 = .pointer (some ⟨Bs, 0, none⟩)
  map : w.heap[r]? = some (.map es clock)
  iter : ∃ seen, w.heap[it]? = some (.mapIter (some r) clock seen clock) ∧ SeenL es seen E
  cell : Blk w Bs [.slice (some ⟨B, 0, none⟩) E.length n]
  row : ∃ rest, Blk w B (E.map (·.key) ++ rest) ∧ E.length + rest.length = n
  fr : Mod [] w0 w
  ne1 : it ≠ Bs
  ne2 : it ≠ B
  ne3 : Bs ≠ B
  nr : r ≠ it ∧ r ≠ Bs ∧ r ≠ B
  hn : n = es.size
  old1 : w0.heap.size ≤ it
  old2 : w0.heap.size ≤ Bs
  old3 : w0.heap.size ≤ B
theorem each_loop1 {w0 w : World} {σ : Sl} {it Bs B r n : Nat} {es : Array MapEntry} {clock : Nat} {Q : Exit → Sl → World → Prop} (h : KeyS w0 w σ it Bs B r n es clock []) (hk : keysAre .u32 es) (hb : (es.toList.map (·.born)).Nodup) (hold : ∀ e ∈ es.toList, e.born < clock)
    (hQ : ∀ σ' w' E, (∀ j, j < 25 → j ≠ 5 → σ' j = σ j) → KeyS w0 w' σ' it Bs B r n es clock E → E.Perm es.toList → Q .normal σ' w') :
    wpC P (.block 0 (.loop (.seq (.blk [⟨some 25, .mnext (.tmp 24), none⟩, ⟨some 26, .ext (.tmp 25) 0, none⟩])
        (.seq (.cond (.tmp 26) .skip (.exit 0))
        (.block 1 (.seq (.blk [⟨some 27, .mentry (.tmp 24), none⟩, ⟨some 28, .ext (.tmp 27) 0, none⟩, ⟨some 5, .mv (.tmp 28), none⟩])
          (.blk [⟨some 29, .ld (.tmp 4), none⟩, ⟨some 30, .mv (.tmp 5), none⟩, ⟨some 31, .bslice 1 [.int .u32 0] [(0, 1, .tmp 30)], none⟩, ⟨some 32, .append (.tmp 29) (.tmp 31) 1 4, none⟩, ⟨none, .st (.tmp 4) 1 (.tmp 32), none⟩]))))))) Q σ w := by
  rw [wpC_block, wpC_loop]
  refine ⟨fun σ' w' => ∃ E, (∀ j, j < 25 → j ≠ 5 → σ' j = σ j) ∧ KeyS w0 w' σ' it Bs B r n es clock E, fun _ w' => (leftOf es (w'.iterSeen it)).size, ⟨[], fun _ _ _ => rfl, h⟩, ?_⟩
  rintro σ1 w1 ⟨E, ag, hS⟩
  obtain ⟨seen, hit, hE⟩ := hS.iter
  have hseen : w1.iterSeen it = seen := by unfold World.iterSeen; rw [hit]
  rw [wpC_seq, wpC_blk]
  refine wpR_run ?_
  simp only [RK.run, ev, hS.s24, hit, hS.map]
  refine ⟨hold, Nat.le_refl _, fun h0 => ?_, fun e he w2 hw2 => ?_⟩
  · -- no entry is left
    refine wpR_step (v := .bool false) (by simp only [RK.val?, ev, updo, upd, if_true]; rfl) ?_
    refine wpR_done ?_
    rw [wpC_seq, wpC_cond_f rfl]
    refine wpC_exit_out3 ?_
    refine hQ _ w1 E (fun j hj h5 => ?_) ?_ (hE.perm hb h0)
    · simp only [updo, upd, show j ≠ 26 by omega, show j ≠ 25 by omega, if_false]; exact ag j hj h5
    · exact { hS with s24 := by simp [updo, upd, hS.s24], s4 := by simp [updo, upd, hS.s4] }
  · -- an entry
    have hsz2 : w2.heap = w1.heap := by rcases hw2 with rfl | rfl <;> rfl
    have hm2 : Mod [] w1 w2 := by
      rcases hw2 with rfl | rfl
      · exact Mod.refl _ _
      · exact Mod.drew _ _
    have hitl : it < w2.heap.size := by rw [hsz2]; exact (Array.getElem?_eq_some_iff.1 hit).1
    refine wpR_step (v := .bool true) (by simp only [RK.val?, ev, updo, upd, if_true]; rfl) ?_
    refine wpR_done ?_
    rw [wpC_seq, wpC_cond_t rfl, wpC_skip]
    simp only [thenC]
    rw [wpC_block, wpC_seq, wpC_blk]
    have hpm : Mod [it] w2 (putObj w2 it (.mapIter (some r) clock (seen.push e.born) clock)) := Mod.putObj (by simp)
    have hget : (putObj w2 it (.mapIter (some r) clock (seen.push e.born) clock)).heap[it]? = some (.mapIter (some r) clock (seen.push e.born) clock) := putObj_get hitl
    have hmp : (putObj w2 it (.mapIter (some r) clock (seen.push e.born) clock)).heap[r]? = some (.map es clock) := by
      rw [putObj_other hS.nr.1, hsz2]; exact hS.map
    obtain ⟨rest, hrow, hlen⟩ := hS.row
    have hcell := (hS.cell.mod hm2 (by simp)).mod hpm (by simpa using hS.ne1.symm)
    have hrow := (hrow.mod hm2 (by simp)).mod hpm (by simpa using hS.ne2.symm)
    have hpsz : (putObj w2 it (.mapIter (some r) clock (seen.push e.born) clock)).heap.size = w2.heap.size := putObj_size _ _ _
    have hm3 : Mod [it] w1 (putObj w2 it (.mapIter (some r) clock (seen.push e.born) clock)) := hm2.nil.trans hpm
    generalize hw3 : putObj w2 it (.mapIter (some r) clock (seen.push e.born) clock) = w3 at hpm hget hmp hcell hrow hpsz hm3 ⊢
    obtain ⟨k, hkk⟩ := hk e (mem_left he).1
    have hlt := hE.lt hb he
    have hnn := hS.hn
    refine wpR_run ?_
    simp only [RK.run, ev, updo, upd, show (24 : Nat) ≠ 26 by decide, show (24 : Nat) ≠ 25 by decide, if_false, hS.s24, hget, hmp]
    refine ⟨trivial, e, (mem_left he).1, hb, by simp, ?_⟩
    refine wpR_step (v := e.key) (by simp only [RK.val?, ev, upd, if_true]; rfl) ?_
    refine wpR_step (v := e.key) (by simp only [RK.val?, ev, updo, upd, if_true]) ?_
    refine wpR_done ?_
    rw [wpC_blk]
    refine wpR_step (v := .slice (some ⟨B, 0, none⟩) E.length n) (by simp only [RK.val?, ev, updo, upd]; simp [hS.s4, hcell.cell]) ?_
    refine wpR_step (v := e.key) (by simp only [RK.val?, ev, updo, upd]; simp) ?_
    refine wpR_run ?_
    have hkc : e.key.cells = #[e.key] := by rw [hkk]; rfl
    have hko : e.key.oneCell' = true := by rw [hkk]; rfl
    simp only [RK.run, List.map_cons, List.map_nil, ev, updo, upd, if_true, zrep, List.replicate_succ, List.replicate_zero, List.flatten_cons, List.flatten_nil, List.append_nil, fillL, hkc]
    have hspl : splice [Value.int .u32 0] 0 [e.key] = [e.key] := splice_all rfl
    simp only [List.size_toArray, List.length_cons, List.length_nil, Nat.zero_add, Nat.le_refl, and_self, if_true, hspl]
    intro Tn
    have bA := Blk.new w3 [e.key] Tn
    have mA : Mod [] w3 (w3.alloc (.cells [e.key].toArray Tn)) := Mod.alloc _ _ _
    have zA : (w3.alloc (.cells [e.key].toArray Tn)).heap.size = w3.heap.size + 1 := by simp
    have hcell4 := hcell.mod mA (by simp)
    have hrow4 := hrow.mod mA (by simp)
    have hget4 : (w3.alloc (.cells [e.key].toArray Tn)).heap[it]? = some (.mapIter (some r) clock (seen.push e.born) clock) := by rw [mA.block it (by omega) (by simp)]; exact hget
    have hrl : r < w3.heap.size := (Array.getElem?_eq_some_iff.1 hmp).1
    have hmp4 : (w3.alloc (.cells [e.key].toArray Tn)).heap[r]? = some (.map es clock) := by rw [mA.block r hrl (by simp)]; exact hmp
    generalize w3.alloc (.cells [e.key].toArray Tn) = w4 at bA mA zA hcell4 hrow4 hget4 hmp4 ⊢
    refine wpR_run ?_
    have hsrc : srcCells w4 1 (.slice (some ⟨w3.heap.size, 0, none⟩) 1 1) = some (1, [e.key]) := by
      simp only [srcCells, Nat.mul_one]
      rw [cellsAt_of' bA.cells (n := 1) rfl]; rfl
    simp only [RK.run, ev, updo, upd, show (29 : Nat) ≠ 31 by decide, show (29 : Nat) ≠ 30 by decide, if_false, if_true, hsrc, appendRun]
    rw [if_pos (by omega)]
    simp only [Addr.add_mk, Nat.zero_add, Nat.mul_one]
    obtain ⟨x, rest', rfl⟩ : ∃ x r', rest = x :: r' := by cases rest with | nil => simp at hlen; omega | cons x r' => exact ⟨x, r', rfl⟩
    simp only [List.length_cons] at hlen
    refine ⟨stOk_one hrow4 (by simp) hko, ?_⟩
    have hput : Mod [B] w4 (putCells w4 ⟨B, E.length, none⟩ 0 [e.key]) := Mod.put (by simp)
    have hp := hrow4.put (o := E.length) (vs := [e.key]) (by simp)
    have hsp2 : splice (E.map (·.key) ++ x :: rest') E.length [e.key] = (E ++ [e]).map (·.key) ++ rest' := by
      have h1 : (E.map (·.key) ++ x :: rest').take E.length = E.map (·.key) := List.take_left' (by simp)
      have h2 : (E.map (·.key) ++ x :: rest').drop (E.length + [e.key].length) = rest' := by
        rw [show E.map (·.key) ++ x :: rest' = (E.map (·.key) ++ [x]) ++ rest' by simp]
        exact List.drop_left' (by simp)
      unfold splice
      rw [h1, h2]; simp
    rw [hsp2] at hp
    have hcell5 := hcell4.mod hput (by simpa using hS.ne3)
    have hget5 : (putCells w4 ⟨B, E.length, none⟩ 0 [e.key]).heap[it]? = some (.mapIter (some r) clock (seen.push e.born) clock) := by
      rw [hput.block it (by omega) (by simpa using hS.ne2)]; exact hget4
    have hmp5 : (putCells w4 ⟨B, E.length, none⟩ 0 [e.key]).heap[r]? = some (.map es clock) := by
      rw [hput.block r (by omega) (by simpa using hS.nr.2.2)]; exact hmp4
    have zB : (putCells w4 ⟨B, E.length, none⟩ 0 [e.key]).heap.size = w4.heap.size := size_putCells ..
    generalize putCells w4 ⟨B, E.length, none⟩ 0 [e.key] = w5 at hput hp hcell5 hget5 hmp5 zB ⊢
    refine wpR_run ?_
    have ec : (Value.slice (some ⟨B, 0, none⟩) (E.length + 1) n).cells = #[.slice (some ⟨B, 0, none⟩) (E.length + 1) n] := rfl
    have hput6 : Mod [Bs] w5 (putCells w5 ⟨Bs, 0, none⟩ 0 [.slice (some ⟨B, 0, none⟩) (E.length + 1) n]) := Mod.put (by simp)
    have hp6 := hcell5.put (o := 0) (vs := [.slice (some ⟨B, 0, none⟩) (E.length + 1) n]) (by simp)
    rw [splice_all (by rfl)] at hp6
    simp only [RK.run, ev, updo, upd, if_true, show (4 : Nat) ≠ 32 by decide, show (4 : Nat) ≠ 31 by decide, show (4 : Nat) ≠ 30 by decide, show (4 : Nat) ≠ 29 by decide, show (4 : Nat) ≠ 5 by decide, show (4 : Nat) ≠ 28 by decide, show (4 : Nat) ≠ 27 by decide, show (4 : Nat) ≠ 26 by decide, show (4 : Nat) ≠ 25 by decide, if_false, hS.s4, ec]
    refine ⟨rfl, stOk_one hcell5 (by simp) rfl, ?_⟩
    have hget6 : (putCells w5 ⟨Bs, 0, none⟩ 0 [.slice (some ⟨B, 0, none⟩) (E.length + 1) n]).heap[it]? = some (.mapIter (some r) clock (seen.push e.born) clock) := by
      rw [hput6.block it (by omega) (by simpa using hS.ne1)]; exact hget5
    have hmp6 : (putCells w5 ⟨Bs, 0, none⟩ 0 [.slice (some ⟨B, 0, none⟩) (E.length + 1) n]).heap[r]? = some (.map es clock) := by
      rw [hput6.block r (by omega) (by simpa using hS.nr.2.1)]; exact hmp5
    simp only [wpR, inBlockC, thenC]
    refine ⟨⟨E ++ [e], fun j hj h5 => ?_, ?_⟩, ?_⟩
    · simp only [upd, show j ≠ 32 by omega, show j ≠ 31 by omega, show j ≠ 30 by omega, show j ≠ 29 by omega, h5, show j ≠ 28 by omega, show j ≠ 27 by omega, show j ≠ 26 by omega, show j ≠ 25 by omega, if_false]; exact ag j hj h5
    · refine { hS with s24 := by simp [upd, hS.s24], s4 := by simp [upd, hS.s4], map := hmp6, iter := ⟨_, hget6, hE.push he⟩, cell := by simpa using hp6, row := ⟨rest', hp.mod hput6 (by simpa using hS.ne3.symm), by simp; omega⟩, fr := ?_ }
      have o1 := hS.old1; have o2 := hS.old2; have o3 := hS.old3
      refine Mod.drop (b := it) (S := []) ?_ o1
      refine Mod.drop (b := Bs) (S := [it]) ?_ o2
      refine Mod.drop (b := B) (S := [Bs, it]) ?_ o3
      exact (((hS.fr.mono (by simp)).trans (hm3.mono (by simp))).trans (mA.mono (by simp))).trans ((hput.mono (by simp)).trans (hput6.mono (by simp)))
    · have h6 : (putCells w5 ⟨Bs, 0, none⟩ 0 [.slice (some ⟨B, 0, none⟩) (E.length + 1) n]).iterSeen it = seen.push e.born := by unfold World.iterSeen; rw [hget6]
      rw [hseen, h6]
      exact left_shrinks es seen e he
end
end Go.Msk

namespace Go.Msk
open Go.RowKit
set_option maxRecDepth 100000
def getT (m : List (Nat × List UInt8)) (k : Nat) : List UInt8 := match m.find? (fun p => k == p.1) with | some p => p.2 | none => []
theorem insT_perm (k : Nat) (l : List UInt8) : ∀ m : List (Nat × List UInt8), (insT k l m).Perm ((k, l) :: m)
  | [] => .refl _
  | (k', l') :: m => by
    simp only [insT]
    split
    · exact .refl _
    · exact ((insT_perm k l m).cons _).trans (.swap _ _ _)
theorem sortT_perm : ∀ m : List (Nat × List UInt8), (sortT m).Perm m
  | [] => .refl _
  | (k, l) :: m => (insT_perm k l (sortT m)).trans ((sortT_perm m).cons _)
theorem insT_sorted (k : Nat) (l : List UInt8) : ∀ m : List (Nat × List UInt8), m.Pairwise (fun a b => a.1 ≤ b.1) → (insT k l m).Pairwise (fun a b => a.1 ≤ b.1)
  | [], _ => by simp [insT]
  | (k', l') :: m, h => by
    simp only [insT]
    rw [List.pairwise_cons] at h
    split
    · rename_i hk
      refine List.pairwise_cons.2 ⟨fun b hb => ?_, List.pairwise_cons.2 h⟩
      rcases List.mem_cons.1 hb with rfl | hb
      · exact Nat.le_of_lt hk
      · have := h.1 b hb; simp only at this ⊢; omega
    · rename_i hk
      refine List.pairwise_cons.2 ⟨fun b hb => ?_, insT_sorted k l m h.2⟩
      have := (insT_perm k l m).mem_iff.1 hb
      rcases List.mem_cons.1 this with rfl | hb
      · simp only; omega
      · exact h.1 b hb
theorem sortT_sorted : ∀ m : List (Nat × List UInt8), (sortT m).Pairwise (fun a b => a.1 ≤ b.1)
  | [] => .nil
  | (k, l) :: m => insT_sorted k l _ (sortT_sorted m)
theorem getT_mem : ∀ {m : List (Nat × List UInt8)} (p : Nat × List UInt8), (m.map (·.1)).Nodup → p ∈ m → getT m p.1 = p.2
  | [], p, _, h => by simp at h
  | q :: m, p, hn, h => by
    unfold getT
    rw [List.find?_cons]
    rw [List.map_cons, List.nodup_cons] at hn
    rcases List.mem_cons.1 h with rfl | h
    · simp
    · have hne : ¬ p.1 = q.1 := fun e => hn.1 (by rw [← e]; exact List.mem_map.2 ⟨p, h, rfl⟩)
      have : (p.1 == q.1) = false := by simpa using hne
      rw [this]
      exact getT_mem p hn.2 h
theorem sortT_eq {m : List (Nat × List UInt8)} {ks : List Nat} (hn : (m.map (·.1)).Nodup) (hp : ks.Perm (m.map (·.1))) (hs : ks.Pairwise (· ≤ ·)) : ks.map (fun k => (k, getT m k)) = sortT m := by
  have h1 : (m.map (·.1)).map (fun k => (k, getT m k)) = m := by
    rw [List.map_map]
    conv => rhs; rw [← List.map_id m]
    apply List.map_congr_left
    intro p hp
    simp only [Function.comp, id, getT_mem p hn hp]
  have h2 : (ks.map (fun k => (k, getT m k))).Perm m := by
    have := hp.map (fun k => (k, getT m k))
    rwa [h1] at this
  refine List.Perm.eq_of_pairwise (le := fun a b => a.1 ≤ b.1) (fun a b ha hb hab hba => ?_) ?_ (sortT_sorted m) (h2.trans (sortT_perm m).symm)
  · have ha' := h2.mem_iff.1 ha
    have hb' := (sortT_perm m).mem_iff.1 hb
    have e : a.1 = b.1 := Nat.le_antisymm hab hba
    have x1 := getT_mem a hn ha'
    have x2 := getT_mem b hn hb'
    rw [e] at x1
    exact Prod.ext e (x1.symm.trans x2)
  · exact List.Pairwise.map _ (fun a b h => h) hs
theorem EntL.get {ok : Nat → Prop} {w : World} {es : List MapEntry} {m : List (Nat × List UInt8)} (h : EntL ok w es m) {k : Nat} (hk : k ∈ m.map (·.1)) : ∃ e, es.find? (keyIs k) = some e ∧ SlC ok w e.val (getT m k).length (u8s (getT m k)) := by
  induction h with
  | nil => simp at hk
  | @cons e k' l es m h1 h2 h3 h4 ih =>
    have hki : keyIs k e = decide (k = k') := by
      unfold keyIs; rw [h1]
      by_cases hkk : k = k'
      · simp [hkk]
      · have : ¬ (k : Int) = k' := by omega
        simp [hkk, this]
    rw [List.find?_cons, hki]
    by_cases hkk : k = k'
    · refine ⟨e, by simp [hkk], ?_⟩
      have : getT ((k', l) :: m) k = l := by unfold getT; simp [hkk]
      rw [this]; exact h3
    · simp only [List.map_cons, List.mem_cons, hkk, false_or] at hk
      obtain ⟨x, hx1, hx2⟩ := ih hk
      refine ⟨x, by simp [hkk, hx1], ?_⟩
      have : getT ((k', l) :: m) k = getT m k := by unfold getT; rw [List.find?_cons, show (k == k') = false by simpa using hkk]
      rw [this]; exact hx2
theorem EntL.len {ok : Nat → Prop} {w : World} {es : List MapEntry} {m : List (Nat × List UInt8)} (h : EntL ok w es m) : es.length = m.length := by
  induction h with
  | nil => rfl
  | cons _ _ _ _ ih => simp [ih]
theorem EntL.klist {ok : Nat → Prop} {w : World} {es : List MapEntry} {m : List (Nat × List UInt8)} (h : EntL ok w es m) : es.map (·.key) = (m.map (·.1)).map u32v := by
  induction h with
  | nil => rfl
  | cons h1 _ _ _ ih => simp [ih, h1, u32v]
theorem EntL.lt32 {ok : Nat → Prop} {w : World} {es : List MapEntry} {m : List (Nat × List UInt8)} (h : EntL ok w es m) : ∀ k ∈ m.map (·.1), k < 4294967296 := by
  induction h with
  | nil => simp
  | cons _ h2 _ _ ih =>
    intro k hk
    rw [List.map_cons] at hk
    rcases List.mem_cons.1 hk with rfl | hk
    · exact h2
    · exact ih k hk
theorem map_perm_inj : ∀ {a b : List Nat}, (a.map u32v).Perm (b.map u32v) → a.Perm b := by
  intro a b h
  have hd : ∀ l : List Nat, (l.map u32v).map (fun v => match v with | .int _ n => n.toNat | _ => 0) = l := by
    intro l
    rw [List.map_map]
    conv => rhs; rw [← List.map_id l]
    apply List.map_congr_left
    intro k _; simp [u32v]
  have := h.map (fun v => match v with | .int _ n => n.toNat | _ => 0)
  rwa [hd, hd] at this
def SortC (P : Program) (f g : FuncId) (T : TypeId) : Prop :=
  ∀ (w : World) (B Bs : Nat) (ks : List Nat), Blk w B (ks.map u32v) → Blk w Bs [.slice (some ⟨B, 0, none⟩) ks.length ks.length] → Bs ≠ B → ks.length ≤ 2147483647 → (∀ k ∈ ks, k < 4294967296) →
    Calls P f #[.iface T (.slice (some ⟨B, 0, none⟩) ks.length ks.length), .func (.func g) #[] #[.pointer (some ⟨Bs, 0, none⟩)]] w fun e w' =>
      e = .returned (.tuple #[]) ∧ ∃ ks' : List Nat, ks'.Perm ks ∧ ks'.Pairwise (· ≤ ·) ∧ Blk w' B (ks'.map u32v) ∧ Mod [B] w w'
end Go.Msk
