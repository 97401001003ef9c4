/- A small language of resolved operations, and what the generic and the generated functions do in it (part 12). -/
import Derived.Test.YtkgihecaappglaaGreatDoorFk
import Derived.ProofKit
import Derived.LaidMore
import Derived.OpenShut
import Derived.Stop.Joined

namespace Go.Msk
open Go.RowKit
set_option maxRecDepth 100000
section
variable {P : Program} {D : Dec}
theorem wpL_cons {c : IC} {l : List IC} {Q : Exit → Sl → World → Prop} {σ : Sl} {w : World} (h : wpC P c (thenC (wpL P l Q) Q) σ w) : wpL P (c :: l) Q σ w := h
theorem kFin_wp {E : RE} {w0 w7 : World} {sp sr T T1 rb b0 rr g nv base off n' k' : Nat} {S S' X' : List Nat} {cl' : Nat} {pre post : List Value} {lv : Value} {gj q : GV} {mv : Value} {m : List (Nat × List UInt8)} {s5 s3 : RS} {c : KCase} {bs' : Option Addr} {Te : TypeId} {ve : Value} {σ1 σ7 : Sl} {Q : Exit → Sl → World → Prop}
    (hcpl : CplC P E.cpl g) (a7 : ∀ j, j < sr + 1 → σ7 j = σ1 j) (v7 : σ7 (sr + 1) = .slice bs' n' k') (hr7 : IsRd S' w7 rr s5) (hS' : b0 ∈ S') (hA7 : KtB w0 w7 rb b0 S X' cl' pre post [gj] [[lv]] mv m) (hrep : Rep (rb :: (ownM mv ++ S)) w7 q [.slice bs' n' k'])
    (hX' : LvX (.slice bs' n' k') X' cl' c.size) (hq : ∃ a b l, q = .lst a b l) (hrd7 : IsRd (ownM mv ++ (X' ++ S)) w7 rb s3) (hg7 : GErr g w7 Te ve) (hT1 : sr + 8 + c.fs.length ≤ T1) (hT : sr + 8 + c.fs.length ≤ T) (hs1 : σ1 sp = .pointer (some ⟨b0, base, none⟩)) (hoff : base + off = pre.length)
    (v1 : σ1 sr = .pointer (some ⟨rr, 0, none⟩)) (hrb0 : rr ≠ b0) (l1 : nv ≤ sr) (l2 : sp < nv) (hgb : g ≠ b0) (hne : rb ≠ b0)
    (hret : s5.bad = true → ∀ σ' w', Mod [rb, b0] w0 w' → σ' E.ret = .iface Te ve → Q .ret σ' w')
    (hQ : s5.bad = false → ∀ σ' w', (∀ j, j < sr → σ' j = σ1 j) → KtB w0 w' rb b0 S X' cl' pre post [q] [[.slice bs' n' k']] mv m → IsRd (ownM mv ++ (X' ++ S)) w' rb s3 → GErr g w' Te ve → Q .normal σ' w') :
    wpL P [stF sp (sr + 1) T1 off 1] (thenC (wpL P (kTail E sr (sr + 7 + c.fs.length) T) Q) Q) σ7 w7 := by
  simp only [wpL]
  have hA := hA7
  have hbl := hA.sl b0 hA.sb
  have hlr := hA.lr
  have hb7 : Blk w7 b0 (pre ++ ([lv] ++ (mv :: post))) := by simpa using hA7.blk
  refine stF_wp (v := .slice bs' n' k') (by rw [a7 _ (by omega)]; exact hs1) v7 hb7 (by simp [Value.cells]; omega) (by simp [Value.cells]) (by simp [Value.cells, Value.oneCell']) (by omega) (by omega) fun σ8 a8 => ?_
  have hput : Mod [b0] w7 (putCells w7 ⟨b0, base + off, none⟩ 0 (Value.slice bs' n' k').cells.toList) := Mod.put (by simp)
  have hb8 := hb7.put (o := base + off) (vs := (Value.slice bs' n' k').cells.toList) (by simp [Value.cells]; omega)
  have e : splice (pre ++ ([lv] ++ (mv :: post))) (base + off) (Value.slice bs' n' k').cells.toList = pre ++ ([[.slice bs' n' k']].flatten ++ (mv :: post)) := by
    rw [hoff]; simp [splice, Value.cells]
  rw [e] at hb8
  generalize putCells w7 ⟨b0, base + off, none⟩ 0 (Value.slice bs' n' k').cells.toList = w8 at hput hb8
  have hg8 : GErr g w8 Te ve := cell_mod hg7 hput (by simpa using hgb)
  simp only [thenC]
  refine kTail_wp hcpl (hr7.mod hput (by simpa using hrb0) (by simpa using hS')) hg8 (by rw [a8 sr (by omega), a7 sr (by omega)]; exact v1) (by omega) (fun hbad σ9 e9 => hret hbad σ9 w8 (hA7.mod.trans (hput.mono (by simp))) e9) fun hbad σ9 a9 => ?_
  refine hQ hbad σ9 w8 (fun j hj => ?_) ⟨hb8, .cons (hrep.mod hput (by simp [hA.sb])) .nil, TagM.mod hA7.tag hput (fun r hr => ?_) (by simp [hA.sb]) fun _ _ h => h, hA7.nr, fun x hx => ⟨(hA7.nx x hx).1, Nat.lt_of_lt_of_le (hA7.nx x hx).2 hput.size⟩,
      fun x hx => (hA7.xb x hx).imp fun cs k => ⟨k.1.mod hput (by have := (hA7.nx x hx).1; simp; omega), k.2⟩, hA7.mod.trans (hput.mono (by simp)), hA.sb, hA.sl, hA.lr, hA.ne⟩ (hrd7.mod hput (by simpa using hne) (by simp [hA.sb])) hg8
  · rw [a9 j (by omega), a8 j (by omega), a7 j (by omega)]
  · have := (hA7.nr r hr).1
    simp; omega
theorem KCase.dec_lst {c : KCase} {len : VR} {b : Nat} {zz : List Value} {x : Bool} {gj : GV} {s : RS} (hl : c.lst = some (len, b, zz)) : c.dec D x gj s = if (D.len x s).2.bad then none else match decList (flRcd D x c.fs) (D.len x s).1.toNat (D.len x s).2 with
      | none => none
      | some (l, s2) => some (.lst (decide ((D.len x s).1 ≤ 0) && gj.isnil) (if (decide ((D.len x s).1 ≤ 0) && gj.isnil) = true then 0 else c.size) l, s2) := by
  unfold KCase.dec
  rw [hl]
  rfl
theorem thenC_n {R : Sl → World → Prop} {Q : Exit → Sl → World → Prop} {σ : Sl} {w : World} (h : R σ w) : thenC R Q .normal σ w := h
def lstQ (D : Dec) (fs : List KF) (sz : Nat) (isn : Bool) (N : Int) (s4 : RS) : Option (GV × RS) := match decList (flRcd D true fs) N.toNat s4 with
  | none => none
  | some (l, s2) => some (.lst (decide (N ≤ 0) && isn) (if (decide (N ≤ 0) && isn) = true then 0 else sz) l, s2)
theorem kRest_wp {E : RE} {w0 wa w5 : World} {sp sr T ne nb rb b0 g nv base off n0 k0 b : Nat} {S X : List Nat} {cl : Nat} {pre post : List Value} {gj : GV} {mv : Value} {m : List (Nat × List UInt8)} {s3 s4 : RS} {c : KCase} {u : Bool} {ver : Int} {zz : List Value} {bs : Option Addr} {N : Int} {t : Nat} {Te : TypeId} {ve : Value} {σ1 σ6 : Sl} {Q : Exit → Sl → World → Prop}
    (hcpl : CplC P E.cpl g) (hok : OkC P E.ok) (hsh : D.Short) (hN : N ≤ 2147483647) (hby : b ≤ 32768) (hz : zz.length = c.size) (hz1 : ∀ v ∈ zz, v.oneCell' = true) (hD : DfC P c.dfl zz (flDcs c.fs).flatten) (hB : (bodyF c.rt c.fs).Ok P D u true)
    (hAa : KtB w0 wa rb b0 S X cl pre post [gj] [[.slice bs n0 k0]] mv m) (hma5 : Mod [] wa w5) (hr5 : IsRd (rb :: (ownM mv ++ (X ++ S))) w5 wa.heap.size s4) (hra : IsRd (ownM mv ++ (X ++ S)) wa rb s3)
    (hb0 : bs = none → k0 = 0 ∧ X = []) (hXb : ∀ a, bs = some a → ∃ A, a = ⟨A, 0, none⟩ ∧ X = [A] ∧ cl = k0 * c.size)
    (hE1 : RV.Env { E with b := sr } (sr + 1) wa.heap.size u true ver σ1) (hs1 : σ1 sp = .pointer (some ⟨b0, base, none⟩)) (hoff : base + off = pre.length) (l1 : nv ≤ sr) (l2 : sp < nv) (l4 : sr + 8 + c.fs.length ≤ T) (lt : sr + 8 + c.fs.length ≤ t) (hga : GErr g wa Te ve) (hgn : g ≠ rb ∧ g ∉ S ∧ g < w0.heap.size)
    (g6 : Ag (sr + 1) σ1 σ6) (l6 : σ6 (sr + 1 + 1) = .slice bs n0 k0) (v6 : σ6 (sr + 1 + 2) = .int .i32 N)
    (hret : (∀ q s', lstQ D c.fs c.size bs.isNone N s4 = some (q, s') → s'.bad = true) → ∀ σ' w', Mod [rb, b0] w0 w' → σ' E.ret = .iface Te ve → Q .ret σ' w')
    (hQ : ∀ q s', lstQ D c.fs c.size bs.isNone N s4 = some (q, s') → s'.bad = false → ∀ σ' w' X' cl' lv', (∀ j, j < sr → σ' j = σ1 j) → KtB w0 w' rb b0 S X' cl' pre post [q] [[lv']] mv m → LvX lv' X' cl' c.size → (∃ a b l, q = .lst a b l) → IsRd (ownM mv ++ (X' ++ S)) w' rb s3 → GErr g w' Te ve → Q .normal σ' w') :
    wpL P (roomF (sr + 1) (t + 3) b zz ++ [loopF (sr + 1) nb (t + 10) (elF (sr + 1) (t + 15) zz.length c.dfl ++ flGen { E with b := sr } c.rt c.fs (sr + 1 + 5) 0 (sr + 1 + 6) (t + 15 + 6)),
      cpF (sr + 1 + 1) (sr + 1) (t + 15 + ne), stF sp (sr + 1) (t + 16 + ne) off 1]) (thenC (wpL P (kTail E sr (sr + 7 + c.fs.length) T) Q) Q) σ6 w5 := by
  have hA := hAa
  have hlb := hE1.lb
  have hne : rb ≠ b0 := fun e => hA.ne (e ▸ hA.sb)
  have hgb : g ≠ b0 := fun e => hgn.2.1 (e ▸ hA.sb)
  have hbl := hA.sl b0 hA.sb
  have hlr := hA.lr
  have hs0a := hAa.mod.size
  have hs5 := hma5.size
  have hrr5 := hr5.lt
  have hsO := hAa.szO
  have v1 : σ1 sr = .pointer (some ⟨wa.heap.size, 0, none⟩) := hE1.hb
  have hg5 : GErr g w5 Te ve := cell_mod hga hma5 (by simp)
  have hgO : g ∉ rb :: (ownM mv ++ (X ++ S)) := by
    simp only [List.mem_cons, List.mem_append, not_or]
    exact ⟨hgn.1, fun hc => by have := hA.own hc; omega, fun hc => by have := (hA.nx _ hc).1; omega, hgn.2.1⟩
  have hrrO : wa.heap.size ∉ rb :: (ownM mv ++ (X ++ S)) := fun hc => by have := hsO _ hc; omega
  have hrb0 : wa.heap.size ≠ b0 := by omega
  have hA5 := hAa.same hma5
  generalize hRQ : thenC (wpL P (kTail E sr (sr + 7 + c.fs.length) T) Q) Q = R
  rw [wpL_append]
  refine roomG_wp (n := N) (c := k0) l6 v6 (by omega) hby (by omega) (fun h => (hb0 h).1) hz1 (fun a ha => ?_) (fun hn0 σ7 a7 v7 => ?_) fun hn0 σ7 w7 A k' rest a7 hc v7 hb7 hrl hm7 => ?_
  · obtain ⟨A, rfl, hXA, hcl⟩ := hXb a ha
    obtain ⟨cells, p1, p2⟩ := hA5.xb A (by rw [hXA]; simp)
    exact ⟨A, cells, rfl, p1, by rw [p2, hcl, hz]⟩
  · have hNz : N.toNat = 0 := by omega
    have hlx : LvX (.slice bs 0 k0) X cl c.size := by
      cases bs with
      | none => exact .inl ⟨by rw [(hb0 rfl).1], (hb0 rfl).2⟩
      | some a =>
        obtain ⟨A, rfl, hXA, hcl⟩ := hXb a rfl
        exact .inr ⟨A, 0, k0, rfl, hXA, hcl⟩
    refine thenC_n ?_
    refine wpL_cons ?_
    refine loopF_zero (l := N) (by rw [a7 _ (by omega) (by omega)]; exact v6) hn0 (by omega) fun σ8 a8 => ?_
    refine thenC_n ?_
    refine wpL_cons ?_
    refine cpF_wp (by omega) fun σ9 a9 v9 => ?_
    refine thenC_n ?_
    have hdd : lstQ D c.fs c.size bs.isNone N s4 = some (.lst (bs.isNone) (if bs.isNone = true then 0 else c.size) [], s4) := by
      unfold lstQ
      rw [hNz]
      simp only [decList, hn0, decide_true, Bool.true_and]
    subst hRQ
    refine kFin_wp (s3 := s3) (σ1 := σ1) (bs' := bs) (n' := 0) (k' := k0) hcpl (fun j hj => ?_) ?_ hr5 (by simp [hA.sb]) hA5 (q := .lst (bs.isNone) (if bs.isNone = true then 0 else c.size) []) ?_ ?_ ⟨_, _, _, rfl⟩ (hra.mod hma5 (by simp) (by simp)) hg5 (by omega) l4 hs1 hoff v1 hrb0 l1 l2 hgb hne
      (fun hbad σ' w' hm he => hret (fun q s' hd => by rw [hdd] at hd; simp only [Option.some.injEq, Prod.mk.injEq] at hd; rw [← hd.2]; exact hbad) σ' w' hm he) (fun hbad σ' w' f1 f2 f3 f4 => hQ _ _ hdd hbad σ' w' X cl _ f1 f2 ?_ ⟨_, _, _, rfl⟩ f3 f4)
    · rw [a9 j (by omega) (by omega), a8 j (by omega), a7 j (by omega) (by omega)]
      exact g6 j hj
    · rw [v9, a8 _ (by omega)]; exact v7
    · cases bs with
      | none =>
        rw [(hb0 rfl).1]
        exact .lst0
      | some a =>
        obtain ⟨A, rfl, hXA, -⟩ := hXb a rfl
        have hxA := hA5.nx A (by rw [hXA]; simp)
        refine .lst1 (css := []) ?_ hxA.2 rfl (Nat.zero_le _) (fun _ h => by cases h) .nil ⟨rfl, fun i v h => by simp at h⟩
        simp only [List.mem_cons, List.mem_append, not_or]
        refine ⟨by omega, fun hcc => ?_, fun hcc => by have := hA.sl _ hcc; omega⟩
        exact (hA5.nr A (ownM_some hcc)).2 (by rw [hXA]; simp)
    · exact hlx
    · exact hlx
  · have hcast : N = (N.toNat : Int) := by omega
    have hNd : decide (N ≤ 0) = false := by simp; omega
    have hs7 : w5.heap.size ≤ w7.heap.size := by rcases hm7 with ⟨-, -, h⟩ | ⟨-, h⟩ <;> exact h.size
    have hAlt := hb7.lt
    -- where the list lies
    have hA0 : w0.heap.size ≤ A ∧ A ≠ wa.heap.size ∧ (A < wa.heap.size → X = [A]) := by
      rcases hm7 with ⟨h, -, -⟩ | ⟨h, -⟩
      · obtain ⟨A', e, hXA, -⟩ := hXb _ h
        cases e
        have := hAa.nx A (by rw [hXA]; simp)
        exact ⟨this.1, by omega, fun _ => hXA⟩
      · exact ⟨by omega, by omega, fun h' => by omega⟩
    have hAS : A ∉ rb :: (ownM mv ++ S) := by
      simp only [List.mem_cons, List.mem_append, not_or]
      refine ⟨by omega, fun hcc => ?_, fun hcc => by have := hA.sl _ hcc; omega⟩
      have h9 := hsO A (List.mem_cons_of_mem _ (List.mem_append_left _ hcc))
      exact (hAa.nr A (ownM_some hcc)).2 (by rw [hA0.2.2 h9]; simp)
    have hma7 : Mod [A] wa w7 := by
      rcases hm7 with ⟨-, -, h⟩ | ⟨-, h⟩
      · exact hma5.nil.trans h
      · exact (hma5.trans h).nil
    have hr7 : IsRd (A :: (rb :: (ownM mv ++ S))) w7 wa.heap.size s4 := by
      have hsub : ∀ y ∈ rb :: (ownM mv ++ S), y ∈ rb :: (ownM mv ++ (X ++ S)) := fun y hy => by
        simp only [List.mem_cons, List.mem_append] at hy ⊢
        rcases hy with h | h | h
        · exact .inl h
        · exact .inr (.inl h)
        · exact .inr (.inr (.inr h))
      rcases hm7 with ⟨h, -, hm⟩ | ⟨h, hm⟩
      · obtain ⟨A', e, hXA, -⟩ := hXb _ h
        cases e
        refine (hr5.weaken (S' := A :: (rb :: (ownM mv ++ S))) fun y hy => ?_).mod hm (by simp; omega) (by simp)
        rcases List.mem_cons.1 hy with rfl | hy
        · rw [hXA]; simp
        · exact hsub y hy
      · exact (hr5.weaken hsub).fresh hm (by omega)
    have hrrA : wa.heap.size ∉ A :: (rb :: (ownM mv ++ S)) := by
      rw [List.mem_cons, not_or]
      refine ⟨fun e => hA0.2.1 e.symm, fun hcc => hrrO ?_⟩
      simp only [List.mem_cons, List.mem_append] at hcc ⊢
      rcases hcc with h | h | h
      · exact .inl h
      · exact .inr (.inl h)
      · exact .inr (.inr (.inr h))
    have hgA : g ∉ wa.heap.size :: A :: (rb :: (ownM mv ++ S)) := by
      simp only [List.mem_cons, List.mem_append, not_or] at hgO ⊢
      exact ⟨by omega, by omega, hgO.1, hgO.2.1, hgO.2.2.2⟩
    have hg7 : GErr g w7 Te ve := cell_mod hga hma7 (by simp; omega)
    have g7 : Ag (sr + 1) σ1 σ7 := fun j hj => by rw [a7 j (by omega) (by omega)]; exact g6 j hj
    have hE7 : RV.Env { E with b := sr } (sr + 1) wa.heap.size u true ver σ7 := hE1.ag g7 (Nat.le_refl _)
    have hszB : (bodyF c.rt c.fs).size = c.size := bodyF_size _ _
    have hel := elemS (P := P) (E := { E with b := sr }) (D := D) (g := g) (rb := wa.heap.size) (Te := Te) (ve := ve) (u := u) (x := true) (ver := ver) (body := bodyF c.rt c.fs) (k := N.toNat) (c := k') (nv := sr + 1) (A := A) (S := rb :: (ownM mv ++ S)) (z := zz) (σ0 := σ7) (w0 := w7) (t := t + 15) (nb := nb + 2) (dfl := c.dfl)
      (Sc.sound (E := { E with b := sr }) hcpl hsh (bodyF c.rt c.fs) fun _ => hok) hB hE7 v7 (by rw [bodyF_nv]; omega) (by rw [hz, hszB]) (by rw [bodyF_dcs]; exact hD) hrrA (fun y hy => by
        rcases List.mem_cons.1 hy with rfl | hy
        · exact hAlt
        · have := hsO y (by
            simp only [List.mem_cons, List.mem_append] at hy ⊢
            rcases hy with h | h | h
            · exact .inl h
            · exact .inr (.inl h)
            · exact .inr (.inr (.inr h)))
          omega) hg7 hgA
    refine thenC_n ?_
    have eel : (fun s => rcdD ((bodyF c.rt c.fs).dec D ver true s)) = flRcd D true c.fs := by
      funext s
      rw [bodyF_dec]; rfl
    rw [eel] at hel
    rw [bodyF_gen _ _ (nb + 2)]
    refine wpL_cons ?_
    refine loopF_wp (n := N.toNat) (z := zz) (rest := rest) (by rw [a7 _ (by omega) (by omega), v6, ← hcast]) (by omega) (by omega) rfl hb7 hr7 hel ?_
    have hdec : lstQ D c.fs c.size bs.isNone N s4 = match decList (flRcd D true c.fs) N.toNat s4 with
        | none => none
        | some (l, s2) => some (.lst false c.size l, s2) := by
      unfold lstQ
      simp only [hNd, Bool.false_and, Bool.false_eq_true, if_false]
    cases hd : decList (flRcd D true c.fs) N.toNat s4 with
    | none =>
      rw [hd] at hdec
      intro σ8 w8 hm8 hr8
      subst hRQ
      show Q .ret σ8 w8
      have hm08 : Mod [rb, b0] w0 w8 := by
        refine Mod.drop (b := A) (S := [rb, b0]) ?_ hA0.1
        refine Mod.drop (b := wa.heap.size) (S := [A, rb, b0]) ?_ hs0a
        exact ((hAa.mod.mono (by simp)).trans (hma7.mono (by simp))).trans (hm8.mono (by simp))
      exact hret (fun q s' hd' => by rw [hdec] at hd'; simp at hd') σ8 w8 hm08 hr8
    | some q =>
      obtain ⟨gs, s5⟩ := q
      rw [hd] at hdec
      simp only at hdec
      intro σ8 w8 css a8 hm8 hr8 hrep hsz hln hb8
      refine thenC_n ?_
      refine wpL_cons ?_
      refine cpF_wp (by omega) fun σ9 a9 v9 => ?_
      refine thenC_n ?_
      have hma8 : Mod [A] wa w8 := Mod.drop (b := wa.heap.size) (S := [A]) ((hma7.mono (by simp)).trans (hm8.mono (by simp))) (Nat.le_refl _)
      have hs8 := hma8.size
      have hcl8 : (css.flatten ++ rest).length = k' * c.size := by
        rw [List.length_append, flatten_length hsz, hln, hrl, hz, ← Nat.add_mul]
        congr 1; omega
      have hm08 : Mod [rb, b0] w0 w8 := Mod.drop (b := A) (S := [rb, b0]) ((hAa.mod.mono (by simp)).trans (hma8.mono (by simp))) hA0.1
      have hbA : b0 ≠ A := by omega
      have hrepL : Rep (rb :: (ownM mv ++ S)) w8 (.lst false c.size gs) [.slice (some ⟨A, 0, none⟩) N.toNat k'] := by
        refine .lst1 (css := css) hAS hb8.lt (by rw [← hln, hrep.length]) hc (by rw [← hz]; exact hsz) (hrep.weaken fun y hy => ?_) ?_
        · exact List.mem_cons_of_mem _ (List.mem_cons_of_mem _ hy)
        · have := hb8.cells.take css.flatten.length
          simpa using this
      have hrlt : ∀ r, mv = .map (some r) → r < wa.heap.size := fun r hr => by
        rcases hAa.tag with ⟨e1, -⟩ | ⟨r', e1, e2⟩
        · rw [e1] at hr; simp at hr
        · rw [e1] at hr
          simp only [Value.map.injEq, Option.some.injEq] at hr
          rw [← hr]; exact e2.lt
      have hall : TagM (fun b => b ∉ rb :: (ownM mv ++ ([A] ++ S))) w8 mv m ∧ (∀ r, mv = .map (some r) → w0.heap.size ≤ r ∧ r ∉ [A]) ∧ IsRd (ownM mv ++ ([A] ++ S)) w8 rb s3 := by
        by_cases hAl : A < wa.heap.size
        · have hXA := hA0.2.2 hAl
          subst hXA
          refine ⟨TagM.mod hAa.tag hma8 (fun r hr => (hAa.nr r hr).2) (by simp) fun _ _ h => h, hAa.nr, hra.mod hma8 ?_ ?_⟩
          · simp; omega
          · simp
        · have hm0 : Mod [] wa w8 := Mod.drop (b := A) (S := []) hma8 (by omega)
          refine ⟨TagM.mod hAa.tag hm0 (by simp) (by simp) fun b hb h => ?_, fun r hr => ⟨(hAa.nr r hr).1, ?_⟩, (hra.fresh hm0 (A := A) (by omega)).weaken fun y hy => ?_⟩
          · simp only [List.mem_cons, List.mem_append, List.not_mem_nil, or_false, not_or] at h ⊢
            exact ⟨h.1, h.2.1, by omega, h.2.2.2⟩
          · have := hrlt r hr
            simp; omega
          · simp only [List.mem_cons, List.mem_append, List.not_mem_nil, or_false] at hy ⊢
            rcases hy with h | h | h
            · exact .inr (.inl h)
            · exact .inl h
            · exact .inr (.inr (.inr h))
      subst hRQ
      refine kFin_wp (s3 := s3) (σ1 := σ1) (bs' := some ⟨A, 0, none⟩) (n' := N.toNat) (k' := k') (X' := [A]) (cl' := k' * c.size) (lv := .slice bs n0 k0) (gj := .num (.slice bs n0 k0)) (mv := mv) (m := m) (pre := pre) (post := post) (S := S) (w0 := w0) hcpl (fun j hj => ?_) ?_ hr8 (by simp [hA.sb]) ⟨hAa.blk.mod hma8 (by simpa using hbA), .cons (.num rfl) .nil, hall.1, hall.2.1, fun x hx => ?_, fun x hx => ?_, hm08, hA.sb, hA.sl, hA.lr, hA.ne⟩ hrepL (.inr ⟨A, _, _, rfl, rfl, rfl⟩) ⟨_, _, _, rfl⟩ hall.2.2 (cell_mod hga hma8 (by simp; omega)) (by omega) l4 hs1 hoff v1 hrb0 l1 l2 hgb hne
        (fun hbad σ' w' hm he => hret (fun q s' hd' => by rw [hdec] at hd'; simp only [Option.some.injEq, Prod.mk.injEq] at hd'; rw [← hd'.2]; exact hbad) σ' w' hm he) (fun hbad σ' w' f1 f2 f3 f4 => hQ _ _ hdec hbad σ' w' _ _ _ f1 f2 (.inr ⟨A, _, _, rfl, rfl, rfl⟩) ⟨_, _, _, rfl⟩ f3 f4)
      · rw [a9 j (by omega) (by omega), a8 j (by omega), a7 j (by omega) (by omega)]
        exact g6 j hj
      · rw [v9, a8 _ (by omega)]; exact v7
      · simp only [List.mem_singleton] at hx
        subst hx
        exact ⟨hA0.1, hb8.lt⟩
      · simp only [List.mem_singleton] at hx
        subst hx
        exact ⟨_, hb8, hcl8⟩
theorem knownL_wp {uvr span : FuncId} (huv : RdC P uvr fun s => (.int .u32 (rdUv s).1, (rdUv s).2)) (hsp : SpanC P span) {E : RE} {w0 w : World} {sp sr T nb rb b0 z g nv base off : Nat} {S X : List Nat} {cl : Nat} {pre post : List Value} {lv : Value} {gj : GV} {mv : Value} {m : List (Nat × List UInt8)} {o : Option (List UInt8)} {s1 s2 s3 : RS} {c : KCase} {u : Bool} {ver : Int} {len : VR} {b : Nat} {zz : List Value} {Te : TypeId} {ve : Value} {σ : Sl} {Q : Exit → Sl → World → Prop}
    (hcpl : CplC P E.cpl g) (hok : OkC P E.ok) (hsh : D.Short) (hl : c.lst = some (len, b, zz)) (hlen : RdL P (len.sel u true) (D.len true)) (hby : b ≤ 32768) (hz : zz.length = c.size) (hz1 : ∀ v ∈ zz, v.oneCell' = true) (hD : DfC P c.dfl zz (flDcs c.fs).flatten) (hB : (bodyF c.rt c.fs).Ok P D u true)
    (hA : KtB w0 w rb b0 S X cl pre post [gj] [[lv]] mv m) (hX : LvX lv X cl c.size) (hgj : ∃ a b l, gj = .lst a b l) (hR : IsRd (ownM mv ++ (X ++ S)) w rb s1) (h1 : rdUv s1 = (z, s2)) (h2 : rdSpan z s2 = (o, s3))
    (hE : RV.Env E nv rb u true ver σ) (hfx : E.hasFx = true) (hs : σ sp = .pointer (some ⟨b0, base, none⟩)) (hoff : base + off = pre.length) (l1 : nv ≤ sr) (l2 : sp < nv) (l4 : sr + 8 + c.fs.length ≤ T) (hg : GErr g w Te ve) (hgn : g ≠ rb ∧ g ∉ S ∧ g < w0.heap.size)
    (hret : (∀ q s4, c.dec D true gj ⟨o.getD [], false, o.isNone⟩ = some (q, s4) → s4.bad = true) → ∀ σ' w', Mod [rb, b0] w0 w' → σ' E.ret = .iface Te ve → Q .ret σ' w')
    (hQ : ∀ q s4, c.dec D true gj ⟨o.getD [], false, o.isNone⟩ = some (q, s4) → s4.bad = false → ∀ σ' w' X' cl' lv', (∀ j, j < sr → σ' j = σ j) → KtB w0 w' rb b0 S X' cl' pre post [q] [[lv']] mv m → LvX lv' X' cl' c.size → (∃ a b l, q = .lst a b l) → IsRd (ownM mv ++ (X' ++ S)) w' rb s3 → GErr g w' Te ve → Q .normal σ' w') :
    wpL P (c.gen E sp off sr nb uvr span T) Q σ w := by
  have hlb := hE.lb
  have hlv := hE.lv
  have hlu := hE.lu
  have hlf := hE.lf hfx
  have hne : rb ≠ b0 := fun e => hA.ne (e ▸ hA.sb)
  have hgb : g ≠ b0 := fun e => hgn.2.1 (e ▸ hA.sb)
  have hbl := hA.sl b0 hA.sb
  have hlr := hA.lr
  -- the variable
  obtain ⟨bs, n0, k0, rfl, hb0, hXb⟩ : ∃ bs n0 k0, lv = .slice bs n0 k0 ∧ (bs = none → k0 = 0 ∧ X = []) ∧ (∀ a, bs = some a → ∃ A, a = ⟨A, 0, none⟩ ∧ X = [A] ∧ cl = k0 * c.size) := by
    rcases hX with ⟨rfl, rfl⟩ | ⟨A, n, k, rfl, rfl, rfl⟩
    · exact ⟨none, 0, 0, rfl, fun _ => ⟨rfl, rfl⟩, fun a h => by simp at h⟩
    · exact ⟨_, n, k, rfl, fun h => by simp at h, fun a h => by cases h; exact ⟨A, rfl, rfl, rfl⟩⟩
  unfold KCase.gen
  rw [hl]
  refine wpL_cons ?_
  refine kHead_wp huv hsp hA hR h1 h2 hE.hb (by omega) (by omega) fun σ1 wa w4 a1 v1 hm0a hma4 hAa hra hr4 => ?_
  refine thenC_n ?_
  have hA4 := hAa.same hma4
  have hga : GErr g wa Te ve := cell_mod hg hm0a (by simpa using hgn.1)
  have hg4 : GErr g w4 Te ve := cell_mod hga hma4 (by simp)
  have hs0a := hAa.mod.size
  have hsa4 := hma4.size
  have hsO := hAa.szO
  have hrrO : wa.heap.size ∉ rb :: (ownM mv ++ (X ++ S)) := fun hc => by have := hsO _ hc; omega
  have hgO : g ∉ rb :: (ownM mv ++ (X ++ S)) := by
    simp only [List.mem_cons, List.mem_append, not_or]
    exact ⟨hgn.1, fun hc => by have := hA.own hc; omega, fun hc => by have := (hA.nx _ hc).1; omega, hgn.2.1⟩
  have hbk : Blk w4 b0 (pre ++ ([.slice bs n0 k0] ++ (mv :: post))) := by simpa using hA4.blk
  have hs1 : σ1 sp = .pointer (some ⟨b0, base, none⟩) := by rw [a1 sp (by omega) (by omega)]; exact hs
  have hisn : gj.isnil = bs.isNone := by
    cases hA4.fld with | cons h _ => exact h.lstD hgj
  have hE1 : RV.Env { E with b := sr } (sr + 1) wa.heap.size u true ver σ1 := by
    refine ⟨by simp, by simp only; omega, fun hf => ?_, by simp only; omega, v1, ?_, ?_, fun hf => ?_, hE.h0⟩
    · simp only; omega
    · exact (a1 E.vs (by omega) (by omega)).trans hE.hv
    · exact (a1 E.un (by omega) (by omega)).trans hE.hu
    · exact (a1 E.fx (by omega) (by omega)).trans (hE.hx hf)
  rw [wpL_append]
  generalize hRQ : thenC (wpL P (kTail E sr (sr + 7 + c.fs.length) (T + 4 + (len.nt E.hasFx + flNt E.hasFx c.fs + 31))) Q) Q = R
  unfold lstL
  simp only [LB.setL, List.nil_append, List.cons_append, LB.nt, Nat.add_zero]
  refine wpL_cons ?_
  refine ldF_wp (v := .slice bs n0 k0) hs1 hbk (by rw [hoff]; simp) (by omega) (by omega) fun σ2 a2 v2 => ?_
  refine thenC_n ?_
  refine wpL_cons ?_
  refine cpF_wp (by omega) fun σ3 a3 v3 => ?_
  refine thenC_n ?_
  refine wpL_cons ?_
  refine cF_wp ?_
  refine thenC_n ?_
  have g3 : Ag (sr + 1) σ1 (upd σ3 (sr + 1 + 2) (.int .i32 0)) := fun j hj => by
    rw [upd_ne _ _ (by omega), a3 j (by omega) (by omega), a2 j (by omega) (by omega)]
  refine wpL_cons ?_
  refine VR.wp len _ _ w4 (hE1.ag g3 (Nat.le_refl _)) (by omega) (by omega) hlen hr4 hrrO (fun y hy => by have := hsO y hy; omega) fun σ5 w5 v a5 v5 hv hr5 hm5 => ?_
  subst hv
  refine thenC_n ?_
  have g5 : Ag (sr + 1) σ1 σ5 := fun j hj => by rw [a5 j (by omega) (by omega)]; exact g3 j hj
  have l5 : σ5 (sr + 1 + 1) = .slice bs n0 k0 := by rw [a5 _ (by omega) (by omega), upd_ne _ _ (by omega), v3, v2]
  have hma5 : Mod [] wa w5 := Mod.drop (b := wa.heap.size) (S := []) (hma4.nil.trans hm5) (Nat.le_refl _)
  have hg5 : GErr g w5 Te ve := cell_mod hga hma5 (by simp)
  have hs5 := hma5.size
  have hrr5 := hr5.lt
  clear a2 a3 v2 v3 g3
  unfold lstR
  refine wpL_cons ?_
  refine okF_wp (hE1.ag g5 (Nat.le_refl _)) (by omega) hr5 hg5 hok hcpl (fun hbad σ6 a6 => ?_) fun hbad σ6 r6 => ?_
  rotate_left
  · subst hRQ
    show Q .ret σ6 w5
    refine hret (fun q s4 hd => ?_) σ6 w5 (hAa.mod.trans hma5.nil) r6
    rw [KCase.dec_lst hl, if_pos hbad] at hd
    simp at hd
  obtain ⟨hsl, hsr⟩ := hsh true ⟨o.getD [], false, o.isNone⟩
  have g6 : Ag (sr + 1) σ1 σ6 := fun j hj => by rw [a6 j (by omega)]; exact g5 j hj
  have l6 : σ6 (sr + 1 + 1) = .slice bs n0 k0 := by rw [a6 _ (by omega)]; exact l5
  have v6 : σ6 (sr + 1 + 2) = .int .i32 (D.len true ⟨o.getD [], false, o.isNone⟩).1 := by rw [a6 _ (by omega)]; exact v5
  refine thenC_n ?_
  have hd0 : c.dec D true gj ⟨o.getD [], false, o.isNone⟩ = lstQ D c.fs c.size bs.isNone (D.len true ⟨o.getD [], false, o.isNone⟩).1 (D.len true ⟨o.getD [], false, o.isNone⟩).2 := by
    rw [KCase.dec_lst hl, if_neg (by simp [hbad]), hisn]; rfl
  subst hRQ
  refine kRest_wp (σ1 := σ1) (u := u) (ver := ver) (nv := nv) (N := (D.len true ⟨o.getD [], false, o.isNone⟩).1) hcpl hok hsh (by omega) hby hz hz1 hD hB hAa hma5 hr5 hra hb0 hXb hE1 hs1 hoff l1 l2 (by omega) (by omega) hga hgn g6 l6 v6 (fun h => hret (fun q s' hd => h q s' (hd0.symm.trans hd))) fun q s' hd hbad' σ' w' X' cl' lv' f1 => hQ q s' (hd0.trans hd) hbad' σ' w' X' cl' lv' fun j hj => (f1 j hj).trans (a1 j (by omega) (by omega))
end
end Go.Msk

namespace Go.Msk
open Go.RowKit
set_option maxRecDepth 100000
theorem splitL {α β : Type} : ∀ (a : List β) (c : β) (b : List β) (l : List α), l.length = (a ++ c :: b).length → ∃ l1 x l2, l = l1 ++ x :: l2 ∧ l1.length = a.length
  | [], _, _, x :: l, _ => ⟨[], x, l, rfl, rfl⟩
  | _ :: a, c, b, x :: l, h => by
    obtain ⟨l1, z, l2, rfl, h'⟩ := splitL a c b l (by simpa using h)
    exact ⟨x :: l1, z, l2, rfl, by simp [h']⟩
  | [], _, _, [], h => by simp at h
  | _ :: _, _, _, [], h => by simp at h
theorem kFind_some {k : Nat} : ∀ (a : List KCase) (c : KCase) (b : List KCase), (∀ x ∈ a, x.tag ≠ k) → c.tag = k → (a ++ c :: b).findIdx? (fun c => c.tag == k) = some a.length
  | [], c, b, _, h => by simp [List.findIdx?_cons, h]
  | x :: a, c, b, h1, h => by
    have hx := h1 x List.mem_cons_self
    have := kFind_some a c b (fun y hy => h1 y (List.mem_cons_of_mem _ hy)) h
    simp [List.findIdx?_cons, hx, this]
theorem kFind_none {k : Nat} : ∀ (cs : List KCase), (∀ x ∈ cs, x.tag ≠ k) → cs.findIdx? (fun c => c.tag == k) = none
  | [], _ => rfl
  | x :: a, h1 => by
    have hx := h1 x List.mem_cons_self
    have := kFind_none a fun y hy => h1 y (List.mem_cons_of_mem _ hy)
    simp [List.findIdx?_cons, hx, this]
theorem getD_mid {α : Type} : ∀ (a : List α) (c : α) (b : List α) (d : α) (n : Nat), n = a.length → (a ++ c :: b).getD n d = c
  | [], _, _, _, _, h => by subst h; rfl
  | x :: a, c, b, d, n, h => by
    subst h
    exact getD_mid a c b d a.length rfl
theorem set_mid {α : Type} : ∀ (a : List α) (c : α) (b : List α) (y : α) (n : Nat), n = a.length → (a ++ c :: b).set n y = a ++ y :: b
  | [], _, _, _, _, h => by subst h; rfl
  | x :: a, c, b, y, n, h => by
    subst h
    exact congrArg (x :: ·) (set_mid a c b y a.length rfl)
theorem flat_sum : ∀ (l : List (List Value)), l.flatten.length = (l.map List.length).sum
  | [] => rfl
  | x :: l => by simp only [List.flatten_cons, List.length_append, List.map_cons, List.sum_cons, flat_sum l]
theorem kSize_sum (cs : List KCase) : kSize cs = (cs.map fun c => c.cs0.length).sum := by
  unfold kSize
  rw [flat_sum, List.map_map]
  rfl
theorem rd_ne {S : List Nat} {w : World} {rb : Nat} {s : RS} (h : IsRd S w rb s) (hk : (rdUv s).1 ≠ 0) : (rdUv s).2 ≠ (rdUv (rdUv s).2).2 ∧ (rdUv s).2 ≠ (rdSpan (rdUv (rdUv s).2).1 (rdUv (rdUv s).2).2).2 := by
  have hn : (rdUv s).2.isnil = false := by
    obtain ⟨base, len, cap, p1, p2, p3, p4⟩ := h.ex
    unfold rdUv at hk ⊢
    split at hk
    · rename_i v k hv
      have hne := (uvR_ne _ _ _ _ hv).2
      simp only
      cases base with
      | some a => rw [← p3]; rfl
      | none =>
        have h1 := p2.hnone rfl
        have h2 := p2.hcap
        have h3 := p2.hlen
        exact absurd (List.eq_nil_of_length_eq_zero (by omega)) hne
    · exact absurd rfl hk
  generalize (rdUv s).2 = s1 at hn
  have h2 : (rdUv s1).2.isnil = true ∨ (rdUv s1).2.src.length < s1.src.length := by
    unfold rdUv
    split
    · rename_i v k hv
      obtain ⟨h1, h2⟩ := uvR_ne _ _ _ _ hv
      have : 0 < s1.src.length := List.length_pos_iff.2 h2
      right; simp; omega
    · exact .inl rfl
  have h3 : ∀ z s2, s2.isnil = true ∨ s2.src.length < s1.src.length → (rdSpan z s2).2.isnil = true ∨ (rdSpan z s2).2.src.length < s1.src.length := by
    intro z s2 h
    unfold rdSpan
    split
    · exact .inl rfl
    · rcases h with h | h
      · exact .inl h
      · right; simp; omega
  have ne : ∀ s2 : RS, s2.isnil = true ∨ s2.src.length < s1.src.length → s1 ≠ s2 := by
    rintro s2 h rfl
    rcases h with h | h
    · rw [hn] at h; simp at h
    · omega
  exact ⟨ne _ h2, ne _ (h3 _ _ h2)⟩
section
variable {P : Program} {D : Dec}
attribute [local simp] gOk updo upd ev RK.val? isShift intBin Addr.add_mk args0 Value.cells undef
theorem kChain_wp {E : RE} {sp key q dT mo k : Nat} {uvr span set : FuncId} {w : World} {Q : Exit → Sl → World → Prop} : ∀ (cs : List KCase) (off sr T nb : Nat) (σ : Sl), σ q = .int .u32 (k : Nat) → q < T →
    ((∀ c ∈ cs, c.tag ≠ k) → ∀ σ', (∀ j, j < T → σ' j = σ j) → wpC P (ktUnk sp E.b key mo uvr span set dT) Q σ' w) →
    (∀ a c b, cs = a ++ c :: b → (∀ x ∈ a, x.tag ≠ k) → c.tag = k → ∀ σ', (∀ j, j < T → σ' j = σ j) → ∀ off' sr' nb' T', off' = off + kSize a → sr' = sr + (a.map KCase.nv).sum → T ≤ T' → wpL P (c.gen E sp off' sr' nb' uvr span T') Q σ' w) →
    wpC P (kChain E sp key q dT mo uvr span set cs off sr T nb) Q σ w
  | [], off, sr, T, nb, σ, hq, hT, h1, h2 => h1 (by simp) σ fun _ _ => rfl
  | c :: cs, off, sr, T, nb, σ, hq, hT, h1, h2 => by
    unfold kChain
    rw [wpC_seq, wpC_blk]
    refine go1 (v := .bool (decide (k = c.tag))) rfl (by simp [hq]; rw [Bool.eq_iff_iff]; simp; omega) ?_
    refine go1 (v := .bool (decide (k = c.tag))) rfl (by simp) (goEnd ?_)
    simp only [thenC]
    generalize hσ : updo _ (some T) _ = σ1
    have a1 : ∀ j, j < T → σ1 j = σ j := fun j hj => by rw [← hσ]; simp only [updo, upd, show j ≠ T by omega, show j ≠ T + 1 by omega, if_false]
    have c1 : σ1 T = .bool (decide (k = c.tag)) := by rw [← hσ]; simp
    clear hσ
    by_cases hk : k = c.tag
    · rw [decide_eq_true hk] at c1
      rw [wpC_cond_t (by simp [c1]), wpC_seqs]
      exact h2 [] c cs rfl (by simp) hk.symm σ1 a1 off sr nb (T + 2) (by simp [kSize]) (by simp) (by omega)
    · rw [decide_eq_false hk] at c1
      rw [wpC_cond_f (by simp [c1])]
      refine kChain_wp cs _ _ _ _ σ1 (by rw [a1 q hT]; exact hq) (by omega) (fun h σ' h' => ?_) fun a c' b e g1 g2 σ' g3 off' sr' nb' T' e1 e2 e3 => ?_
      · refine h1 (fun x hx => ?_) σ' fun j hj => (h' j (by omega)).trans (a1 j hj)
        rcases List.mem_cons.1 hx with rfl | hx
        · exact fun e => hk e.symm
        · exact h x hx
      · refine h2 (c :: a) c' b (by rw [e]; rfl) (fun x hx => ?_) g2 σ' (fun j hj => (g3 j (by omega)).trans (a1 j hj)) off' sr' nb' T' ?_ ?_ (by omega)
        · rcases List.mem_cons.1 hx with rfl | hx
          · exact fun e => hk e.symm
          · exact g1 x hx
        · rw [e1, kSize_sum, kSize_sum]; simp only [List.map_cons, List.sum_cons]; omega
        · rw [e2]; simp only [List.map_cons, List.sum_cons]; omega
def KCase.Ok (P : Program) (D : Dec) (u : Bool) (c : KCase) : Prop :=
  (bodyF c.rt c.fs).Ok P D u true ∧ match c.lst with
  | none => ∀ z : List Value, z.length = c.size → ∃ z', z'.length = z.length ∧ DfC P c.dfl z z'
  | some (len, b, zz) => RdL P (len.sel u true) (D.len true) ∧ b ≤ 32768 ∧ zz.length = c.size ∧ (∀ v ∈ zz, v.oneCell' = true) ∧ DfC P c.dfl zz (flDcs c.fs).flatten
def KSh (cs : List KCase) (gs : List GV) (css : List (List Value)) (gm : List GV) (cm : List (List Value)) (X : List Nat) (cl : Nat) : Prop :=
  ((∀ c ∈ cs, c.lst = none) ∧ X = []) ∨ (gm = [] ∧ cm = [] ∧ ∃ c lv g, cs = [c] ∧ c.lst ≠ none ∧ css = [[lv]] ∧ gs = [g] ∧ (∃ a b l, g = .lst a b l) ∧ LvX lv X cl c.size)
structure KJ (w0 w : World) (rb b0 : Nat) (S : List Nat) (pre post : List Value) (cs : List KCase) (gm : List GV) (cm : List (List Value)) (gs : List GV) (m : List (Nat × List UInt8)) (s : RS) : Prop where
  ex : ∃ css mv X cl, KtB w0 w rb b0 S X cl pre post (gs ++ gm) (css ++ cm) mv m ∧ IsRd (ownM mv ++ (X ++ S)) w rb s ∧ css.map List.length = cs.map (fun c => c.cs0.length) ∧ gs.length = cs.length ∧ KSh cs gs css gm cm X cl
theorem kRound_wp {uvr span set : FuncId} (huv : RdC P uvr fun s => (.int .u32 (rdUv s).1, (rdUv s).2)) (hsp : SpanC P span) (hset : SetC P set) {E : RE} {w0 w : World} {sp nt nb rb b0 g nv n base off mo : Nat} {S : List Nat} {pre post : List Value} {cs : List KCase} {gm gs : List GV} {cm : List (List Value)} {m : List (Nat × List UInt8)} {s : RS} {u : Bool} {ver : Int} {Te : TypeId} {ve : Value} {σ : Sl} {Q : Exit → Sl → World → Prop}
    (hcpl : CplC P E.cpl g) (hok : OkC P E.ok) (hsh : D.Short) (hcs : ∀ c ∈ cs, c.Ok P D u) (h0 : ∃ c ∈ cs, c.tag = 0)
    (hJ : KJ w0 w rb b0 S pre post cs gm cm gs m s) (hE : RV.Env E nv rb u true ver σ) (hfx : E.hasFx = true) (hs : σ sp = .pointer (some ⟨b0, base, none⟩)) (hoff : base + off = pre.length) (hmo : mo = off + kSize cs + cm.flatten.length)
    (l2 : sp < nv) (l4 : nv + 2 + (cs.map KCase.nv).sum ≤ nt) (hg : GErr g w Te ve) (hgn : g ≠ rb ∧ g ∉ S ∧ g < w0.heap.size)
    (hret : ktgDec D true cs (n + 1) gs m s = none → ∀ σ' w', Mod [rb, b0] w0 w' → σ' E.ret = .iface Te ve → Q .ret σ' w')
    (hQ : ∀ gs' m' s', ktgDec D true cs (n + 1) gs m s = ktgDec D true cs n gs' m' s' → ∀ σ' w', (∀ j, j < nv + 1 → σ' j = σ j) → KJ w0 w' rb b0 S pre post cs gm cm gs' m' s' → GErr g w' Te ve → Q .normal σ' w') :
    wpC P (.seq (.blk [⟨some (nt + 6), .call uvr [.tmp E.b], none⟩, ⟨some (nv + 1), .mv (.tmp (nt + 6)), none⟩])
          (.seq (.blk [⟨some (nt + 7), .mv (.tmp (nv + 1)), none⟩])
          (.block (nb + 2) (kChain E sp (nv + 1) (nt + 7) (nt + 8) mo uvr span set cs off (nv + 2) (nt + 16) (nb + 3))))) Q σ w := by
  obtain ⟨css, mv, X, cl, hA, hR, hlen, hgl, hX⟩ := hJ.ex
  have q1' : rdUv (rdUv s).2 = ((rdUv (rdUv s).2).1, (rdUv (rdUv s).2).2) := rfl
  have q2' : rdSpan ((rdUv (rdUv s).2).1 : Nat) (rdUv (rdUv s).2).2 = ((rdSpan (rdUv (rdUv s).2).1 (rdUv (rdUv s).2).2).1, (rdSpan (rdUv (rdUv s).2).1 (rdUv (rdUv s).2).2).2) := rfl
  have hrb : rb ∉ ownM mv ++ (X ++ S) := by
    simp only [List.mem_append, not_or]
    exact ⟨fun hc => by have := hA.own hc; have := hA.lr; omega, fun hc => by have := (hA.nx _ hc).1; have := hA.lr; omega, hA.ne⟩
  have hlb := hE.lb
  have hlv := hE.lv
  have hlu := hE.lu
  have hne : rb ≠ b0 := fun e => hA.ne (e ▸ hA.sb)
  have hgb : g ≠ b0 := fun e => hgn.2.1 (e ▸ hA.sb)
  have hcl : css.flatten.length = kSize cs := by rw [flat_sum, hlen, kSize_sum]
  rw [wpC_seq, wpC_blk]
  refine goCall rfl (vs := [.pointer (some ⟨rb, 0, none⟩)]) (by simp [hE.hb]) (huv (ownM mv ++ (X ++ S)) w rb s hR hrb) ?_
  rintro e w1 ⟨rfl, hr1, hm1⟩
  simp only at hr1 ⊢
  refine ⟨_, rfl, go1 (v := .int .u32 ((rdUv s).1 : Nat)) rfl (by simp) (goEnd ?_)⟩
  simp only [thenC]
  rw [wpC_seq, wpC_blk]
  refine go1 (v := .int .u32 ((rdUv s).1 : Nat)) rfl (by simp) (goEnd ?_)
  simp only [thenC]
  rw [wpC_block]
  have hk := rdUv_lt s
  have hA1 := hA.rd hm1
  have hg1 : GErr g w1 Te ve := cell_mod hg hm1 (by simpa using hgn.1)
  generalize hσ : updo _ (some (nt + 7)) _ = σ1
  have a1 : ∀ j, j < nv + 1 → σ1 j = σ j := fun j hj => by rw [← hσ]; simp only [updo, upd, show j ≠ nt + 7 by omega, show j ≠ nv + 1 by omega, show j ≠ nt + 6 by omega, if_false]
  have v1 : σ1 (nt + 7) = .int .u32 ((rdUv s).1 : Nat) := by rw [← hσ]; simp
  have v2 : σ1 (nv + 1) = .int .u32 ((rdUv s).1 : Nat) := by rw [← hσ]; simp [show nv + 1 ≠ nt + 7 by omega]
  clear hσ
  have hs1 : σ1 sp = .pointer (some ⟨b0, base, none⟩) := by rw [a1 sp (by omega)]; exact hs
  have hE1 : RV.Env E nv rb u true ver σ1 := hE.ag (fun j hj => a1 j (by omega)) (Nat.le_refl _)
  refine kChain_wp cs off (nv + 2) (nt + 16) (nb + 3) σ1 v1 (by omega) (fun hnk σ2 a2 => ?_) fun a c b e g1 g2 σ2 a2 off' sr' nb' T' e1 e2 e3 => ?_
  · -- a tag that is not known
    have hk0 : (rdUv s).1 ≠ 0 := by
      obtain ⟨c, hc, hc0⟩ := h0
      exact fun h => hnk c hc (hc0.trans h.symm)
    obtain ⟨n1, n2⟩ := rd_ne hR hk0
    have a12 : ∀ j, j < nv + 1 → σ2 j = σ j := fun j hj => (a2 j (by omega)).trans (a1 j hj)
    refine unkB_wp huv hsp hset hA1 hr1 hk q1' q2' n1 n2 ?_ (by rw [a12 E.b (by omega)]; exact hE.hb) (by rw [a12 sp (by omega)]; exact hs) (by rw [a2 _ (by omega)]; exact v2) (by omega) (by omega) (by omega) fun σ3 w3 mv3 f1 f2 f3 => ?_
    · rw [List.flatten_append, List.length_append, hcl, hmo]; omega
    · simp only [inBlockC]
      have hg3 : GErr g w3 Te ve := by
        have h2 := f2.mod
        have h1 := hA1.mod
        unfold GErr at hg1 ⊢
        have e1 := h1.block g hgn.2.2 (by simp [hgn.1, hgb])
        have e2 := h2.block g hgn.2.2 (by simp [hgn.1, hgb])
        rw [World.cell?_of_block (w := w1) (by rw [e1, e2])]; exact hg1
      refine hQ gs _ _ ?_ σ3 w3 (fun j hj => (f1 j (by omega)).trans (a12 j hj)) ⟨css, mv3, X, cl, f2, f3, hlen, hgl, hX⟩ hg3
      simp only [ktgDec, kFind_none cs hnk]
  · -- a known one
    have hcm : c ∈ cs := by rw [e]; simp
    have hsum : sr' + c.nv ≤ nv + 2 + (cs.map KCase.nv).sum := by
      rw [e2, e]; simp only [List.map_append, List.map_cons, List.sum_append, List.sum_cons]; omega
    have hsr : nv + 2 ≤ sr' := by omega
    have a12 : ∀ j, j < nv + 1 → σ2 j = σ j := fun j hj => (a2 j (by omega)).trans (a1 j hj)
    have hs2 : σ2 sp = .pointer (some ⟨b0, base, none⟩) := by rw [a12 sp (by omega)]; exact hs
    have hE2 : RV.Env E nv rb u true ver σ2 := hE.ag (fun j hj => a12 j (by omega)) (Nat.le_refl _)
    have hfind := kFind_some a c b g1 g2
    rw [← e] at hfind
    have hcD : cs.getD a.length default = c := by rw [e]; exact getD_mid a c b default _ rfl
    obtain ⟨hOB, hOc⟩ := hcs c hcm
    have hstep : ∀ gj, gs.getD a.length (.rcd []) = gj → ktgDec D true cs (n + 1) gs m s = match c.dec D true gj ⟨(rdSpan (rdUv (rdUv s).2).1 (rdUv (rdUv s).2).2).1.getD [], false, (rdSpan (rdUv (rdUv s).2).1 (rdUv (rdUv s).2).2).1.isNone⟩ with
        | none => none
        | some (g, s4) => if s4.bad then none else ktgDec D true cs n (gs.set a.length g) m (rdSpan (rdUv (rdUv s).2).1 (rdUv (rdUv s).2).2).2 := by
      intro gj hgj
      simp only [ktgDec, hfind, hcD, hgj]
      rfl
    rcases hX with ⟨hall, rfl⟩ | ⟨rfl, rfl, c', lv, gl, hc1, hcl', rfl, rfl, hgl', hLv⟩
    · have hl := hall c hcm
      rw [hl] at hOc
      obtain ⟨gs1, gj, gs2, rfl, q1⟩ := splitL a c b gs (by rw [hgl, e])
      obtain ⟨c1, cj, c2, rfl, q2⟩ := splitL a c b css (by
        have := congrArg List.length hlen
        simpa [e] using this)
      have hl3 : c1.map List.length = a.map (fun c => c.cs0.length) ∧ cj.length = c.cs0.length ∧ c2.map List.length = b.map (fun c => c.cs0.length) := by
        rw [e] at hlen
        simp only [List.map_append, List.map_cons] at hlen
        obtain ⟨x1, x2⟩ := List.append_inj hlen (by simp [q2])
        simp only [List.cons.injEq] at x2
        exact ⟨x1, x2.1, x2.2⟩
      have hgj := getD_mid gs1 gj gs2 (.rcd []) a.length q1.symm
      have hst := hstep gj hgj
      have hdc : ∀ s, c.dec D true gj s = some (.rcd (flDec D true c.fs s).1, (flDec D true c.fs s).2) := fun s => by
        simp only [KCase.dec, hl, Option.isNone_none, if_true, flRcd]
      rw [hdc] at hst
      simp only at hst
      have hsz0 : c.cs0.length = c.size := by unfold KCase.cs0 KCase.size; rw [hl]; rfl
      have hc1l : c1.flatten.length = kSize a := by rw [flat_sum, hl3.1, kSize_sum]
      have hnvc : c.nv = 4 + c.fs.length := by unfold KCase.nv; rw [hl]; rfl
      refine knownS_wp (nv := nv) (base := base) (g1 := gs1) (g2 := gs2 ++ gm) (c1 := c1) (c2 := c2 ++ cm) (u := u) (ver := ver) huv hsp hcpl hl hOc hOB (by simpa [List.append_assoc] using hA1) (by rw [q1, q2]) (by rw [hl3.2.1, hsz0]) hr1 q1' q2' hE2 hfx hs2 (by rw [e1, hc1l]; omega) (by omega) l2 (by omega) hg1 hgn (fun hbad σ' w' hm he => ?_) fun hbad σ3 w3 cj' f1 f2 f3 f4 f5 => ?_
      · simp only [inBlockC]
        exact hret (by rw [hst, if_pos hbad]) σ' w' hm he
      · simp only [inBlockC]
        rw [if_neg (by simp [hbad]), set_mid gs1 gj gs2 _ _ q1.symm] at hst
        refine hQ _ _ _ hst σ3 w3 (fun j hj => (f1 j (by omega)).trans (a12 j hj)) ⟨c1 ++ cj' :: c2, mv, [], cl, by simpa [List.append_assoc] using f2, f4, ?_, ?_, .inl ⟨hall, rfl⟩⟩ f5
        · rw [e]
          simp only [List.map_append, List.map_cons, hl3.1, hl3.2.2, f3, hl3.2.1]
        · rw [← hgl]; simp
    · obtain ⟨rfl, rfl, rfl⟩ : a = [] ∧ b = [] ∧ c = c' := by
        rw [hc1] at e
        cases a with
        | nil => simp only [List.nil_append, List.cons.injEq] at e; exact ⟨rfl, e.2.symm, e.1.symm⟩
        | cons y a => simp at e
      cases hl : c.lst with
      | none => exact absurd hl hcl'
      | some t =>
        obtain ⟨len, bb, zz⟩ := t
        rw [hl] at hOc
        obtain ⟨o1, o2, o3, o4, o5⟩ := hOc
        have hst := hstep gl rfl
        have hnvc : c.nv = 8 + c.fs.length := by unfold KCase.nv; rw [hl]; rfl
        have hk0 : kSize ([] : List KCase) = 0 := rfl
        refine knownL_wp (nv := nv) (base := base) (u := u) (ver := ver) huv hsp hcpl hok hsh hl o1 o2 o3 o4 o5 hOB (by simpa using hA1) hLv hgl' hr1 q1' q2' hE2 hfx hs2 (by rw [e1, hk0]; omega) (by omega) l2 (by omega) hg1 hgn (fun hbad σ' w' hm he => ?_) fun q s4 hd hbad σ3 w3 X' cl' lv' f1 f2 f3 f4 f5 f6 => ?_
        · simp only [inBlockC]
          refine hret ?_ σ' w' hm he
          rw [hst]
          cases hd : c.dec D true gl ⟨(rdSpan (rdUv (rdUv s).2).1 (rdUv (rdUv s).2).2).1.getD [], false, (rdSpan (rdUv (rdUv s).2).1 (rdUv (rdUv s).2).2).1.isNone⟩ with
          | none => rfl
          | some p =>
            obtain ⟨q, s4⟩ := p
            simp only
            rw [if_pos (hbad q s4 hd)]
        · simp only [inBlockC]
          rw [hd] at hst
          simp only [hbad] at hst
          refine hQ [q] m _ hst σ3 w3 (fun j hj => (f1 j (by omega)).trans (a12 j hj)) ⟨[[lv']], mv, X', cl', by simpa using f2, f5, ?_, ?_, .inr ⟨rfl, rfl, c, lv', q, hc1, hcl', rfl, rfl, f4, f3⟩⟩ f6
          · rw [hc1]
            have : c.cs0.length = 1 := by unfold KCase.cs0; rw [hl]; rfl
            simp [this]
          · rw [hc1]; rfl
end
end Go.Msk

namespace Go.Msk
open Go.RowKit
set_option maxRecDepth 100000
section
variable {P : Program} {D : Dec}
attribute [local simp] gOk updo upd ev RK.val? isShift intBin Addr.add_mk args0 Value.cells undef
theorem ktgGen_wp {uvr span set : FuncId} {E : RE} {w : World} {sp nt nb rb b0 g nv base off mo : Nat} {S : List Nat} {pre post : List Value} {cs : List KCase} {gm gs : List GV} {cm : List (List Value)} {s : RS} {u x : Bool} {ver : Int} {Te : TypeId} {ve : Value} {σ : Sl} {Q : Exit → Sl → World → Prop}
    (hcpl : CplC P E.cpl g) (hok : OkC P E.ok) (hsh : D.Short) (hcs : x = true → (RdC P uvr fun s => (.int .u32 (rdUv s).1, (rdUv s).2)) ∧ SpanC P span ∧ SetC P set ∧ ∀ c ∈ cs, c.Ok P D u) (h0 : ∃ c ∈ cs, c.tag = 0)
    (hJ : KJ w w rb b0 S pre post cs gm cm gs [] s) (hE : RV.Env E nv rb u x ver σ) (hfx : E.hasFx = true) (hs : σ sp = .pointer (some ⟨b0, base, none⟩)) (hoff : base + off = pre.length) (hmo : mo = off + kSize cs + cm.flatten.length)
    (l2 : sp < nv) (l4 : nv + 2 + (cs.map KCase.nv).sum ≤ nt) (hg : GErr g w Te ve) (hgn : g ≠ rb ∧ g ∉ S)
    (hQ0 : x = false → ∀ σ', (∀ j, j < nv → σ' j = σ j) → Q .normal σ' w)
    (hret : x = true → ktgDec D true cs (rdUv s).1 gs [] (rdUv s).2 = none → ∀ σ' w', Mod [rb, b0] w w' → σ' E.ret = .iface Te ve → Q .ret σ' w')
    (hQ : x = true → ∀ gk m s', ktgDec D true cs (rdUv s).1 gs [] (rdUv s).2 = some (gk, m, s') → ∀ σ' w', (∀ j, j < nv → σ' j = σ j) → KJ w w' rb b0 S pre post cs gm cm gk m s' → Q .normal σ' w') :
    wpC P (ktgGen E sp off mo nv nt nb cs uvr span set) Q σ w := by
  have hlb := hE.lb
  have hlf := hE.lf hfx
  have hgl : g < w.heap.size := World.block_lt_of_cell? w ⟨g, 0, none⟩ hg
  unfold ktgGen
  rw [wpC_seq, wpC_blk]
  refine go1 (v := .bool x) rfl (by simp [hE.hx hfx]) (goEnd ?_)
  simp only [thenC]
  have a0 : ∀ j, j < nt → (updo σ (some nt) (.bool x)) j = σ j := fun j hj => by simp only [updo, upd, show j ≠ nt by omega, if_false]
  have c0 : (updo σ (some nt) (.bool x)) nt = .bool x := by simp
  generalize updo σ (some nt) (.bool x) = σ0 at a0 c0
  cases x with
  | false =>
    rw [wpC_cond_f (by simp [c0]), wpC_skip]
    exact hQ0 rfl σ0 fun j hj => a0 j (by omega)
  | true =>
  obtain ⟨huv, hsp, hset, hcs⟩ := hcs rfl
  have hret := hret rfl
  have hQ := hQ rfl
  rw [wpC_cond_t (by simp [c0]), wpC_seq, wpC_blk]
  obtain ⟨css, mv, X, cl, hA, hR, hlen, hgln, hX⟩ := hJ.ex
  have hrb : rb ∉ ownM mv ++ (X ++ S) := by
    simp only [List.mem_append, not_or]
    exact ⟨fun hc => by have := hA.own hc; have := hA.lr; omega, fun hc => by have := (hA.nx _ hc).1; have := hA.lr; omega, hA.ne⟩
  refine goCall rfl (vs := [.pointer (some ⟨rb, 0, none⟩)]) (by simp [a0 E.b (by omega), hE.hb]) (huv (ownM mv ++ (X ++ S)) w rb s hR hrb) ?_
  rintro e w1 ⟨rfl, hr1, hm1⟩
  simp only at hr1 ⊢
  refine ⟨_, rfl, go1 (v := .int .u32 ((rdUv s).1 : Nat)) rfl (by simp) (goEnd ?_)⟩
  simp only [thenC]
  have hn := rdUv_lt s
  have hJ1 : KJ w w1 rb b0 S pre post cs gm cm gs [] (rdUv s).2 := ⟨⟨css, mv, X, cl, hA.rd hm1, hr1, hlen, hgln, hX⟩⟩
  have hg1 : GErr g w1 Te ve := cell_mod hg hm1 (by simpa using hgn.1)
  clear hA hR hX hlen hgln hr1 hrb
  have a1 : ∀ j, j < nv → (updo (updo σ0 (some (nt + 1)) (.int .u32 ((rdUv s).1 : Nat))) (some nv) (.int .u32 ((rdUv s).1 : Nat))) j = σ j := fun j hj => by
    simp only [updo, upd, show j ≠ nv by omega, show j ≠ nt + 1 by omega, if_false]; exact a0 j (by omega)
  have c1 : (updo (updo σ0 (some (nt + 1)) (.int .u32 ((rdUv s).1 : Nat))) (some nv) (.int .u32 ((rdUv s).1 : Nat))) nv = .int .u32 ((rdUv s).1 : Nat) := by simp
  generalize updo (updo σ0 (some (nt + 1)) (.int .u32 ((rdUv s).1 : Nat))) (some nv) (.int .u32 ((rdUv s).1 : Nat)) = σ1 at a1 c1
  rw [wpC_block, wpC_loop]
  refine ⟨fun σ' w' => ∃ n gs' m s1, ktgDec D true cs (rdUv s).1 gs [] (rdUv s).2 = ktgDec D true cs n gs' m s1 ∧ (∀ j, j < nv → σ' j = σ j) ∧ σ' nv = .int .u32 (n : Nat) ∧ n < 4294967296 ∧ KJ w w' rb b0 S pre post cs gm cm gs' m s1 ∧ GErr g w' Te ve,
    fun σ' _ => match σ' nv with | .int _ n => n.toNat | _ => 0, ⟨(rdUv s).1, gs, [], (rdUv s).2, rfl, a1, c1, hn, hJ1, hg1⟩, ?_⟩
  rintro σ2 w2 ⟨n, gs', m, s1, k1, k2, k3, k4, k5, k9⟩
  rw [wpC_seq, wpC_seq, wpC_blk]
  refine go1 (v := .int .u32 (n : Nat)) rfl (by simp [k3]) ?_
  refine go1 (v := .bool (decide (0 < n))) rfl (by simp) (goEnd ?_)
  simp only [thenC]
  have a3 : ∀ j, j < nt → (updo (updo σ2 (some (nt + 2)) (.int .u32 (n : Nat))) (some (nt + 3)) (.bool (decide (0 < n)))) j = σ2 j := fun j hj => by simp only [updo, upd, show j ≠ nt + 3 by omega, show j ≠ nt + 2 by omega, if_false]
  have c3 : (updo (updo σ2 (some (nt + 2)) (.int .u32 (n : Nat))) (some (nt + 3)) (.bool (decide (0 < n)))) (nt + 3) = .bool (decide (0 < n)) := by simp
  generalize updo (updo σ2 (some (nt + 2)) (.int .u32 (n : Nat))) (some (nt + 3)) (.bool (decide (0 < n))) = σ3 at a3 c3
  have a32 : ∀ j, j < nv → σ3 j = σ j := fun j hj => (a3 j (by omega)).trans (k2 j hj)
  by_cases h0n : 0 < n
  · obtain ⟨n', rfl⟩ : ∃ n', n = n' + 1 := ⟨n - 1, by omega⟩
    rw [wpC_cond_t (by simp [c3]), wpC_skip]
    simp only [thenC]
    rw [wpC_seq, wpC_block]
    refine kRound_wp (n := n') (nv := nv) (base := base) huv hsp hset hcpl hok hsh hcs h0 k5 (hE.ag (fun j hj => a32 j hj) (Nat.le_refl _)) hfx (by rw [a32 sp l2]; exact hs) hoff hmo l2 l4 k9 ⟨hgn.1, hgn.2, hgl⟩ (fun hnone σ' w' hm he => ?_) fun gs1 m1 s2 hst σ4 w4 f1 f2 f3 => ?_
    · simp only [inBlockC, thenC]
      exact hret (k1.trans hnone) σ' w' hm he
    simp only [inBlockC, thenC]
    rw [wpC_blk]
    have t4 : σ4 nv = .int .u32 ((n' + 1 : Nat) : Int) := by rw [f1 nv (by omega), a3 nv (by omega)]; exact k3
    refine go1 (v := .int .u32 ((n' + 1 : Nat) : Int)) rfl (by simp [t4]) ?_
    refine go1 (v := .int .u32 (n' : Nat)) rfl (by
      simp only [RK.val?, ev, updo, upd, if_true, isShift, decide_true, Bool.or_true, intBin]
      have e1 : ((n' + 1 : Nat) : Int) - 1 = (n' : Nat) := by omega
      rw [e1, u32_nat (by omega)]) ?_
    refine go1 (v := .int .u32 (n' : Nat)) rfl (by simp) (goEnd ?_)
    refine ⟨⟨n', gs1, m1, s2, k1.trans hst, fun j hj => ?_, by simp, by omega, f2, f3⟩, ?_⟩
    · simp only [updo, upd, show j ≠ nv by omega, show j ≠ nt + 5 by omega, show j ≠ nt + 4 by omega, if_false]
      exact (f1 j (by omega)).trans (a32 j hj)
    · simp only [updo, upd, if_true, k3]; omega
  · have : n = 0 := by omega
    subst this
    rw [wpC_cond_f (by simp [c3])]
    exact wpC_exit_out (hQ gs' m s1 k1 σ3 w2 a32 k5)
theorem RepL.nil_inv {O : List Nat} {w : World} {css : List (List Value)} (h : RepL O w [] css) : css = [] := by cases h; rfl
theorem ktg_sound {cs : List KCase} {mid : Sc} {uvr span set : FuncId} {u x : Bool} (hmid : mid.Ok P D u x) (hcs : x = true → (RdC P uvr fun s => (.int .u32 (rdUv s).1, (rdUv s).2)) ∧ SpanC P span ∧ SetC P set ∧ ∀ c ∈ cs, c.Ok P D u)
    (h0 : ∃ c ∈ cs, c.tag = 0) (hshp : (∀ c ∈ cs, c.lst = none) ∨ (mid = .nil ∧ ∃ c, cs = [c] ∧ c.lst ≠ none)) : KtgC P D u x (.ktg cs mid uvr span set) := by
  intro E g rb Te ve ver hcpl hok hsh sp off nv nt nb B base S s pre post σ w Q hE ls hnt hs hpre hr hrb hB hS hg hgn hb hQ
  simp only [Sc.nv] at hnt
  have hdl : (Sc.ktg cs mid uvr span set).dcs.flatten = (cs.map KCase.cs0).flatten ++ (mid.dcs.flatten ++ [.map none]) := by simp [Sc.dcs]
  rw [hdl] at hb hQ
  simp only [Sc.gen]
  rw [wpL_append]
  have hmidS := Sc.sound (E := E) (g := g) (rb := rb) (Te := Te) (ve := ve) (u := u) (x := x) (ver := ver) hcpl hsh mid fun _ => hok
  refine hmidS sp (off + kSize cs) nv nt nb B base S s (pre ++ (cs.map KCase.cs0).flatten) ([.map none] ++ post) σ w _ hmid hE ls (by omega) hs (by rw [List.length_append, hpre]; unfold kSize; omega) hr hrb hB hS hg hgn (by simpa [List.append_assoc] using hb) ?_
  simp only [Sc.dec] at hQ
  cases hd : mid.dec D ver x s with
  | none =>
    rw [hd] at hQ
    simp only [ktgJ] at hQ
    intro σ' w' hm he
    simp only [thenC]
    exact hQ σ' w' hm he
  | some q =>
    obtain ⟨gm, s1⟩ := q
    rw [hd] at hQ
    intro σ1 w1 cm a1 hm1 hr1 hrep hl1 hb1
    simp only [thenC]
    have hsz1 := hm1.size
    have hS1 : ∀ y ∈ S, y < w1.heap.size := fun y hy => Nat.lt_of_lt_of_le (hS y hy) hsz1
    have hBrb : B ≠ rb := fun e => hrb (e ▸ hB)
    have hgm : g ∉ [rb, B] := by
      simp only [List.mem_cons, not_or, List.not_mem_nil, not_false_eq_true, and_true] at hgn ⊢
      exact ⟨hgn.1, fun e => hgn.2 (e ▸ hB)⟩
    have hg1 : GErr g w1 Te ve := cell_mod hg hm1 hgm
    have hb1' : Blk w1 B (pre ++ ((cs.map KCase.cs0 ++ cm).flatten ++ (.map none :: post))) := by simpa [List.append_assoc] using hb1
    have hJ : KJ w1 w1 rb B S pre post cs gm cm (cs.map KCase.gv0) [] s1 := by
      refine ⟨cs.map KCase.cs0, .map none, [], 0, ⟨hb1', (kDrep _ _ cs).app hrep, .inl ⟨rfl, rfl⟩, fun r e => by simp at e, fun x hx => by simp at hx, fun x hx => by simp at hx, Mod.refl _ _, hB, hS1, hr1.lt, hrb⟩, hr1, by rw [List.map_map]; rfl, by simp, ?_⟩
      rcases hshp with h | ⟨rfl, c, rfl, hc⟩
      · exact .inl ⟨h, rfl⟩
      · simp only [Sc.dec, Option.some.injEq, Prod.mk.injEq] at hd
        obtain ⟨rfl, rfl⟩ := hd
        have := hrep.nil_inv
        subst this
        have hn : c.lst.isNone = false := by cases h : c.lst with | none => exact absurd h hc | some t => rfl
        exact .inr ⟨rfl, rfl, c, .slice none 0 0, .lst true 0 [], rfl, hc, by simp [KCase.cs0, hn], by simp [KCase.gv0, hn], ⟨_, _, _, rfl⟩, .inl ⟨rfl, rfl⟩⟩
    have hlen0 : ((cs.map KCase.cs0).flatten ++ (mid.dcs.flatten ++ [Value.map none])).length = kSize cs + (mid.dcs.flatten.length + 1) := by simp [kSize]
    rw [hlen0] at hQ
    have a1s : ∀ j, j < nv → σ1 j = σ j := a1
    -- what is handed on
    have fin : ∀ (σ' : Sl) (w' : World) (gk : List GV) (m : List (Nat × List UInt8)) (s' : RS), (∀ j, j < nv → σ' j = σ j) → KJ w1 w' rb B S pre post cs gm cm gk m s' →
        ∃ css, Ag nv σ σ' ∧ Mod [rb, B] w w' ∧ IsRd S w' rb s' ∧ RepL (rb :: S) w' (gk ++ (gm ++ [.tag m])) css ∧ css.flatten.length = kSize cs + (mid.dcs.flatten.length + 1) ∧ Blk w' B (pre ++ (css.flatten ++ post)) := by
      intro σ' w' gk m s' hag hK
      obtain ⟨css, mv, X, cl, f, fr, flen, fgl, -⟩ := hK.ex
      refine ⟨css ++ (cm ++ [[mv]]), hag, hm1.trans f.mod, fr.weakL fun y hy => List.mem_append_right _ (List.mem_append_right _ hy), ?_, ?_, ?_⟩
      · rw [← List.append_assoc, ← List.append_assoc]
        refine (f.fld.weaken fun y hy => ?_).app (.cons ?_ .nil)
        · simp only [List.mem_cons, List.mem_append] at hy ⊢
          rcases hy with h | h
          · exact .inl h
          · exact .inr (.inr h)
        · rcases f.tag with ⟨rfl, rfl⟩ | ⟨r, rfl, h⟩
          · exact .tag0
          · have hr0 := (f.nr r rfl).1
            refine .tag1 ?_ (h.mod (Mod.refl [] _) (by simp) (by simp) fun b _ hb hx => hb ?_)
            · simp only [List.mem_cons, not_or]
              have := f.lr
              exact ⟨by omega, fun hc => by have := f.sl _ hc; omega⟩
            · simp only [List.mem_cons, List.mem_append] at hx ⊢
              rcases hx with h | h
              · exact .inl h
              · exact .inr (.inr (.inr h))
      · have hcl : css.flatten.length = kSize cs := by rw [flat_sum, flen, kSize_sum]
        simp only [List.flatten_append, List.length_append, hcl, hl1, List.flatten_cons, List.flatten_nil, List.append_nil, List.length_cons, List.length_nil]
      · simpa [List.append_assoc] using f.blk
    cases hf : E.hasFx with
    | false =>
      have hx0 := hE.h0 hf
      subst hx0
      simp only [ktgJ, Bool.false_eq_true, if_false] at hQ ⊢
      obtain ⟨css, f1, f2, f3, f4, f5, f6⟩ := fin σ1 w1 _ _ _ a1s hJ
      exact hQ σ1 w1 css f1 f2 f3 f4 f5 f6
    | true =>
      simp only [if_true, wpL]
      have hE1 : RV.Env E (nv + mid.nv) rb u x ver σ1 := hE.ag a1 (by omega)
      refine ktgGen_wp (nv := nv + mid.nv) (base := base) (u := u) (ver := ver) hcpl hok hsh hcs h0 hJ hE1 hf (by rw [a1s sp ls]; exact hs) (by omega) (by rw [hl1]; rfl) (by omega) (by omega) hg1 (by simpa using hgn) (fun hx0 σ2 a2 => ?_) (fun hx1 hnone σ2 w2 hm2 he => ?_) fun hx1 gk m s' hsome σ2 w2 a2 hK => ?_
      · simp only [thenC]
        subst hx0
        simp only [ktgJ, Bool.false_eq_true, if_false] at hQ
        obtain ⟨css, f1, f2, f3, f4, f5, f6⟩ := fin σ2 w1 _ _ _ (fun j hj => (a2 j (by omega)).trans (a1s j hj)) hJ
        exact hQ σ2 w1 css f1 f2 f3 f4 f5 f6
      · simp only [thenC]
        subst hx1
        simp only [ktgJ, if_true, hnone] at hQ
        exact hQ σ2 w2 (hm1.trans hm2) he
      · simp only [thenC]
        subst hx1
        simp only [ktgJ, if_true, hsome] at hQ
        obtain ⟨css, f1, f2, f3, f4, f5, f6⟩ := fin σ2 w2 _ _ _ (fun j hj => (a2 j (by omega)).trans (a1s j hj)) hK
        exact hQ σ2 w2 css f1 f2 f3 f4 f5 f6
end
end Go.Msk

namespace Go.Msk
open Go.RowKit
set_option maxRecDepth 100000
def KCase.okB (F : Nat → Nat) (has : Nat → Bool) (u : Bool) (okB : Sc → Bool) (c : KCase) : Bool :=
  okB (bodyF c.rt c.fs) && match c.lst with
  | none => true
  | some (len, b, zz) => lenOk F has true (len.sel u true) && decide (b ≤ 32768) && decide (zz.length = c.size) && zz.all fun v => v.oneCell'
def ktgShB (cs : List KCase) (mid : Sc) : Bool :=
  cs.any (fun c => c.tag == 0) && (cs.all (fun c => c.lst.isNone) || (match mid, cs with | .nil, [c] => !c.lst.isNone | _, _ => false))
def Sc.okF (F : Nat → Nat) (has : Nat → Bool) (u : Bool) : Sc → Bool
  | .prm .all _ r p d rest => selOk F has p u true (r.sel u true) && decide (p.size = d.size) && rest.okF F has u
  | .tags f => f == F tRead && hasAll has [tRead, rUvarint, kUvarint, rSpan, tSet]
  | _ => false
def Sc.okB (F : Nat → Nat) (has : Nat → Bool) (u x : Bool) : Sc → Bool
  | .nil => true
  | .prm _ _ r p d rest => selOk F has p u x (r.sel u x) && decide (p.size = d.size) && rest.okB F has u x
  | .enm _ _ r p d rest => selOk F has p u x (r.sel u x) && decide (p.size = d.size) && rest.okB F has u x
  | .lsp _ len bytes d _ r p rest => lenOk F has x (len.sel u x) && decide (bytes.b ≤ 32768) && selOk F has p u x (r.sel u x) && decide (p.size = d.size) && rest.okB F has u x
  | .lss _ len bytes z _ body rest => lenOk F has x (len.sel u x) && decide (bytes.b ≤ 32768) && decide (z.length = body.size) && body.okB F has u x && rest.okB F has u x
  | .sub _ _ body rest => body.okB F has u x && rest.okB F has u x
  | .tags f => !x || (f == F tRead && hasAll has [tRead, rUvarint, kUvarint, rSpan, tSet])
  | .uid _ f rest => selOk F has .uuid u x f && rest.okB F has u x
  | .vst _ _ r1 r2 rest => selOk F has .str u x (r1.sel u x) && selOk F has .nstr u x (r2.sel u x) && rest.okB F has u x
  | .ktg cs mid a b c => mid.okB F has u x && ktgShB cs mid && (!x || (a == F rUvarint && b == F rSpan && c == F tSet && hasAll has [rUvarint, kUvarint, rSpan, tSet] && cs.all fun c => c.okB F has u (Sc.okF F has u)))
def Sc.dfs : Sc → List (FuncId × List Value × List Value)
  | .nil => []
  | .prm _ _ _ _ _ rest => rest.dfs
  | .enm _ _ _ _ _ rest => rest.dfs
  | .lsp _ _ _ _ _ _ _ rest => rest.dfs
  | .lss _ _ _ z dfl body rest => (dfl, z, body.dcs.flatten) :: (body.dfs ++ rest.dfs)
  | .sub _ dfl body rest => (dfl, body.dcs.flatten, body.dcs.flatten) :: (body.dfs ++ rest.dfs)
  | .tags _ => []
  | .uid _ _ rest => rest.dfs
  | .vst _ _ _ _ rest => rest.dfs
  | .ktg cs mid _ _ _ => (cs.filterMap fun c => c.lst.map fun l => (c.dfl, l.2.2, (flDcs c.fs).flatten)) ++ mid.dfs
def Sc.kdfs : Sc → List (FuncId × Nat)
  | .nil => []
  | .prm _ _ _ _ _ rest => rest.kdfs
  | .enm _ _ _ _ _ rest => rest.kdfs
  | .lsp _ _ _ _ _ _ _ rest => rest.kdfs
  | .lss _ _ _ _ _ body rest => body.kdfs ++ rest.kdfs
  | .sub _ _ body rest => body.kdfs ++ rest.kdfs
  | .tags _ => []
  | .uid _ _ rest => rest.kdfs
  | .vst _ _ _ _ rest => rest.kdfs
  | .ktg cs mid _ _ _ => (cs.filterMap fun c => if c.lst.isNone then some (c.dfl, c.size) else none) ++ mid.kdfs
def KdfsOk (P : Program) (l : List (FuncId × Nat)) : Prop := ∀ p ∈ l, ∀ z : List Value, z.length = p.2 → ∃ z', z'.length = z.length ∧ DfC P p.1 z z'
theorem KdfsOk.nil {P : Program} : KdfsOk P [] := fun p h => by cases h
theorem dfRes_len : ∀ (l : List (Nat × Value)) (z : List Value), (dfRes l z).length = z.length
  | [], _ => rfl
  | (o, v) :: l, z => by simp only [dfRes]; rw [dfRes_len l]; simp
theorem KdfsOk.cons {P : Program} {f : FuncId} {n : Nat} {r : List (FuncId × Nat)} (hm : P.follows .mixedOrders = true) {l : List (Nat × Value)} (h : liftF P f = some (dfGen l)) (hok : dfOk l n) (hr : KdfsOk P r) : KdfsOk P ((f, n) :: r) := by
  intro p hp z hz
  rcases List.mem_cons.1 hp with rfl | hp
  · exact ⟨dfRes l z, dfRes_len l z, df_call hm h (by rw [hz]; exact hok) rfl⟩
  · exact hr p hp z hz
def DfsOk (P : Program) : List (FuncId × List Value × List Value) → Prop
  | [] => True
  | p :: l => DfC P p.1 p.2.1 p.2.2 ∧ DfsOk P l
theorem DfsOk.append {P : Program} {l l' : List (FuncId × List Value × List Value)} (h : DfsOk P (l ++ l')) : DfsOk P l ∧ DfsOk P l' := by
  induction l with
  | nil => exact ⟨trivial, h⟩
  | cons p l ih => exact ⟨⟨h.1, (ih h.2).1⟩, (ih h.2).2⟩
theorem DfsOk.mem {P : Program} : ∀ {l : List (FuncId × List Value × List Value)}, DfsOk P l → ∀ p ∈ l, DfC P p.1 p.2.1 p.2.2
  | [], _, p, hp => by cases hp
  | q :: l, h, p, hp => by
    rcases List.mem_cons.1 hp with rfl | hp
    · exact h.1
    · exact DfsOk.mem h.2 p hp
theorem okF_of {P : Program} {F : Nat → Nat} {has : Nat → Bool} (L : Lib P F has) {u : Bool} : ∀ sc : Sc, sc.okF F has u = true → sc.Ok P decStd u true := by
  intro sc
  induction sc with
  | prm vc i r p d rest ih =>
    intro h
    cases vc with
    | all =>
      simp only [Sc.okF, Bool.and_eq_true, decide_eq_true_eq] at h
      exact ⟨sel_std L h.1.1, h.1.2, ih h.2⟩
    | _ => simp [Sc.okF] at h
  | tags f =>
    intro h _
    simp only [Sc.okF, Bool.and_eq_true, beq_iff_eq] at h
    obtain ⟨rfl, h⟩ := h
    exact tags_std L h
  | _ => intro h; simp [Sc.okF] at h
theorem Sc.ok_of {P : Program} {F : Nat → Nat} {has : Nat → Bool} (L : Lib P F has) {u x : Bool} : ∀ sc : Sc, sc.okB F has u x = true → DfsOk P sc.dfs → KdfsOk P sc.kdfs → sc.Ok P decStd u x := by
  intro sc
  induction sc with
  | nil => intro _ _ _; trivial
  | prm vc i r p d rest ih =>
    intro h hd hk
    simp only [Sc.okB, Bool.and_eq_true, decide_eq_true_eq] at h
    exact ⟨sel_std L h.1.1, h.1.2, ih h.2 hd hk⟩
  | enm vc i r p d rest ih =>
    intro h hd hk
    simp only [Sc.okB, Bool.and_eq_true, decide_eq_true_eq] at h
    exact ⟨sel_std L h.1.1, h.1.2, ih h.2 hd hk⟩
  | lsp vc len b d i r p rest ih =>
    intro h hd hk
    simp only [Sc.okB, Bool.and_eq_true, decide_eq_true_eq] at h
    exact ⟨len_std L h.1.1.1.1, h.1.1.1.2, sel_std L h.1.1.2, h.1.2, ih h.2 hd hk⟩
  | lss vc len b z dfl body rest ihb ih =>
    intro h hd hk
    simp only [Sc.okB, Bool.and_eq_true, decide_eq_true_eq] at h
    obtain ⟨k1, k2⟩ := DfsOk.append hd.2
    exact ⟨len_std L h.1.1.1.1, h.1.1.1.2, h.1.1.2, hd.1, ihb h.1.2 k1 (fun p hp => hk p (List.mem_append_left _ hp)), ih h.2 k2 fun p hp => hk p (List.mem_append_right _ hp)⟩
  | sub vc dfl body rest ihb ih =>
    intro h hd hk
    simp only [Sc.okB, Bool.and_eq_true] at h
    obtain ⟨k1, k2⟩ := DfsOk.append hd.2
    exact ⟨hd.1, ihb h.1 k1 (fun p hp => hk p (List.mem_append_left _ hp)), ih h.2 k2 fun p hp => hk p (List.mem_append_right _ hp)⟩
  | vst vc V r1 r2 rest ih =>
    intro h hd hk
    simp only [Sc.okB, Bool.and_eq_true] at h
    exact ⟨sel_std L h.1.1, sel_std L h.1.2, fun s => by cases x <;> exact ⟨_, rfl⟩, ih h.2 hd hk⟩
  | uid vc f rest ih =>
    intro h hd hk
    simp only [Sc.okB, Bool.and_eq_true] at h
    exact ⟨sel_std L h.1, ih h.2 hd hk⟩
  | tags f =>
    intro h _ _ hx
    simp only [Sc.okB, hx, Bool.not_true, Bool.false_or, Bool.and_eq_true, beq_iff_eq] at h
    obtain ⟨rfl, h⟩ := h
    exact tags_std L h
  | ktg cs mid a b c ih =>
    intro h hd hk
    simp only [Sc.okB, ktgShB, Bool.and_eq_true] at h
    obtain ⟨⟨h1, h0, h2⟩, h3⟩ := h
    obtain ⟨k1, k2⟩ := DfsOk.append hd
    refine ktg_sound (ih h1 k2 fun p hp => hk p (List.mem_append_right _ hp)) (fun hx => ?_) ?_ ?_
    · subst hx
      simp only [Bool.not_true, Bool.false_or, Bool.and_eq_true, beq_iff_eq] at h3
      obtain ⟨⟨⟨⟨rfl, rfl⟩, rfl⟩, h4⟩, h5⟩ := h3
      have h4 := hasAll_mem h4
      refine ⟨rUvarint_call L.mixed (L.rUvarint (h4 _ (by simp))) (L.kUvarint (h4 _ (by simp))), fun S w rb s l hr => rSpan_call L.mixed (L.rSpan (h4 _ (by simp))) hr l, set_of L.mixed (L.tSet (h4 _ (by simp))), fun c hc => ?_⟩
      have hcb := List.all_eq_true.1 h5 c hc
      unfold KCase.okB at hcb
      rw [Bool.and_eq_true] at hcb
      refine ⟨okF_of L _ hcb.1, ?_⟩
      have hcb := hcb.2
      cases hl : c.lst with
      | none => exact hk (c.dfl, c.size) (List.mem_append_left _ (List.mem_filterMap.2 ⟨c, hc, by rw [hl]; rfl⟩))
      | some t =>
        obtain ⟨len, bb, zz⟩ := t
        rw [hl] at hcb
        simp only [Bool.and_eq_true, decide_eq_true_eq] at hcb
        exact ⟨len_std L hcb.1.1.1, hcb.1.1.2, hcb.1.2, fun v hv => List.all_eq_true.1 hcb.2 v hv, k1.mem (c.dfl, zz, (flDcs c.fs).flatten) (List.mem_filterMap.2 ⟨c, hc, by rw [hl]; rfl⟩)⟩
    · obtain ⟨c, hc, h⟩ := List.any_eq_true.1 h0
      exact ⟨c, hc, by simpa using h⟩
    · rw [Bool.or_eq_true] at h2
      rcases h2 with h2 | h2
      · left
        intro c hc
        have := List.all_eq_true.1 h2 c hc
        simpa using this
      · right
        split at h2
        · exact ⟨rfl, _, rfl, fun hn => by rw [hn] at h2; simp at h2⟩
        · simp at h2
def Top.okB (F : Nat → Nat) (has : Nat → Bool) (T : Top) : Bool :=
  (match T.rv with | none => true | some f => f == F rInt16 && hasAll has [rInt16, beUint16]) && (!T.sc.lists || (T.ok == F rOk && has rOk)) && (T.cpl == F rComplete && has rComplete) &&
  T.sc.okB F has true false && T.sc.okB F has false false && (T.flex.isNone || (T.sc.okB F has true true && T.sc.okB F has false true))
theorem Top.ok_of {P : Program} {F : Nat → Nat} {has : Nat → Bool} (L : Lib P F has) {T : Top} (h : T.okB F has = true) (hd : DfsOk P T.sc.dfs) (hkd : KdfsOk P T.sc.kdfs) {l : List (Nat × Value)} (hf : liftF P T.dfl = some (dfGen l)) (hl : dfOk l (T.sc.dcs.flatten.length + 1))
    (hr : ∀ ver, dfRes l (.int .i16 ver :: T.sc.dcs.flatten) = .int .i16 ver :: T.sc.dcs.flatten) (u : Bool) : T.Ok P decStd (F gErr) u := by
  unfold Top.okB at h
  simp only [Bool.and_eq_true, beq_iff_eq, Bool.or_eq_true] at h
  obtain ⟨⟨⟨⟨⟨h1, h2⟩, h3⟩, h4⟩, h5⟩, h6⟩ := h
  refine ⟨fun f hf => ?_, ?_, ?_, decStd_short, fun ver => df_call L.mixed hf (by simpa using hl) (hr ver), fun x hx => ?_⟩
  · rw [hf] at h1
    simp only [Bool.and_eq_true, beq_iff_eq] at h1
    obtain ⟨rfl, h1⟩ := h1
    have h1 := hasAll_mem h1
    exact rInt16_call L.mixed (L.rInt16 (h1 _ (by simp))) (L.beUint16 (h1 _ (by simp)))
  · intro hl2
    have h2 := h2.resolve_left (by simp [hl2])
    rw [h2.1]; exact ok_std L h2.2
  · rw [h3.1]; exact cpl_std L h3.2
  · refine Sc.ok_of L _ ?_ hd hkd
    cases x with
    | false => cases u <;> assumption
    | true =>
      have : T.flex.isNone = false := by
        cases hfl : T.flex with
        | none => exact absurd (hx hfl) (by simp)
        | some n => rfl
      rw [this] at h6
      have h6 := h6.resolve_left (by simp)
      cases u
      · exact h6.2
      · exact h6.1
end Go.Msk

namespace Go.Msk
open Go.RowKit Go.ChangeShapes Go.WideShapes Go.ChangeAt
set_option maxRecDepth 100000
theorem Mod.keptBut {W W' : World} (h : Mod [] W W') (may : MemPlace → Prop) : W.keptBut W' may := by
  refine ⟨h.os, h.output, fun i hi => ?_⟩
  rw [h.block i hi (by simp)]
  cases W.heap[i]? with
  | none => rfl
  | some o => cases o <;> simp
theorem post_of_mod {H : Type} {enc : TypeId × Value → H} {P : Program} {f : Func} {s : ChangeSpec} {apart fresh handsOn : Bool} {W W' : World} {args : Array Value} {v : Value} {ds gs : List (DataW H)} {before pa pv : List MemPlace}
    (hW : DataW.Whole enc P f.params.toList s.vars apart W args.toList ds gs before)
    (hres : ∀ b : Nat, DataW.TrodAll enc P W' b (fun _ => false) handsOn f.resultTypes.toList (v.resultList f.resultTypes.size) (s.fn H (ds ++ gs)).results [])
    (hargs : DataW.TrodAll enc P W' 0 (fun b => decide (b < W.heap.size)) true f.params.toList args.toList (s.fn H (ds ++ gs)).args pa)
    (hvars : DataW.TrodVars enc P W' (fun b => decide (b < W.heap.size)) s.vars (s.fn H (ds ++ gs)).vars pv) (hm : Mod [] W W') : s.post enc P f apart fresh handsOn false W args v W' :=
  ⟨ds, gs, before, [], pa, pv, hW, hres _, hargs, hvars, hm.keptBut _, fun h => by simp at h⟩
theorem u8_of {n : Int} (h : (Lit.int .u8 n).wf = true) : 0 ≤ n ∧ n < 256 := by
  simp only [Lit.wf, Bool.and_eq_true, decide_eq_true_eq] at h
  have h1 : IntKind.u8.min = 0 := by rfl
  have h2 : IntKind.u8.max = 255 := by rfl
  omega
section
variable {H : Type} {enc : TypeId × Value → H} {P : Program} {W : World}
theorem open_octets {base : Nat} {t e : TypeId} {v : Value} {d : DataW H} {p : List MemPlace} (ht : P.underlying t = some (.slice e)) (he : P.underlying e = some (.int .u8)) (hc : P.cellsOf e = 1) (hv : Value.okWide P W .any base t v)
    (h : DataW.Trod enc P W 0 (fun _ => true) true t v d p) :
    ∃ src : List UInt8, SlC (fun _ => True) W v src.length (u8s src) ∧ ∀ W', Mod [] W W' → DataW.Trod enc P W' 0 (fun b => decide (b < W.heap.size)) true t v d p := by
  have hv' := hv
  simp only [Value.okWide, ht, Cell.okWide, Cell.ok] at hv'
  obtain ⟨a0, len, cap, rfl⟩ := okWide_slice ht hv
  obtain ⟨fuel, hf⟩ := h
  rcases open_ints ht he hc hf with ⟨hcs, hx⟩ | ⟨a, len', cap', zs, hcs, _, hl, hm, hz, hx, hcell, hwz⟩
  · have e0 : Value.slice a0 len cap = .slice none 0 0 := by simpa [Value.cells] using hcs
    simp only [Value.slice.injEq] at e0
    obtain ⟨rfl, rfl, rfl⟩ := e0
    refine ⟨[], SlC.nil, fun W' _ => ⟨1, ?_⟩⟩
    simp only [Prod.mk.injEq] at hx
    obtain ⟨rfl, rfl⟩ := hx
    simp [DataW.trod, ht, Value.cells]
  · have e0 : Value.slice a0 len cap = .slice (some a) len' cap' := by simpa [Value.cells] using hcs
    simp only [Value.slice.injEq] at e0
    obtain ⟨rfl, rfl, rfl⟩ := e0
    simp only at hv'
    obtain ⟨-, -, -, hsp, row, cells, hsh, -⟩ := hv'
    have hlt : a.block < W.heap.size := by
      unfold World.shape? at hsh
      rcases Nat.lt_or_ge a.block W.heap.size with h | h
      · exact h
      · rw [Array.getElem?_eq_none h] at hsh; simp at hsh
    simp only [if_true] at hz
    have hadd : ∀ i, a.add i = ⟨a.block, a.off + i, none⟩ := Addr.add_of hsp
    have hb : ∀ n ∈ zs, 0 ≤ n ∧ n < 256 := fun n hn => u8_of (hwz n hn)
    have hlen : ((zs.take len).map fun n => UInt8.ofNat n.toNat).length = len := by simp; omega
    refine ⟨(zs.take len).map fun n => UInt8.ofNat n.toNat, ⟨some a, cap, by rw [hlen], by rw [hlen]; exact hl, fun h => by simp at h, fun a' ha _ => ?_⟩, fun W' hmod => ⟨2, ?_⟩⟩
    · simp only [Option.some.injEq] at ha; subst ha
      refine ⟨trivial, hlt, hsp, fun i v hi => ?_⟩
      have hi' : i < len := by
        have := (List.getElem?_eq_some_iff.1 hi).1
        rw [u8s_length, hlen] at this
        exact this
      have := hcell i (by omega)
      rw [hadd] at this
      rw [this]
      have hzi : zs[i]? = some zs[i] := List.getElem?_eq_getElem (by omega)
      have e1 : zs.getD i 0 = zs[i] := by rw [List.getD, hzi]; rfl
      rw [e1]
      have hn := hb zs[i] (List.getElem_mem (by omega))
      simp only [u8s, List.map_map, List.getElem?_map, List.getElem?_take, hi', if_true, hzi, Option.map_some, Function.comp, Option.some.injEq] at hi
      rw [← hi]
      congr 1
      generalize zs[i] = n at hn
      have : (UInt8.ofNat n.toNat).toNat = n.toNat := by simp; omega
      rw [Value.int.injEq]
      exact ⟨rfl, by rw [this]; omega⟩
    · simp only [Prod.mk.injEq] at hx
      obtain ⟨rfl, rfl⟩ := hx
      exact shut_ints 0 ht he hc (Nat.zero_le _) hl hm (by simp [hlt, hz]) (fun i hi => by
        have := hcell i hi
        exact cell_mod this hmod (by simp)) hwz
theorem gerr_of_laid {n : String} {g : Nat} {t : TypeId} {ms : Array (String × TypeId)} {tn : String} {d : DataW Unit} (hg : P.globalNamed n = some g) (ht : (P.globals[g]?).map (·.type) = some t) (hi : P.underlying t = some (.interface ms))
    (hl : laidMetH P [(n, .iface tn d)] W) (hh : ([(n, DataW.iface (H := Unit) tn d)].all fun x => x.2.handleName?.isNone) = true) : ∃ T v, GErr g W T v := by
  rw [MakeChecks.laidMetH_plain _ _ _ hh] at hl
  obtain ⟨ps, ⟨g0, t0, cs0, f0, p0, q0, hg0, ht0, hv0, hd0, -⟩, -, -⟩ := hl
  obtain rfl := Option.some.inj (hg.symm.trans hg0)
  obtain rfl := Option.some.inj (ht.symm.trans ht0)
  obtain ⟨_, u, v, hcs, -, -⟩ := iface_of_trod hi hd0
  refine ⟨u, v, ?_⟩
  have := World.var?_cell hg hv0 0
  rw [Array.eq_one_of_toList hcs] at this
  simpa [GErr] using this
end
end Go.Msk

namespace Go.Msk
open Go.RowKit
set_option maxRecDepth 100000
def u32v (k : Nat) : Value := .int .u32 k
theorem putObj_size (w : World) (r : Nat) (o : Obj) : (putObj w r o).heap.size = w.heap.size := by simp [putObj]
theorem putObj_other {w : World} {r k : Nat} {o : Obj} (h : k ≠ r) : (putObj w r o).heap[k]? = w.heap[k]? := by
  simp only [putObj]; exact Array.getElem?_setIfInBounds_ne (fun e => h e.symm)
theorem nodup_of_map {α β : Type} {f : α → β} {l : List α} (h : (l.map f).Nodup) : l.Nodup :=
  List.Pairwise.of_map f (fun _ _ hab e => hab (congrArg f e)) h
structure SeenL (es : Array MapEntry) (seen : Array Nat) (E : List MapEntry) : Prop where
  sub : ∀ e ∈ E, e ∈ es.toList
  nd : (E.map (·.born)).Nodup
  all : seen.toList = E.map (·.born)
theorem SeenL.push {es : Array MapEntry} {seen : Array Nat} {E : List MapEntry} {e : MapEntry} (h : SeenL es seen E) (he : e ∈ (leftOf es seen).toList) : SeenL es (seen.push e.born) (E ++ [e]) := by
  obtain ⟨h1, h2⟩ := mem_left he
  refine ⟨fun x hx => ?_, ?_, by simp [h.all]⟩
  · rcases List.mem_append.1 hx with hx | hx
    · exact h.sub x hx
    · simp only [List.mem_singleton] at hx; subst hx; exact h1
  · rw [List.map_append, List.nodup_append]
    refine ⟨h.nd, by simp, fun a ha b hb => ?_⟩
    simp only [List.map_cons, List.map_nil, List.mem_singleton] at hb
    subst hb
    intro e'
    subst e'
    rw [← h.all] at ha
    have : seen.contains e.born = true := by simpa using ha
    rw [this] at h2; simp at h2
theorem SeenL.perm {es : Array MapEntry} {seen : Array Nat} {E : List MapEntry} (h : SeenL es seen E) (hb : (es.toList.map (·.born)).Nodup) (h0 : (leftOf es seen).size = 0) : E.Perm es.toList := by
  have hE : E.Nodup := nodup_of_map h.nd
  have hes : es.toList.Nodup := nodup_of_map hb
  refine (List.perm_ext_iff_of_nodup hE hes).2 fun x => ⟨fun hx => h.sub x hx, fun hx => ?_⟩
  have hc := all_seen es seen h0 x hx
  have : x.born ∈ seen.toList := by simpa using hc
  rw [h.all] at this
  obtain ⟨y, hy, hyx⟩ := List.mem_map.1 this
  have := born_inj hb (h.sub y hy) hx hyx
  exact this ▸ hy
theorem SeenL.lt {es : Array MapEntry} {seen : Array Nat} {E : List MapEntry} {e : MapEntry} (h : SeenL es seen E) (_hb : (es.toList.map (·.born)).Nodup) (he : e ∈ (leftOf es seen).toList) : E.length < es.size := by
  have h2 := h.push he
  have hE : (E ++ [e]).Nodup := nodup_of_map h2.nd
  have := hE.length_le_of_subset (l₂ := es.toList) h2.sub
  simp only [List.length_append, List.length_cons, List.length_nil, Array.length_toList] at this
  omega
section
variable {P : Program} {F : Nat → Nat}
structure KeyS (w0 : World) (w : World) (σ : Sl) (it Bs B r n : Nat) (es : Array MapEntry) (clock : Nat) (E : List MapEntry) : Prop where
  s24 : σ 24 = .pointer (some ⟨it, 0, none⟩)
  s4 : σ 4 = .pointer (some ⟨Bs, 0, none⟩)
  map : w.heap[r]? = some (.map es clock)
  iter : ∃ seen, w.heap[it]? = some (.mapIter (some r) clock seen clock) ∧ SeenL es seen E
  cell : Blk w Bs [.slice (some ⟨B, 0, none⟩) E.length n]
  row : ∃ rest, Blk w B (E.map (·.key) ++ rest) ∧ E.length + rest.length = n
  fr : Mod [] w0 w
  ne1 : it ≠ Bs
  ne2 : it ≠ B
  ne3 : Bs ≠ B
  nr : r ≠ it ∧ r ≠ Bs ∧ r ≠ B
  hn : n = es.size
  old1 : w0.heap.size ≤ it
  old2 : w0.heap.size ≤ Bs
  old3 : w0.heap.size ≤ B
theorem each_loop1 {w0 w : World} {σ : Sl} {it Bs B r n : Nat} {es : Array MapEntry} {clock : Nat} {Q : Exit → Sl → World → Prop} (h : KeyS w0 w σ it Bs B r n es clock []) (hk : keysAre .u32 es) (hb : (es.toList.map (·.born)).Nodup) (hold : ∀ e ∈ es.toList, e.born < clock)
    (hQ : ∀ σ' w' E, (∀ j, j < 25 → j ≠ 5 → σ' j = σ j) → KeyS w0 w' σ' it Bs B r n es clock E → E.Perm es.toList → Q .normal σ' w') :
    wpC P (.block 0 (.loop (.seq (.blk [⟨some 25, .mnext (.tmp 24), none⟩, ⟨some 26, .ext (.tmp 25) 0, none⟩])
        (.seq (.cond (.tmp 26) .skip (.exit 0))
        (.block 1 (.seq (.blk [⟨some 27, .mentry (.tmp 24), none⟩, ⟨some 28, .ext (.tmp 27) 0, none⟩, ⟨some 5, .mv (.tmp 28), none⟩])
          (.blk [⟨some 29, .ld (.tmp 4), none⟩, ⟨some 30, .mv (.tmp 5), none⟩, ⟨some 31, .bslice 1 [.int .u32 0] [(0, 1, .tmp 30)], none⟩, ⟨some 32, .append (.tmp 29) (.tmp 31) 1 4, none⟩, ⟨none, .st (.tmp 4) 1 (.tmp 32), none⟩]))))))) Q σ w := by
  rw [wpC_block, wpC_loop]
  refine ⟨fun σ' w' => ∃ E, (∀ j, j < 25 → j ≠ 5 → σ' j = σ j) ∧ KeyS w0 w' σ' it Bs B r n es clock E, fun _ w' => (leftOf es (w'.iterSeen it)).size, ⟨[], fun _ _ _ => rfl, h⟩, ?_⟩
  rintro σ1 w1 ⟨E, ag, hS⟩
  obtain ⟨seen, hit, hE⟩ := hS.iter
  have hseen : w1.iterSeen it = seen := by unfold World.iterSeen; rw [hit]
  rw [wpC_seq, wpC_blk]
  refine wpR_run ?_
  simp only [RK.run, ev, hS.s24, hit, hS.map]
  refine ⟨hold, Nat.le_refl _, fun h0 => ?_, fun e he w2 hw2 => ?_⟩
  · -- no entry is left
    refine wpR_step (v := .bool false) (by simp only [RK.val?, ev, updo, upd, if_true]; rfl) ?_
    refine wpR_done ?_
    rw [wpC_seq, wpC_cond_f rfl]
    refine wpC_exit_out3 ?_
    refine hQ _ w1 E (fun j hj h5 => ?_) ?_ (hE.perm hb h0)
    · simp only [updo, upd, show j ≠ 26 by omega, show j ≠ 25 by omega, if_false]; exact ag j hj h5
    · exact { hS with s24 := by simp [updo, upd, hS.s24], s4 := by simp [updo, upd, hS.s4] }
  · -- an entry
    have hsz2 : w2.heap = w1.heap := by rcases hw2 with rfl | rfl <;> rfl
    have hm2 : Mod [] w1 w2 := by
      rcases hw2 with rfl | rfl
      · exact Mod.refl _ _
      · exact Mod.drew _ _
    have hitl : it < w2.heap.size := by rw [hsz2]; exact (Array.getElem?_eq_some_iff.1 hit).1
    refine wpR_step (v := .bool true) (by simp only [RK.val?, ev, updo, upd, if_true]; rfl) ?_
    refine wpR_done ?_
    rw [wpC_seq, wpC_cond_t rfl, wpC_skip]
    simp only [thenC]
    rw [wpC_block, wpC_seq, wpC_blk]
    have hpm : Mod [it] w2 (putObj w2 it (.mapIter (some r) clock (seen.push e.born) clock)) := Mod.putObj (by simp)
    have hget : (putObj w2 it (.mapIter (some r) clock (seen.push e.born) clock)).heap[it]? = some (.mapIter (some r) clock (seen.push e.born) clock) := putObj_get hitl
    have hmp : (putObj w2 it (.mapIter (some r) clock (seen.push e.born) clock)).heap[r]? = some (.map es clock) := by
      rw [putObj_other hS.nr.1, hsz2]; exact hS.map
    obtain ⟨rest, hrow, hlen⟩ := hS.row
    have hcell := (hS.cell.mod hm2 (by simp)).mod hpm (by simpa using hS.ne1.symm)
    have hrow := (hrow.mod hm2 (by simp)).mod hpm (by simpa using hS.ne2.symm)
    have hpsz : (putObj w2 it (.mapIter (some r) clock (seen.push e.born) clock)).heap.size = w2.heap.size := putObj_size _ _ _
    have hm3 : Mod [it] w1 (putObj w2 it (.mapIter (some r) clock (seen.push e.born) clock)) := hm2.nil.trans hpm
    generalize hw3 : putObj w2 it (.mapIter (some r) clock (seen.push e.born) clock) = w3 at hpm hget hmp hcell hrow hpsz hm3 ⊢
    obtain ⟨k, hkk⟩ := hk e (mem_left he).1
    have hlt := hE.lt hb he
    have hnn := hS.hn
    refine wpR_run ?_
    simp only [RK.run, ev, updo, upd, show (24 : Nat) ≠ 26 by decide, show (24 : Nat) ≠ 25 by decide, if_false, hS.s24, hget, hmp]
    refine ⟨trivial, e, (mem_left he).1, hb, by simp, ?_⟩
    refine wpR_step (v := e.key) (by simp only [RK.val?, ev, upd, if_true]; rfl) ?_
    refine wpR_step (v := e.key) (by simp only [RK.val?, ev, updo, upd, if_true]) ?_
    refine wpR_done ?_
    rw [wpC_blk]
    refine wpR_step (v := .slice (some ⟨B, 0, none⟩) E.length n) (by simp only [RK.val?, ev, updo, upd]; simp [hS.s4, hcell.cell]) ?_
    refine wpR_step (v := e.key) (by simp only [RK.val?, ev, updo, upd]; simp) ?_
    refine wpR_run ?_
    have hkc : e.key.cells = #[e.key] := by rw [hkk]; rfl
    have hko : e.key.oneCell' = true := by rw [hkk]; rfl
    simp only [RK.run, List.map_cons, List.map_nil, ev, updo, upd, if_true, zrep, List.replicate_succ, List.replicate_zero, List.flatten_cons, List.flatten_nil, List.append_nil, fillL, hkc]
    have hspl : splice [Value.int .u32 0] 0 [e.key] = [e.key] := splice_all rfl
    simp only [List.size_toArray, List.length_cons, List.length_nil, Nat.zero_add, Nat.le_refl, and_self, if_true, hspl]
    intro Tn
    have bA := Blk.new w3 [e.key] Tn
    have mA : Mod [] w3 (w3.alloc (.cells [e.key].toArray Tn)) := Mod.alloc _ _ _
    have zA : (w3.alloc (.cells [e.key].toArray Tn)).heap.size = w3.heap.size + 1 := by simp
    have hcell4 := hcell.mod mA (by simp)
    have hrow4 := hrow.mod mA (by simp)
    have hget4 : (w3.alloc (.cells [e.key].toArray Tn)).heap[it]? = some (.mapIter (some r) clock (seen.push e.born) clock) := by rw [mA.block it (by omega) (by simp)]; exact hget
    have hrl : r < w3.heap.size := (Array.getElem?_eq_some_iff.1 hmp).1
    have hmp4 : (w3.alloc (.cells [e.key].toArray Tn)).heap[r]? = some (.map es clock) := by rw [mA.block r hrl (by simp)]; exact hmp
    generalize w3.alloc (.cells [e.key].toArray Tn) = w4 at bA mA zA hcell4 hrow4 hget4 hmp4 ⊢
    refine wpR_run ?_
    have hsrc : srcCells w4 1 (.slice (some ⟨w3.heap.size, 0, none⟩) 1 1) = some (1, [e.key]) := by
      simp only [srcCells, Nat.mul_one]
      rw [cellsAt_of' bA.cells (n := 1) rfl]; rfl
    simp only [RK.run, ev, updo, upd, show (29 : Nat) ≠ 31 by decide, show (29 : Nat) ≠ 30 by decide, if_false, if_true, hsrc, appendRun]
    rw [if_pos (by omega)]
    simp only [Addr.add_mk, Nat.zero_add, Nat.mul_one]
    obtain ⟨x, rest', rfl⟩ : ∃ x r', rest = x :: r' := by cases rest with | nil => simp at hlen; omega | cons x r' => exact ⟨x, r', rfl⟩
    simp only [List.length_cons] at hlen
    refine ⟨stOk_one hrow4 (by simp) hko, ?_⟩
    have hput : Mod [B] w4 (putCells w4 ⟨B, E.length, none⟩ 0 [e.key]) := Mod.put (by simp)
    have hp := hrow4.put (o := E.length) (vs := [e.key]) (by simp)
    have hsp2 : splice (E.map (·.key) ++ x :: rest') E.length [e.key] = (E ++ [e]).map (·.key) ++ rest' := by
      have h1 : (E.map (·.key) ++ x :: rest').take E.length = E.map (·.key) := List.take_left' (by simp)
      have h2 : (E.map (·.key) ++ x :: rest').drop (E.length + [e.key].length) = rest' := by
        rw [show E.map (·.key) ++ x :: rest' = (E.map (·.key) ++ [x]) ++ rest' by simp]
        exact List.drop_left' (by simp)
      unfold splice
      rw [h1, h2]; simp
    rw [hsp2] at hp
    have hcell5 := hcell4.mod hput (by simpa using hS.ne3)
    have hget5 : (putCells w4 ⟨B, E.length, none⟩ 0 [e.key]).heap[it]? = some (.mapIter (some r) clock (seen.push e.born) clock) := by
      rw [hput.block it (by omega) (by simpa using hS.ne2)]; exact hget4
    have hmp5 : (putCells w4 ⟨B, E.length, none⟩ 0 [e.key]).heap[r]? = some (.map es clock) := by
      rw [hput.block r (by omega) (by simpa using hS.nr.2.2)]; exact hmp4
    have zB : (putCells w4 ⟨B, E.length, none⟩ 0 [e.key]).heap.size = w4.heap.size := size_putCells ..
    generalize putCells w4 ⟨B, E.length, none⟩ 0 [e.key] = w5 at hput hp hcell5 hget5 hmp5 zB ⊢
    refine wpR_run ?_
    have ec : (Value.slice (some ⟨B, 0, none⟩) (E.length + 1) n).cells = #[.slice (some ⟨B, 0, none⟩) (E.length + 1) n] := rfl
    have hput6 : Mod [Bs] w5 (putCells w5 ⟨Bs, 0, none⟩ 0 [.slice (some ⟨B, 0, none⟩) (E.length + 1) n]) := Mod.put (by simp)
    have hp6 := hcell5.put (o := 0) (vs := [.slice (some ⟨B, 0, none⟩) (E.length + 1) n]) (by simp)
    rw [splice_all (by rfl)] at hp6
    simp only [RK.run, ev, updo, upd, if_true, show (4 : Nat) ≠ 32 by decide, show (4 : Nat) ≠ 31 by decide, show (4 : Nat) ≠ 30 by decide, show (4 : Nat) ≠ 29 by decide, show (4 : Nat) ≠ 5 by decide, show (4 : Nat) ≠ 28 by decide, show (4 : Nat) ≠ 27 by decide, show (4 : Nat) ≠ 26 by decide, show (4 : Nat) ≠ 25 by decide, if_false, hS.s4, ec]
    refine ⟨rfl, stOk_one hcell5 (by simp) rfl, ?_⟩
    have hget6 : (putCells w5 ⟨Bs, 0, none⟩ 0 [.slice (some ⟨B, 0, none⟩) (E.length + 1) n]).heap[it]? = some (.mapIter (some r) clock (seen.push e.born) clock) := by
      rw [hput6.block it (by omega) (by simpa using hS.ne1)]; exact hget5
    have hmp6 : (putCells w5 ⟨Bs, 0, none⟩ 0 [.slice (some ⟨B, 0, none⟩) (E.length + 1) n]).heap[r]? = some (.map es clock) := by
      rw [hput6.block r (by omega) (by simpa using hS.nr.2.1)]; exact hmp5
    simp only [wpR, inBlockC, thenC]
    refine ⟨⟨E ++ [e], fun j hj h5 => ?_, ?_⟩, ?_⟩
    · simp only [upd, show j ≠ 32 by omega, show j ≠ 31 by omega, show j ≠ 30 by omega, show j ≠ 29 by omega, h5, show j ≠ 28 by omega, show j ≠ 27 by omega, show j ≠ 26 by omega, show j ≠ 25 by omega, if_false]; exact ag j hj h5
    · refine { hS with s24 := by simp [upd, hS.s24], s4 := by simp [upd, hS.s4], map := hmp6, iter := ⟨_, hget6, hE.push he⟩, cell := by simpa using hp6, row := ⟨rest', hp.mod hput6 (by simpa using hS.ne3.symm), by simp; omega⟩, fr := ?_ }
      have o1 := hS.old1; have o2 := hS.old2; have o3 := hS.old3
      refine Mod.drop (b := it) (S := []) ?_ o1
      refine Mod.drop (b := Bs) (S := [it]) ?_ o2
      refine Mod.drop (b := B) (S := [Bs, it]) ?_ o3
      exact (((hS.fr.mono (by simp)).trans (hm3.mono (by simp))).trans (mA.mono (by simp))).trans ((hput.mono (by simp)).trans (hput6.mono (by simp)))
    · have h6 : (putCells w5 ⟨Bs, 0, none⟩ 0 [.slice (some ⟨B, 0, none⟩) (E.length + 1) n]).iterSeen it = seen.push e.born := by unfold World.iterSeen; rw [hget6]
      rw [hseen, h6]
      exact left_shrinks es seen e he
end
end Go.Msk
