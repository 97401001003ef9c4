/- A small language of resolved operations, and what the generic and the generated functions do in it (part 17). -/
import Derived.Test.YtfoljfjkifiboaaFp
import Derived.Shelf.GgSortFunc.Whole
import Derived.Shelf.GgSortFunc.Tiny

namespace Go.Msk
open Go.RowKit
set_option maxRecDepth 100000
theorem flatMap_cg {α β : Type} {f g : α → List β} : ∀ {l : List α}, (∀ x ∈ l, f x = g x) → l.flatMap f = l.flatMap g
  | [], _ => rfl
  | a :: l, h => by rw [List.flatMap_cons, List.flatMap_cons, h a (by simp), flatMap_cg fun x hx => h x (by simp [hx])]
theorem byte_inj {a b : Int} (ha : 0 ≤ a ∧ a < 256) (hb : 0 ≤ b ∧ b < 256) (h : UInt8.ofNat a.toNat = UInt8.ofNat b.toNat) : a = b := by
  have := congrArg UInt8.toNat h
  simp only [UInt8.toNat_ofNat'] at this
  omega
theorem beI_inj : ∀ (k : Nat) (n m : Int), beI k n = beI k m → n % 256 ^ k = m % 256 ^ k
  | 0, n, m, _ => by simp
  | k + 1, n, m, h => by
    simp only [beI, List.cons.injEq] at h
    have ih := beI_inj k n m h.2
    have hp : (0 : Int) < 256 ^ k := Int.pow_pos (by omega)
    have hb := byte_inj ⟨Int.emod_nonneg _ (by omega), Int.emod_lt_of_pos _ (by omega)⟩ ⟨Int.emod_nonneg _ (by omega), Int.emod_lt_of_pos _ (by omega)⟩ h.1
    have key : ∀ x : Int, x % (256 ^ (k + 1)) = 256 ^ k * (x / 256 ^ k % 256) + x % 256 ^ k := fun x => by
      have e1 : x = 256 ^ k * 256 * (x / 256 ^ k / 256) + (256 ^ k * (x / 256 ^ k % 256) + x % 256 ^ k) := by
        have q1 := Int.mul_ediv_add_emod x (256 ^ k)
        have q2 := Int.mul_ediv_add_emod (x / 256 ^ k) 256
        have q3 : (256 : Int) ^ k * (256 * (x / 256 ^ k / 256) + x / 256 ^ k % 256) = 256 ^ k * (x / 256 ^ k) := by rw [q2]
        rw [Int.mul_add, ← Int.mul_assoc] at q3
        omega
      have r0 : 0 ≤ x % 256 ^ k := Int.emod_nonneg _ (by omega)
      have r1 : x % 256 ^ k < 256 ^ k := Int.emod_lt_of_pos _ hp
      have s0 : 0 ≤ x / 256 ^ k % 256 := Int.emod_nonneg _ (by omega)
      have s1 : x / 256 ^ k % 256 < 256 := Int.emod_lt_of_pos _ (by omega)
      have t0 : 0 ≤ (256 : Int) ^ k * (x / 256 ^ k % 256) := Int.mul_nonneg (by omega) s0
      have t1 : (256 : Int) ^ k * (x / 256 ^ k % 256) ≤ 256 ^ k * 255 := Int.mul_le_mul_of_nonneg_left (by omega) (by omega)
      have e2 : (256 : Int) ^ (k + 1) = 256 ^ k * 256 := by rw [Int.pow_succ]
      rw [e2]
      conv => lhs; rw [e1]
      rw [Int.mul_assoc, Int.add_comm, ← Int.mul_assoc, Int.add_mul_emod_self_left]
      exact Int.emod_eq_of_lt (by omega) (by omega)
    rw [key n, key m, hb, ih]
def KF.p (t : KF) : PK := match t.k with | .i8 => .i8 | .i16 => .i16 | .i32 => .i32 | _ => .i64
def KF.val (t : KF) (n : Int) : Int := match t.k with | .i8 => IntKind.i8.wrap n | .i16 => IntKind.i16.wrap n | .i32 => IntKind.i32.wrap n | _ => n
def KF.agB (t : KF) (f : FD) (j : Nat) : Bool :=
  decide (f.tag = (j : Nat)) && (decide (t.k = .i8) || decide (t.k = .i16) || decide (t.k = .i32) || decide (t.k = .i64)) && kindOk f.kind false t.p && decide (widthP f.kind = t.sz) && decide (t.dfl = f.dfl) && decide (t.val f.dfl = f.dfl) && decide (IntKind.i64.wrap f.dfl = f.dfl) && f.usK
theorem KF.fill {t : KF} {f : FD} {j : Nat} (h : t.agB f j = true) (x : TR) : fillP t.p x = .num (.int t.k (t.val x.n)) := by
  simp only [KF.agB, Bool.and_eq_true, Bool.or_eq_true, decide_eq_true_eq] at h
  obtain ⟨⟨⟨⟨⟨⟨⟨-, hk⟩, -⟩, -⟩, -⟩, -⟩, -⟩, -⟩ := h
  rcases hk with ((hk | hk) | hk) | hk <;> simp only [KF.p, KF.val, hk] <;> rfl
theorem wc64' {n m : Int} (h : n % 18446744073709551616 = m % 18446744073709551616) (hn : IntKind.i64.wrap n = n) (hm : IntKind.i64.wrap m = m) : n = m := by
  simp only [IntKind.wrap, IntKind.bits, IntKind.signed] at hn hm
  simp at hn hm
  split at hn <;> split at hm <;> omega
theorem wc32' {n m : Int} (h : n % 4294967296 = m % 4294967296) : IntKind.i32.wrap n = IntKind.i32.wrap m := by
  simp only [IntKind.wrap, IntKind.bits, IntKind.signed]; simp; rw [h]
theorem KF.us {t : KF} {f : FD} {j : Nat} (h : t.agB f j = true) {x : TR} (hn : IntKind.i64.wrap x.n = x.n) : (t.val x.n = t.dfl ↔ f.isUs x = true) ∧ beI t.sz (t.val x.n) = beI (widthP f.kind) x.n ∧ f.kind ≠ 0 ∧ f.kind ≠ 7 ∧ f.kind ≠ 8 ∧ f.kind ≠ 9 ∧ f.kind ≠ 10 ∧ f.kind ≠ 11 := by
  simp only [KF.agB, Bool.and_eq_true, Bool.or_eq_true, decide_eq_true_eq] at h
  obtain ⟨⟨⟨⟨⟨⟨⟨-, hk⟩, hko⟩, hw⟩, hd⟩, hv⟩, h64⟩, -⟩ := h
  obtain ⟨kind, frm, to, null, tag, dfl, of, sub⟩ := f
  simp only [FD.kind, FD.dfl] at hko hw hd hv h64 ⊢
  have us : ∀ (a : kind ≠ 8) (b : kind ≠ 9) (c : kind ≠ 10), FD.isUs (.mk kind frm to null tag dfl of sub) x = decide (beI (widthP kind) x.n = beI (widthP kind) dfl) := fun a b c => by
    rw [FD.isUs, if_neg (by omega), if_neg c]
  rw [hd]
  rcases hk with ((hk | hk) | hk) | hk <;> simp only [KF.p, hk, kindOk, decide_eq_true_eq] at hko <;> simp only [KF.val, hk] at hv ⊢ <;> subst hko <;> rw [us (by omega) (by omega) (by omega)] <;> rw [← hw] <;> refine ⟨?_, ?_, by omega, by omega, by omega, by omega, by omega, by omega⟩
  · rw [decide_eq_true_eq]
    refine ⟨fun e => ?_, fun e => ?_⟩
    · exact beI_mod 1 _ _ (by rw [show (256 : Int) ^ 1 = 256 by decide, ← wrap_mod_i8 x.n, e])
    · have := beI_inj 1 _ _ e
      rw [show (256 : Int) ^ 1 = 256 by decide] at this
      rw [← wc8 x.n, this, wc8, hv]
  · exact beI_mod 1 _ _ (by rw [show (256 : Int) ^ 1 = 256 by decide, wrap_mod_i8 x.n])
  · rw [decide_eq_true_eq]
    refine ⟨fun e => ?_, fun e => ?_⟩
    · exact beI_mod 2 _ _ (by rw [show (256 : Int) ^ 2 = 65536 by decide, ← wrap_mod_i16 x.n, e])
    · have := beI_inj 2 _ _ e
      rw [show (256 : Int) ^ 2 = 65536 by decide] at this
      rw [← wc16 x.n, this, wc16, hv]
  · exact beI_mod 2 _ _ (by rw [show (256 : Int) ^ 2 = 65536 by decide, wrap_mod_i16 x.n])
  · rw [decide_eq_true_eq]
    refine ⟨fun e => ?_, fun e => ?_⟩
    · exact beI_mod 4 _ _ (by rw [show (256 : Int) ^ 4 = 4294967296 by decide, ← wrap_mod_i32 x.n, e])
    · have := beI_inj 4 _ _ e
      rw [show (256 : Int) ^ 4 = 4294967296 by decide] at this
      rw [wc32' this, hv]
  · exact beI_mod 4 _ _ (by rw [show (256 : Int) ^ 4 = 4294967296 by decide, wrap_mod_i32 x.n])
  · rw [decide_eq_true_eq]
    refine ⟨fun e => by rw [e], fun e => ?_⟩
    have := beI_inj 8 _ _ e
    rw [show (256 : Int) ^ 8 = 18446744073709551616 by decide] at this
    exact wc64' this hn h64
  · rfl
def tkAg : List KF → List FD → Nat → Bool
  | [], [], _ => true
  | t :: r, f :: fs, j => t.agB f j && tkAg r fs (j + 1)
  | _, _, _ => false
def tkNs : List KF → Nat → TR → List Int
  | [], _, _ => []
  | t :: r, i, T => t.val (T.at i).n :: tkNs r (i + 1) T
theorem tkNs_len : ∀ (tks : List KF) (i : Nat) (T : TR), (tkNs tks i T).length = tks.length
  | [], _, _ => rfl
  | _ :: r, i, T => by simp [tkNs, tkNs_len r]
def tkFl : List KF → FuncId → Fl
  | [], set => .tags set
  | t :: r, set => .prm t.p (tkFl r set)
def Fl.app : Fl → Fl → Fl
  | .nil, r => r
  | .prm p rest, r => .prm p (rest.app r)
  | .lsp p b rest, r => .lsp p b (rest.app r)
  | .lss f b body rest, r => .lss f b body (rest.app r)
  | .tags s, _ => .tags s
def Fl.cnt : Fl → Nat
  | .nil => 0
  | .prm _ rest => rest.cnt + 1
  | .lsp _ _ rest => rest.cnt + 1
  | .lss _ _ _ rest => rest.cnt + 1
  | .tags _ => 0
theorem Fl.app_vals : ∀ (a r : Fl) (i : Nat) (T : TR), a.tl = false → (a.app r).vals i T = a.vals i T ++ r.vals (i + a.cnt) T := by
  intro a
  induction a with
  | nil => intro r i T _; simp [Fl.app, Fl.vals, Fl.cnt]
  | prm p rest ih => intro r i T h; simp only [Fl.app, Fl.vals, Fl.cnt, ih r (i + 1) T h, List.cons_append]; rw [show i + 1 + rest.cnt = i + (rest.cnt + 1) by omega]
  | lsp p b rest ih => intro r i T h; simp only [Fl.app, Fl.vals, Fl.cnt, ih r (i + 1) T h, List.cons_append]; rw [show i + 1 + rest.cnt = i + (rest.cnt + 1) by omega]
  | lss f b body rest ihb ih => intro r i T h; simp only [Fl.app, Fl.vals, Fl.cnt, ih r (i + 1) T h, List.cons_append]; rw [show i + 1 + rest.cnt = i + (rest.cnt + 1) by omega]
  | tags s => intro r i T h; simp [Fl.tl] at h
theorem tkFl_vals (set : FuncId) (T : TR) : ∀ (tks : List KF) (fs : List FD) (j i : Nat), tkAg tks fs j = true → (tkFl tks set).vals i T = tkG tks (tkNs tks i T) ++ [.tag (setU T.u)]
  | [], _, _, _, _ => rfl
  | t :: r, [], _, _, h => by simp [tkAg] at h
  | t :: r, f :: fs, j, i, h => by
    simp only [tkAg, Bool.and_eq_true] at h
    simp only [tkFl, Fl.vals, tkNs, tkG, List.zipWith_cons_cons, List.cons_append, KF.fill h.1]
    rw [tkFl_vals set T r fs (j + 1) (i + 1) h.2]
    rfl
theorem tagOne_none (ver : Int) (flex : Bool) (k : Nat) (t : TR) : ∀ (fs : List FD) (i : Nat), (∀ f ∈ fs, f.tag ≠ (k : Nat)) → tagOne ver flex k fs i t = []
  | [], _, _ => rfl
  | f :: fs, i, h => by
    simp only [tagOne]
    rw [if_neg (fun hc => h f (by simp) hc.1), tagOne_none ver flex k t fs (i + 1) (fun g hg => h g (by simp [hg]))]
    rfl
theorem tkAg_tag : ∀ {tks : List KF} {fs : List FD} {j : Nat}, tkAg tks fs j = true → ∀ f ∈ fs, (j : Int) ≤ f.tag ∧ f.tag < ((j + tks.length : Nat) : Int)
  | [], [], _, _, f, hf => by simp at hf
  | t :: r, g :: fs, j, h, f, hf => by
    simp only [tkAg, Bool.and_eq_true] at h
    rcases List.mem_cons.1 hf with rfl | hf
    · have := h.1
      simp only [KF.agB, Bool.and_eq_true, decide_eq_true_eq] at this
      have ht := this.1.1.1.1.1.1.1
      rw [ht]; simp
      omega
    · have := tkAg_tag h.2 f hf
      simp only [List.length_cons]
      omega
  | [], _ :: _, _, h, _, _ => by simp [tkAg] at h
  | _ :: _, [], _, h, _, _ => by simp [tkAg] at h
theorem enc_int (ver : Int) (flex : Bool) {f : FD} {x : TR} (h0 : f.kind ≠ 0) (h7 : f.kind ≠ 7) (h8 : f.kind ≠ 8) (h9 : f.kind ≠ 9) (h10 : f.kind ≠ 10) (h11 : f.kind ≠ 11) : f.enc ver flex x = beI (widthP f.kind) x.n := by
  obtain ⟨kind, frm, to, null, tag, dfl, of, sub⟩ := f
  simp only [FD.kind] at h0 h7 h8 h9 h10 h11 ⊢
  rw [FD.enc_eq]
  unfold fieldP
  rw [if_neg h11, if_neg (by omega)]
  unfold valP
  rw [if_neg h0, if_neg h7, if_neg h8, if_neg h9, if_neg h10]
theorem range'_tags (ver : Int) (flex : Bool) {t : TR} (hn : t.nok) : ∀ (tks : List KF) (fs : List FD) (j i : Nat), tkAg tks fs j = true →
    (List.range' j tks.length).flatMap (fun k => tagOne ver flex k fs i t) = tkEnc tks (tkNs tks i t) j
  | [], [], _, _, _ => by simp [tkEnc]
  | tk :: r, f :: fs, j, i, h => by
    have hA := h
    simp only [tkAg, Bool.and_eq_true] at h
    obtain ⟨u1, u2, u3, u4, u5, u6, u7, u8⟩ := KF.us h.1 (x := t.at i) (by have := hn.at i; cases ht : t.at i with | mk a b c d e => rw [ht] at this; exact this.1)
    have htag : f.tag = (j : Nat) := by
      have := h.1
      simp only [KF.agB, Bool.and_eq_true, decide_eq_true_eq] at this
      exact this.1.1.1.1.1.1.1
    have hne : ∀ g ∈ fs, g.tag ≠ (j : Nat) := fun g hg => by have := (tkAg_tag h.2 g hg).1; omega
    simp only [List.length_cons, List.range'_succ, List.flatMap_cons, tkNs, tkEnc]
    congr 1
    · rw [tagOne, tagOne_none ver flex j t fs (i + 1) hne, List.append_nil]
      cases hu : f.isUs (t.at i) with
      | true => rw [if_neg (by simp), if_pos (u1.2 hu)]
      | false => rw [if_pos ⟨htag, rfl⟩, if_neg (fun e => by rw [u1.1 e] at hu; cases hu), u2, enc_int ver flex u3 u4 u5 u6 u7 u8]
    · rw [← range'_tags ver flex hn r fs (j + 1) (i + 1) h.2]
      refine flatMap_cg fun k hk => ?_
      have hk1 : j + 1 ≤ k := (List.mem_range'_1.1 hk).1
      rw [tagOne, if_neg (fun hc => by have := hc.1; omega), List.nil_append]
  | [], _ :: _, _, _, h => by simp [tkAg] at h
  | _ :: _, [], _, _, h => by simp [tkAg] at h
theorem knownP_app {pf tg : List FD} {tks : List KF} (hp : FD.plainL pf = true) (h : tkAg tks tg 0 = true) : knownP (pf ++ tg) = tks.length := by
  have gen : ∀ (tks : List KF) (tg : List FD) (j : Nat), tkAg tks tg j = true → tg.foldl (fun n f => if f.tag ≥ 0 then max n (f.tag.toNat + 1) else n) j = j + tks.length := by
    intro tks
    induction tks with
    | nil =>
      intro tg j h
      cases tg with
      | nil => simp
      | cons f fs => simp [tkAg] at h
    | cons t r ih =>
      intro tg j h
      cases tg with
      | nil => simp [tkAg] at h
      | cons f fs =>
        simp only [tkAg, Bool.and_eq_true] at h
        have htag : f.tag = (j : Nat) := by
          have := h.1
          simp only [KF.agB, Bool.and_eq_true, decide_eq_true_eq] at this
          exact this.1.1.1.1.1.1.1
        simp only [List.foldl_cons, List.length_cons]
        rw [if_pos (by omega), show max j (f.tag.toNat + 1) = j + 1 by omega, ih fs (j + 1) h.2]
        omega
  unfold knownP
  rw [List.foldl_append]
  have := knownP_plain pf hp
  unfold knownP at this
  rw [this, gen tks tg 0 h, Nat.zero_add]
theorem bodyP_none (ver : Int) (flex : Bool) (t : TR) : ∀ (fs : List FD) (i : Nat), (∀ f ∈ fs, 0 ≤ f.tag) → bodyP ver flex fs i t = []
  | [], _, _ => rfl
  | f :: fs, i, h => by
    rw [bodyP_cons, if_neg (fun hc => by have := h f (by simp); omega), bodyP_none ver flex t fs (i + 1) (fun g hg => h g (by simp [hg]))]
    rfl
theorem tagOne_pre (ver : Int) (flex : Bool) (k : Nat) (t : TR) {pf : List FD} (hp : FD.plainL pf = true) (tg : List FD) : tagOne ver flex k (pf ++ tg) 0 t = tagOne ver flex k tg pf.length t := by
  rw [tagOne_append, tagOne_none ver flex k t pf 0 (fun f hf e => by have := FD.plain.tag (FD.plainL_mem hp f hf); omega), Nat.zero_add]
  rfl
theorem partK_eq {ver : Int} {flex : Bool} {pf tg : List FD} {tks : List KF} {t : TR} (hp : FD.plainL pf = true) (h : tkAg tks tg 0 = true) (hn : t.nok) :
    partK ver flex (pf ++ tg) t = bodyP ver flex pf 0 t ++ if flex then uvE ((tkEnc tks (tkNs tks pf.length t) 0).length + (unknownP (pf ++ tg) t.u).length) ++ (tagsQ (tkEnc tks (tkNs tks pf.length t) 0) ++ tagsP (unknownP (pf ++ tg) t.u)) else [] := by
  have e1 : bodyP ver flex (pf ++ tg) 0 t = bodyP ver flex pf 0 t := by
    rw [bodyP_append, bodyP_none ver flex t tg _ (fun f hf => by have := (tkAg_tag h f hf).1; omega), List.append_nil]
  have e2 : ktagsP ver flex (pf ++ tg) t (knownP (pf ++ tg)) = tkEnc tks (tkNs tks pf.length t) 0 := by
    rw [knownP_app hp h, ← range'_tags ver flex hn tks tg 0 pf.length h]
    unfold ktagsP
    rw [List.range_eq_range']
    exact flatMap_cg fun k _ => tagOne_pre ver flex k t hp tg
  unfold partK
  rw [e1, e2]
theorem unkP_ok {fs : List FD} {u : List (Nat × List UInt8)} (h : ∀ p ∈ u, p.1 < 4294967296) : Ris (unknownP fs u) := by
  have gen : ∀ (v acc : List (Nat × List UInt8)), (∀ p ∈ v, p.1 < 4294967296) → Ris acc → Ris (v.foldl (unkStep (knownP fs)) acc) := by
    intro v
    induction v with
    | nil => intro acc _ ha; exact ha
    | cons p v ih =>
      intro acc hv ha
      simp only [List.foldl_cons]
      refine ih _ (fun q hq => hv q (by simp [hq])) ?_
      unfold unkStep
      split
      · exact ha
      · exact insU_ris (hv p (by simp)) ha
  exact gen (u.take 32767) [] (fun p hp => h p (List.mem_of_mem_take hp)) ⟨by simp, by simp⟩
theorem tagsK_enc {fs : List FD} {u : List (Nat × List UInt8)} (h : ∀ p ∈ u, p.1 < 4294967296) : setU (fitU fs u) = fitU fs u ∧ (fitU fs u).length = (unknownP fs u).length ∧ tagsR (sortT (fitU fs u)) = tagsP (unknownP fs u) ∧ (fitU fs u).length ≤ 2147483647 ∧ ∀ p ∈ fitU fs u, p.2.length ≤ 2147483647 := by
  have h1 := unkP_ok (fs := fs) h
  have hs : (fitU fs u).Pairwise (fun a b => a.1 < b.1) := by
    unfold fitU; rw [List.pairwise_map]; exact h1.1
  refine ⟨by unfold setU; rw [setU_ris _ [] hs (by simp)]; simp, by simp [fitU], ?_, ?_, fun p hp => ?_⟩
  · rw [sortT_ris hs]
    simp [tagsR, tagsP, fitU, List.flatMap_map]
  · have := fitU_le fs u; omega
  · simp only [fitU, List.mem_map] at hp
    obtain ⟨q, -, rfl⟩ := hp
    have := wholeP_le q.2
    show (wholeP q.2).length ≤ _
    omega
def mkkOk (fl : Fl) (ap : Ap) (pf tg : List FD) (flex : Int) (T : KTop) (most : Nat) : Bool :=
  FD.plainL pf && FD.fitBL pf && FD.fitBL tg && tkAg T.tks tg 0 && !fl.tl && decide (fl.cnt = pf.length) && decide (T.flex = flex) && decide (flex ≥ 0) && (List.range (most + 1)).all fun v => fl.mkB (v : Nat) (decide ((v : Int) ≥ flex)) pf ap
theorem fit_tag {ver : Int} {f : FD} {x : TR} {t : KF} {j : Nat} (h : t.agB f j = true) : t.val (f.fit ver x).n = t.val x.n := by
  have hk := h
  simp only [KF.agB, Bool.and_eq_true, Bool.or_eq_true, decide_eq_true_eq] at hk
  obtain ⟨⟨⟨⟨⟨⟨⟨-, hk⟩, hko⟩, -⟩, -⟩, -⟩, -⟩, -⟩ := hk
  have h14 : f.kind = 1 ∨ f.kind = 2 ∨ f.kind = 3 ∨ f.kind = 4 := by
    rcases hk with ((hk | hk) | hk) | hk <;> simp only [KF.p, hk, kindOk, decide_eq_true_eq] at hko <;> omega
  rw [FD.fit_eq, if_neg (by omega)]
  unfold fitV
  rw [if_neg (by omega), if_neg (by omega)]
  rfl
theorem tkNs_fit {ver : Int} {fds : List FD} {t : TR} : ∀ (tks : List KF) (tg : List FD) (j i : Nat), tkAg tks tg j = true → (∀ m, tg[m]? = fds[i + m]?) → tkNs tks i (fitT ver fds t) = tkNs tks i t
  | [], _, _, _, _, _ => rfl
  | tk :: r, [], _, _, h, _ => by simp [tkAg] at h
  | tk :: r, f :: fs, j, i, h, hm => by
    simp only [tkAg, Bool.and_eq_true] at h
    have h0 := (hm 0).symm
    simp only [List.getElem?_cons_zero, Nat.add_zero] at h0
    have e : (fitT ver fds t).at i = f.fit ver (t.at i) := by
      have := fitL_get ver t fds 0 i f h0
      show ((fitL ver fds 0 t)[i]?).getD .zero = _
      rw [this, Nat.zero_add]; rfl
    simp only [tkNs, e, fit_tag h.1]
    rw [tkNs_fit r fs (j + 1) (i + 1) h.2 fun m => by
      have := hm (m + 1)
      rw [List.getElem?_cons_succ] at this
      rw [this]; congr 1; omega]
theorem top_mkk {fl : Fl} {ap : Ap} {pf tg : List FD} {flex : Int} {T : KTop} {most : Nat} {set : FuncId} (h : mkkOk fl ap pf tg flex T most = true) {ver : Int} (h0 : 0 ≤ ver) (h1 : ver ≤ most) {t : TR} (hk : t.kok) (hn : t.nok) :
    ∃ gs m, (fl.app (tkFl T.tks set)).vals 0 (fitT ver (pf ++ tg) t) = gs ++ (tkG T.tks (tkNs T.tks pf.length t) ++ [.tag m]) ∧ ap.Fit ver gs ∧ m.length ≤ 2147483647 ∧ (∀ p ∈ m, p.2.length ≤ 2147483647) ∧
      ap.enc ver (T.x ver) gs ++ tkOut (T.x ver) T.tks (tkNs T.tks pf.length t) m = partK ver (MD.isFlex ⟨pf ++ tg, flex⟩ ver) (pf ++ tg) t := by
  simp only [mkkOk, Bool.and_eq_true, decide_eq_true_eq, Bool.not_eq_true'] at h
  obtain ⟨⟨⟨⟨⟨⟨⟨⟨hp, -⟩, -⟩, hag⟩, htl⟩, hcnt⟩, hfl⟩, hf0⟩, hv⟩ := h
  rw [List.all_eq_true] at hv
  have hb := hv ver.toNat (by rw [List.mem_range]; omega)
  rw [Int.toNat_of_nonneg h0] at hb
  have hx : T.x ver = decide (ver ≥ flex) := by unfold KTop.x; rw [hfl]
  have hx2 : MD.isFlex ⟨pf ++ tg, flex⟩ ver = decide (ver ≥ flex) := by simp [MD.isFlex, hf0]
  have hku : ∀ p ∈ t.u, p.1 < 4294967296 := by cases t; exact hk.1
  obtain ⟨k1, k2, k3, k4, k5⟩ := tagsK_enc (fs := pf ++ tg) hku
  -- the fields in order; their tree has no tags of its own
  have hat : ∀ j f, pf[j]? = some f → (fitT ver (pf ++ tg) t).at (0 + j) = f.fit ver (t.at (0 + j)) := fun j g hg => by
    have := fitL_get ver t (pf ++ tg) 0 j g (by rw [List.getElem?_append_left (List.getElem?_eq_some_iff.1 hg).1]; exact hg)
    show ((fitL ver (pf ++ tg) 0 t)[0 + j]?).getD .zero = _
    rw [Nat.zero_add, this, Nat.zero_add]; rfl
  obtain ⟨q1, q2⟩ := fl.mk_enc0 pf ap 0 t (fitT ver (pf ++ tg) t) hb htl hk hat
  refine ⟨fl.vals 0 (fitT ver (pf ++ tg) t), fitU (pf ++ tg) t.u, ?_, q2, k4, k5, ?_⟩
  · rw [Fl.app_vals fl _ 0 _ htl, Nat.zero_add, hcnt, tkFl_vals set _ T.tks tg 0 pf.length hag, tkNs_fit T.tks tg 0 pf.length hag (fun m => by rw [List.getElem?_append_right (by omega)]; congr 1; omega)]
    show _ ++ (_ ++ [GV.tag (setU (fitU (pf ++ tg) t.u))]) = _
    rw [k1]
  · rw [hx2, partK_eq hp hag hn, hx, q1]
    unfold tkOut
    rw [k2, k3]
end Go.Msk

namespace Go.Msk
open Go.RowKit
set_option maxRecDepth 100000
inductive Tl where
  | nil
  | fld (k : TK) (rest : Tl)
  | lst (k : EK) (esz : Nat) (body : Tl) (rest : Tl)
  | uid (rest : Tl)
  | sub (f : FuncId) (size : Nat) (body : Tl) (rest : Tl)
  | tags (f1 each srt : FuncId)
  deriving Inhabited
def Tl.tg : Tl → Option (FuncId × FuncId × FuncId)
  | .nil => none
  | .fld _ rest => rest.tg
  | .lst _ _ _ rest => rest.tg
  | .uid rest => rest.tg
  | .sub _ _ _ rest => rest.tg
  | .tags a b c => some (a, b, c)
def Tl.size : Tl → Nat
  | .nil => 0
  | .fld _ rest => 1 + rest.size
  | .lst _ _ _ rest => 1 + rest.size
  | .uid rest => 16 + rest.size
  | .sub _ n _ rest => n + rest.size
  | .tags .. => 0
def Tl.len : Tl → Nat
  | .nil => 0
  | .fld _ rest => 1 + rest.len
  | .lst _ _ _ rest => 1 + rest.len
  | .uid rest => 1 + rest.len
  | .sub _ _ _ rest => 1 + rest.len
  | .tags .. => 0
section
variable {P : Program}
end
end Go.Msk

namespace Go.Msk
open Go.RowKit
set_option maxRecDepth 100000
def fitF : PK → TK → Bool
  | .bool, .boo _ => true
  | .i64, .num false => true
  | .str, .str => true
  | .nstr, .txt _ => true
  | .byt, .oct _ | .nbyt, .oct _ => true
  | .i8, .num true | .i16, .num true | .u16, .num true | .i32, .num true | .u32, .num true => true
  | _, _ => false
def fitE : PK → EK → Bool
  | .i64, .num false => true
  | .str, .str => true
  | .i8, .num true | .i16, .num true | .u16, .num true | .i32, .num true | .u32, .num true => true
  | _, _ => false
def fitD : PK → Df → Bool
  | .bool, .bool _ => true
  | .i64, .int .i64 n => decide (IntKind.i64.wrap n = n)
  | .str, .str _ => true
  | .nstr, .nstr => true
  | .byt, .byt | .nbyt, .byt => true
  | .uuid, .uuid => true
  | .i8, .int .. | .i16, .int .. | .u16, .int .. | .i32, .int .. | .u32, .int .. => true
  | _, _ => false
def fit : Sc → Tl → Bool
  | .nil, .nil => true
  | .prm _ _ _ p d rest, .fld k r => fitF p k && fitD p d && fit rest r
  | .prm _ _ _ p d rest, .uid r => decide (p = .uuid) && fitD p d && fit rest r
  | .enm _ _ _ p d rest, .fld k r => fitF p k && fitD p d && fit rest r
  | .lsp _ _ _ d _ _ p rest, .lst k esz _ r => fitE p k && decide (d.size = esz) && fit rest r
  | .lss _ _ _ _ _ body rest, .lst (.tell _) esz b r => fit body b && decide (body.size = esz) && fit rest r
  | .sub _ _ body rest, .sub _ n b r => fit body b && decide (body.size = n) && fit rest r
  | .tags _, .tags .. => true
  | .uid _ _ rest, .uid r => fit rest r
  | _, _ => false
end Go.Msk

namespace Go.Msk
open Go.RowKit
set_option maxRecDepth 100000
section
variable {P : Program} {F : Nat → Nat}
attribute [local simp] gOk updo upd ev RK.val? isShift intBin Addr.add_mk args0 Value.cells undef
theorem skept_callG (hm : P.follows .mixedOrders = true) (h : liftF P (F sKept) = some (ir_sKept F)) (hf : liftF P (F sFixed) = some (ir_sFixed F)) {m : MD} {ver : Int} {t : TR} {out : List UInt8}
    (hw : ∀ (w : World) (ms ts : List Value), RepM anyB w m ms → RepT anyB w t ts → t.kok → out.length ≤ lim → Calls P (F sWrite) [.agg ms.toArray, .int .i64 ver, .agg ts.toArray].toArray w (BytesR w out)) {w : World} {ms : List Value} {ts : List Value}
    (hms : RepM anyB w m ms) (ht : RepT anyB w t ts) (hk : t.kok) (hlen : out.length + 1000 ≤ lim) :
    Calls P (F sKept) [.agg ms.toArray, .int .i64 ver, .agg ts.toArray].toArray w (BytesR w (beI 2 ver ++ out)) := by
  have h5 := ht.five
  unfold ir_sKept at h
  refine call_of h hm (by simp) ?_
  clear h
  have hm2 : ms.length = 2 := by cases hms; rfl
  rw [wpC_seq, wpC_blk]
  refine goBox (v := .agg ms.toArray) (by simp) fun w1 hb1 hm1 => ?_
  refine goBox (v := .agg ts.toArray) (by simp) fun w2 hb2 hm2' => ?_
  have hb1 : Blk w2 w.heap.size ms := Blk.mod (by simpa using hb1) hm2' (by simp)
  have hb2 : Blk w2 w1.heap.size ts := by simpa using hb2
  have hm02 := hm1.trans hm2'
  refine go1 (v := .slice none 0 0) rfl (by simp) (goEnd ?_)
  simp only [thenC]
  rw [wpC_seq]
  show wpD P _ _ _ w2.drew _
  have hmd : Mod [] w2 w2.drew := Mod.drew _ _
  have hm0d := hm02.trans hmd
  have hb1d := hb1.mod hmd (by simp)
  have hb2d := hb2.mod hmd (by simp)
  have hl1 := cellsAt_of' hb1d.cells hm2
  have hl2 := cellsAt_of' hb2d.cells h5
  refine wpD_of_B (fun i v w' => match i with | 1 => DRaw w' w.heap.size v (beI 2 ver) | 5 => DRaw w' w.heap.size v (out) | _ => True) (by
    intro i v w w' h hm
    split at h
    · exact h.keep hm
    · exact h.keep hm
    · trivial) ?_
  refine bo1 (v := .int .i64 ver) rfl (by simp) ?_
  refine boCall (vs := [.int .i64 ver, .int .i64 (2 : Nat)]) (by simp) (by simp) (fun w' hm' _ => (fixed_call hm hf (n := ver) (k := 2) (by omega)).mono ?_) ?_
  · rintro e w'' ⟨v, rfl, hd, hmm⟩
    exact ⟨_, rfl, hmm, hd.low (hm0d.trans hm').size⟩
  rintro v1 ⟨wv1, -⟩
  refine bo1 (v := .agg ms.toArray) rfl (by simp [hl1]) ?_
  refine bo1 (v := .int .i64 ver) rfl (by simp) ?_
  refine bo1 (v := .agg ts.toArray) rfl (by simp [hl2]) ?_
  refine boCall (vs := [.agg ms.toArray, .int .i64 ver, .agg ts.toArray]) (by simp) (by simp) (fun w' hm' _ => (hw w' ms ts (hms.keep (hm0d.trans hm')) (ht.keep (hm0d.trans hm')) hk (by omega)).mono ?_) ?_
  · rintro e w'' ⟨v, rfl, hd, hmm⟩
    exact ⟨_, rfl, hmm, hd.low (hm0d.trans hm').size⟩
  rintro v2 ⟨wv2, -⟩
  intro w' hm' hkn
  have k1 : DRaw w' w.heap.size v1 (beI 2 ver) := by
    have := known_get (j := 1) (t := 8) hkn (by simp) rfl rfl (by simp) rfl
    simpa using this
  have k2 : DRaw w' w.heap.size v2 (out) := by
    have := known_get (j := 5) (t := 12) hkn (by simp) rfl rfl (by simp) rfl
    simpa using this
  refine goC rfl (append_run (n0 := w.heap.size) (v := v1) (l := beI 2 ver) (k := out) (by simp) k1 (hm0d.trans hm').size (by simpa using k2.src) (by rw [beI_length]; omega) fun v3 w3 ha => ?_)
  refine go1 (v := v3) rfl (by simp) (goEnd ?_)
  simp only [thenC]
  exact ret1 (v := v3) (by simp) ⟨v3, rfl, ha.raw, ha.mod0 k1 (hm0d.trans hm')⟩
end
end Go.Msk

namespace Go.Msk
open Go.RowKit
set_option maxRecDepth 100000
def FD.flatB (f : FD) : Bool := decide (f.tag < 2147483648) && decide (f.sub.length < 1000) && FD.plainL f.sub
section
variable {P : Program} {F : Nat → Nat}
theorem FD.fieldF (L : SLib P F) (ver : Int) (flex : Bool) {f : FD} (h : f.flatB = true) : FieldC P F ver flex f := by
  obtain ⟨kind, frm, to, null, tag, dfl, of, sub⟩ := f
  simp only [FD.flatB, FD.sub, Bool.and_eq_true, decide_eq_true_eq] at h
  have hp : PartC P F ver flex sub := partC_plain L ver flex h.2 (of_decide_eq_true h.1.2)
  exact field_call L.mixed L.field L.null L.things L.counted L.uvarint L.fixed (fun k => value_call L.mixed L.value L.whole L.counted L.uvarint L.fixed L.width fun _ => hp) hp
theorem FD.fitdF (L : FLib P F) {f : FD} (h : f.flatB = true) (hb : f.fitB = true) : FitdC P F f := by
  obtain ⟨kind, frm, to, null, tag, dfl, of, sub⟩ := f
  simp only [FD.flatB, FD.sub, Bool.and_eq_true, decide_eq_true_eq] at h
  simp only [FD.fitB, Bool.and_eq_true, Bool.or_eq_true, decide_eq_true_eq] at hb
  have hS : FitC P F sub := fit_plain L h.2 hb.2 (of_decide_eq_true h.1.2)
  refine fitd_call L.sl.mixed L.fitted L.sl.null L.sl.whole L.sl.things (fun _ => hS) fun hk => ?_
  have hof : of ≠ 11 := hb.1.resolve_left (by simp [hk])
  exact ⟨hof, fitd_call L.sl.mixed L.fitted L.sl.null L.sl.whole L.sl.things (fun _ => hS) fun e => absurd e hof⟩
theorem fit_flat (L : FLib P F) {fds : List FD} (h : ∀ f ∈ fds, f.flatB = true) (hb : ∀ f ∈ fds, f.fitB = true) (hlen : fds.length < 1000) : FitC P F fds :=
  fit_call L.sl.mixed L.fit L.sl.at_ L.sl.whole L.sl.unknown L.sl.known hlen (fun f hf => by
    have := h f hf
    simp only [FD.flatB, Bool.and_eq_true, decide_eq_true_eq] at this
    exact this.1.1) (fun f hf => FD.fitdF L (h f hf) (hb f hf))
structure KLib (P : Program) (F : Nat → Nat) : Prop where
  fl : FLib P F
  usual : liftF P (F susual_) = some (ir_susual_ F)
  same : liftF P (F sSame) = some (ir_sSame F)
  kept : liftF P (F sKept) = some (ir_sKept F)
attribute [local simp] gOk updo upd ev RK.val? isShift intBin Addr.add_mk args0 Value.cells undef
theorem partK_flat (L : KLib P F) (ver : Int) (flex : Bool) {fds : List FD} (h : ∀ f ∈ fds, f.flatB = true) (hu : ∀ f ∈ fds, 0 ≤ f.tag → f.usK = true) (hlen : fds.length < 1000) (hK : knownP fds ≤ 1000) : PartKC P F ver flex fds :=
  partk_call L.fl.sl.mixed L.fl.sl.part L.fl.sl.has L.fl.sl.at_ L.fl.sl.uvarint L.fl.sl.whole L.fl.sl.known L.fl.sl.unknown (fun f hf => FD.fieldF L.fl.sl ver flex (h f hf)) (fun f hf ht => FD.usKC L.fl.sl.mixed L.usual L.fl.sl.at_ L.same L.fl.sl.fixed L.fl.sl.width L.fl.sl.unknown L.fl.sl.known f (hu f hf ht))
    (fun f hf => by
      have := h f hf
      simp only [FD.flatB, Bool.and_eq_true, decide_eq_true_eq] at this
      exact this.1.1) hlen hK
def writeK (m : MD) (ver : Int) (t : TR) : List UInt8 := partK ver (m.isFlex ver) m.fs t
theorem write_callK (hm : P.follows .mixedOrders = true) (h : liftF P (F sWrite) = some (ir_sWrite F)) {m : MD} {ver : Int} (hp : PartKC P F ver (m.isFlex ver) m.fs) {w : World} {ms : List Value} {t : TR} {ts : List Value} (hms : RepM anyB w m ms) (ht : RepT anyB w t ts) (hk : t.kok) (hlen : (writeK m ver t).length ≤ lim) :
    Calls P (F sWrite) [.agg ms.toArray, .int .i64 ver, .agg ts.toArray].toArray w (BytesR w (writeK m ver t)) := by
  cases hms with
  | @mk fs flex v css h1 h2 =>
  have h5 := ht.five
  unfold ir_sWrite at h
  refine call_of h hm (by simp) ?_
  clear h
  rw [wpC_seq, wpC_blk]
  refine goBox (v := .agg #[v, .int .i64 flex]) (by simp) fun w1 hb1 hm1 => ?_
  refine goBox (v := .agg ts.toArray) (by simp) fun w2 hb2 hm2 => ?_
  have hb1 : Blk w2 w.heap.size [v, .int .i64 flex] := Blk.mod (by simpa using hb1) hm2 (by simp)
  have hb2 : Blk w2 w1.heap.size ts := by simpa using hb2
  have hm02 := hm1.trans hm2
  have c1 := fun k => hb1.cell k
  refine go1 rfl rfl (wpR_done ?_)
  rw [wpC_seq, wpC_blk]
  refine go1 (v := .pointer (some ⟨w.heap.size, 0, none⟩)) rfl (by simp) ?_
  refine go1 (v := v) rfl (by simp [c1]) ?_
  refine go1 (v := .int .i64 ver) rfl (by simp) ?_
  refine go1 (v := .pointer (some ⟨w.heap.size, 1, none⟩)) rfl (by simp) ?_
  refine go1 (v := .int .i64 flex) rfl (by simp [c1]) ?_
  refine go1 (v := .bool (decide (flex ≥ 0))) rfl (by simp) ?_
  refine go1 (v := .bool (decide (flex ≥ 0))) rfl (by simp) ?_
  have fin : ∀ σ : Sl, σ 5 = .pointer (some ⟨w1.heap.size, 0, none⟩) → σ 8 = v → σ 9 = .int .i64 ver → σ 18 = .bool (MD.isFlex ⟨fs, flex⟩ ver) → wpR P [⟨(some (19)), .ldn (.tmp 5) 5, none⟩,
      ⟨(some (20)), .call (F sPart) [.tmp 8, .tmp 9, .tmp 18, .tmp 19], none⟩,
      ⟨(some (6)), .mv (.tmp 20), none⟩] σ w2 (thenC (wpC P .ret (postC [.tmp 6] (BytesR w (writeK ⟨fs, flex⟩ ver t)))) (postC [.tmp 6] (BytesR w (writeK ⟨fs, flex⟩ ver t))) .normal) := by
    intro σ k5 k8 k9 k18
    refine go1 (v := .agg ts.toArray) rfl (by simp [k5, cellsAt_of' hb2.cells h5]) ?_
    refine goCall rfl (vs := [v, .int .i64 ver, .bool (MD.isFlex ⟨fs, flex⟩ ver), .agg ts.toArray]) (by simp [k8, k9, k18]) (hp w2 v css t ts (h1.keep hm02) (h2.keep hm02) (ht.keep hm02) hk hlen) ?_
    rintro e w3 ⟨v3, rfl, hd, hm3⟩
    exact ⟨v3, rfl, go1 (v := v3) rfl (by simp) (wpR_done (ret1 (v := v3) (by simp) ⟨v3, rfl, hd.low hm02.size, hm02.trans hm3⟩))⟩
  by_cases e1 : flex ≥ 0
  · refine go1 (v := .int .i64 ver) (by simp [e1]) (by simp) ?_
    refine go1 (v := .pointer (some ⟨w.heap.size, 1, none⟩)) (by simp [e1]) (by simp) ?_
    refine go1 (v := .int .i64 flex) (by simp [e1]) (by simp [c1]) ?_
    refine go1 (v := .bool (decide (ver ≥ flex))) (by simp [e1]) (by simp) ?_
    refine go1 (v := .bool (decide (ver ≥ flex))) rfl (by simp [e1]) ?_
    exact fin _ (by simp) (by simp) (by simp) (by simp [MD.isFlex, e1] <;> rfl)
  · iterate 4 (refine go0 (by simp [e1]) ?_)
    refine go1 (v := .bool false) rfl (by simp [e1]) ?_
    exact fin _ (by simp) (by simp) (by simp) (by simp [MD.isFlex, e1])
def keptK (m : MD) (ver : Int) (t : TR) : List UInt8 := beI 2 ver ++ writeK m ver t
theorem keptK_length (m : MD) (ver : Int) (t : TR) : (keptK m ver t).length = 2 + (writeK m ver t).length := by simp [keptK, beI_length]
def makeKCode (z : List Value) (fill app : FuncId) : IC × List RV × Nat :=
  (seqs [.blk [⟨some 3, .box (.tmp 1), none⟩, ⟨some 4, .mv (.const (.slice none 0 0)), none⟩], .blk [⟨some 6, .mv (.tmp 0), none⟩, ⟨some 7, .conv .i16 (.tmp 6), none⟩, ⟨some 8, .build (.int .i16 0 :: z) [(0, 1, .tmp 7)], none⟩, ⟨some 9, .box (.tmp 8), none⟩, ⟨some 5, .mv (.tmp 9), none⟩],
    .blk [⟨some 10, .mv (.tmp 5), none⟩, ⟨some 11, .ldn (.tmp 3) 5, none⟩, ⟨some 12, .call fill [.tmp 10, .tmp 11], none⟩], .blk [⟨some 13, .mv (.tmp 5), none⟩, ⟨some 14, .call app [.tmp 13, .const (.slice none 0 0)], none⟩, ⟨some 4, .mv (.tmp 14), none⟩], .ret], [.tmp 4], 15)
theorem makeKX_call (hm : P.follows .mixedOrders = true) {z : List Value} {fill app f : FuncId} {vals : TR → List GV} (h : liftF P f = some (makeKCode z fill app)) (hfill : FillC P fill z vals)
    {w : World} {ver : Int} {T : TR} {ts : List Value} {out : List UInt8} (hv : IntKind.i16.wrap ver = ver) (hs : T.sml) (hk : T.kok) (hT : RepT anyB w T ts)
    (happ : ∀ (w1 : World) (B : Nat) (css : List (List Value)), w.heap.size ≤ w1.heap.size → Blk w1 B (.int .i16 ver :: css.flatten) → RepL [] w1 (vals T) css → Calls P app [.pointer (some ⟨B, 0, none⟩), .slice none 0 0].toArray w1 fun e w' => ∃ v', e = .returned v' ∧ DRaw w' w.heap.size v' out ∧ Mod [] w1 w') :
    Calls P f [.int .i64 ver, .agg ts.toArray].toArray w fun e w' => ∃ v', e = .returned v' ∧ DRaw w' w.heap.size v' out ∧ Mod [] w w' := by
  unfold makeKCode at h
  refine call_of h hm (by simp only [List.length_cons, List.length_nil]; omega) ?_
  clear h
  have h5 := hT.five
  rw [wpC_seqs]
  simp only [wpL]
  rw [wpC_blk]
  refine goBox (v := .agg ts.toArray) (by simp) fun w1 hb1 hm1 => ?_
  have e1 : (Value.agg ts.toArray).cells.toList = ts := by simp
  rw [e1] at hb1
  refine go1 rfl rfl (wpR_done ?_)
  try simp only [thenC]
  have l1 := hb1.lt
  have s1 := hm1.size
  rw [wpC_blk]
  refine go1 (v := .int .i64 ver) rfl (by simp) ?_
  refine go1 (v := .int .i16 ver) rfl (by simp [hv]) ?_
  refine go1 (v := .agg (.int .i16 ver :: z).toArray) rfl (by simp [fillL, splice]) ?_
  refine goBox (v := .agg (.int .i16 ver :: z).toArray) (by simp) fun w3 hb3 hm13 => ?_
  have e2 : (Value.agg (.int .i16 ver :: z).toArray).cells.toList = .int .i16 ver :: z := by simp
  rw [e2] at hb3
  refine go1 (v := .pointer (some ⟨w1.heap.size, 0, none⟩)) rfl (by simp) (wpR_done ?_)
  try simp only [thenC]
  have l2 := hb3.lt
  have s3 := hm13.size
  have hb13 : Blk w3 w.heap.size ts := hb1.mod hm13 (by simp)
  have hm03 : Mod [] w w3 := hm1.trans hm13
  have hT3 : RepT (fun b => b ≠ w1.heap.size) w3 T ts := hT.mod hm03 (by simp) fun b hb _ => by omega
  rw [wpC_blk]
  refine go1 (v := .pointer (some ⟨w1.heap.size, 0, none⟩)) rfl (by simp) ?_
  refine go1 (v := .agg ts.toArray) rfl (by simp [cellsAt_of' hb13.cells h5]) ?_
  refine goCall rfl (vs := [.pointer (some ⟨w1.heap.size, 0, none⟩), .agg ts.toArray]) (by simp) (hfill w3 w1.heap.size ver T ts hs hk hT3 hb3) ?_
  rintro e w4 ⟨rfl, css, hb4, hr4, hm4⟩
  refine ⟨_, rfl, wpR_done ?_⟩
  try simp only [thenC]
  have hm14 : Mod [] w1 w4 := Mod.drop (b := w1.heap.size) (S := []) (hm13.nil.trans hm4) (Nat.le_refl _)
  have s4 := hm14.size
  rw [wpC_blk]
  refine go1 (v := .pointer (some ⟨w1.heap.size, 0, none⟩)) rfl (by simp) ?_
  refine goCall rfl (vs := [.pointer (some ⟨w1.heap.size, 0, none⟩), .slice none 0 0]) (by simp) (happ w4 w1.heap.size css (by omega) hb4 hr4) ?_
  rintro e w5 ⟨v', rfl, hd, hm5⟩
  refine ⟨v', rfl, go1 (v := v') rfl (by simp) (wpR_done ?_)⟩
  try simp only [thenC, wpL]
  have fin : ∀ σ' : Sl, σ' 4 = v' → wpC P .ret (postC [.tmp 4] fun e w' => ∃ v', e = Ending.returned v' ∧ DRaw w' w.heap.size v' out ∧ Mod [] w w') σ' w5 := fun σ' h4 => ret1 (v := v') h4 ⟨v', rfl, hd, (hm1.trans hm14).trans hm5⟩
  exact fin _ (by simp)
def makeKLaw (zz sm fit giv make kept same : FuncId) (most : Int) : IC × List RV × Nat :=
  (.seq (.blk [⟨some 3, .box (.tmp 1), none⟩, ⟨some 4, .mv (.const (.bool false)), none⟩])
  (.seq (.seq (.blk [⟨some 7, .ldn (.tmp 3) 5, none⟩, ⟨some 8, .call zz [.tmp 7], none⟩, ⟨some 9, .lnot (.tmp 8), none⟩])
    (.cond (.tmp 9) (.seq (.blk [⟨some 4, .mv (.const (.bool true)), none⟩]) .ret) .skip))
  (.seq (.blk [⟨some 10, .call sm [], none⟩, ⟨some 11, .mv (.tmp 0), none⟩, ⟨some 12, .conv .i64 (.tmp 11), none⟩, ⟨some 13, .bin .rem (.tmp 12) (.const (.int .i64 (most + 1))), none⟩, ⟨some 5, .alloc [.slice none 0 0, .int .i64 0], none⟩, ⟨none, .st (.tmp 5) 2 (.tmp 10), none⟩, ⟨some 6, .mv (.tmp 13), none⟩])
  (.seq (.drw [⟨⟨some 14, .mv (.tmp 6), none⟩, false, []⟩, ⟨⟨some 15, .fad (.tmp 5) 0, none⟩, false, []⟩, ⟨⟨some 16, .ld (.tmp 15), none⟩, false, []⟩, ⟨⟨some 17, .mv (.tmp 6), none⟩, false, []⟩, ⟨⟨some 18, .ldn (.tmp 3) 5, none⟩, false, []⟩, ⟨⟨some 19, .call fit [.tmp 16, .tmp 17, .tmp 18], none⟩, true, []⟩,
      ⟨⟨some 20, .call giv [.tmp 19], none⟩, true, [5]⟩, ⟨⟨some 21, .call make [.tmp 14, .tmp 20], none⟩, true, [5, 6]⟩, ⟨⟨some 22, .ldn (.tmp 5) 2, none⟩, false, []⟩, ⟨⟨some 23, .mv (.tmp 6), none⟩, false, []⟩, ⟨⟨some 24, .ldn (.tmp 3) 5, none⟩, false, []⟩,
      ⟨⟨some 25, .call kept [.tmp 22, .tmp 23, .tmp 24], none⟩, true, [5, 6, 7]⟩, ⟨⟨some 26, .call same [.tmp 21, .tmp 25], none⟩, true, [5, 6, 7, 11]⟩, ⟨⟨some 4, .mv (.tmp 26), none⟩, false, [5, 6, 7, 11, 12]⟩] [])
  .ret))), [.tmp 4], 27)
def MakeKOf (P : Program) (make : FuncId) (m : MD) (most : Int) : Prop :=
  ∀ (w : World) (ver : Int) (t : TR) (ts : List Value), t.kok → t.nok → (keptK m ver t).length + 1000 ≤ lim → 0 ≤ ver → ver ≤ most → RepT anyB w (fitT ver m.fs t) ts →
    Calls P make [.int .i64 ver, .agg ts.toArray].toArray w fun e w' => ∃ v', e = .returned v' ∧ SlC anyB w' v' (keptK m ver t).length (u8s (keptK m ver t)) ∧ Mod [] w w'
theorem makeK_law (hm : P.follows .mixedOrders = true) {f zz sm fit giv make kept same : FuncId} {most : Int} (h : liftF P f = some (makeKLaw zz sm fit giv make kept same most)) {m : MD} (hmost : 0 ≤ most ∧ most < 32768)
    (hzz : ∀ (w : World) (t : TR) (ts : List Value), RepT anyB w t ts → Calls P zz [.agg ts.toArray].toArray w (BoolR w))
    (hsm : ∀ w, Calls P sm #[] w fun e w' => ∃ cs, e = .returned (.agg cs.toArray) ∧ RepM anyB w' m cs ∧ Mod [] w w')
    (hfit : ∀ (w : World) (sv : Value) (css : List (List Value)) (ver : Int) (t : TR) (ts : List Value), SlC anyB w sv m.fs.length css.flatten → RepFL anyB w m.fs css → RepT anyB w t ts → Calls P fit [sv, .int .i64 ver, .agg ts.toArray].toArray w fun e w' => ∃ cs', e = .returned (.agg cs'.toArray) ∧ RepT anyB w' (fitT ver m.fs t) cs' ∧ Mod [] w w')
    (hgiv : ∀ (v : Int) (t : TR) (w : World) (ts : List Value), RepT anyB w (fitT v m.fs t) ts → Calls P giv [.agg ts.toArray].toArray w fun e w' => ∃ cs', e = .returned (.agg cs'.toArray) ∧ RepT anyB w' (fitT v m.fs t) cs' ∧ Mod [] w w')
    (hwr : ∀ (v : Int) (w : World) (ms : List Value) (t : TR) (ts : List Value), RepM anyB w m ms → RepT anyB w t ts → t.kok → (keptK m v t).length + 1000 ≤ lim → Calls P kept [.agg ms.toArray, .int .i64 v, .agg ts.toArray].toArray w (BytesR w (keptK m v t)))
    (hmake : MakeKOf P make m most)
    (hsame : ∀ (w : World) (v1 v2 : Value) (l1 l2 : List UInt8), SlC anyB w v1 l1.length (u8s l1) → SlC anyB w v2 l2.length (u8s l2) → l1.length ≤ 4611686018427387904 → Calls P same [v1, v2].toArray w fun e w' => e = .returned (.bool (decide (l1 = l2))) ∧ Mod [] w w')
    {w : World} {n : Int} (hn : 0 ≤ n ∧ n < 256) {t : TR} {ts : List Value} (ht : RepT anyB w t ts) (hk : t.kok) (hno : t.nok) (hlen : ∀ v, (keptK m v t).length + 1000 ≤ lim) :
    Calls P f [.int .u8 n, .agg ts.toArray].toArray w fun e w' => e = .returned (.bool true) ∧ Mod [] w w' := by
  unfold makeKLaw at h
  refine call_of h hm (by simp) ?_
  clear h
  have h5 := ht.five
  rw [wpC_seq, wpC_blk]
  refine goBox (v := .agg ts.toArray) (by simp) fun w1 hb1 hm1 => ?_
  have hb1 : Blk w1 w.heap.size ts := by simpa using hb1
  refine go1 (v := .bool false) rfl (by simp) (goEnd ?_)
  simp only [thenC]
  rw [wpC_seq, wpC_seq, wpC_blk]
  have hload1 := cellsAt_of' hb1.cells h5
  refine go1 (v := .agg ts.toArray) rfl (by simp [hload1]) ?_
  refine goCall rfl (vs := [.agg ts.toArray]) (by simp) (hzz w1 t ts (ht.keep hm1)) ?_
  rintro e w2 ⟨zb, rfl, hm2⟩
  have hm02 := hm1.trans hm2
  refine ⟨_, rfl, ?_⟩
  refine go1 (v := .bool !zb) rfl (by simp) (goEnd ?_)
  simp only [thenC]
  cases zb with
  | false =>
    rw [wpC_cond_t (by simp), wpC_seq, wpC_blk]
    refine go1 (v := .bool true) rfl (by simp) (goEnd ?_)
    simp only [thenC]
    repeat first | refine retThen ?_ | refine retBlk ?_
    exact ret1 (v := .bool true) (by simp) ⟨rfl, hm02⟩
  | true =>
  rw [wpC_cond_f (by simp), wpC_skip]
  simp only [thenC]
  rw [wpC_seq, wpC_blk]
  refine goCall rfl (vs := []) rfl (hsm w2) ?_
  rintro e w5 ⟨cs, rfl, hrm, hm4⟩
  have hm04 := hm02.trans hm4
  refine ⟨_, rfl, ?_⟩
  obtain ⟨cv, cfl, fcss, rfl, hone, hfs1, hfs2⟩ : ∃ a b fcss, cs = [a, .int .i64 b] ∧ a.oneCell' = true ∧ SlC anyB w5 a m.fs.length (List.flatten fcss) ∧ RepFL anyB w5 m.fs fcss := by cases hrm with | mk q1 q2 => exact ⟨_, _, _, rfl, q1.one, q1, q2⟩
  have hw8 : IntKind.i64.wrap n = n := by simp only [IntKind.wrap, IntKind.bits, IntKind.signed]; simp; omega
  have hrem : n.tmod (most + 1) = n % (most + 1) := Int.tmod_eq_emod_of_nonneg hn.1
  refine go1 (v := .int .u8 n) rfl (by simp) ?_
  refine go1 (v := .int .i64 n) rfl (by simp [hw8]) ?_
  refine go1 (v := .int .i64 (n % (most + 1))) rfl (by
    have hne : most + 1 ≠ 0 := by omega
    have hw : IntKind.i64.wrap (n % (most + 1)) = n % (most + 1) := by
      have q1 : 0 ≤ n % (most + 1) := Int.emod_nonneg _ (by omega)
      have q2 : n % (most + 1) < most + 1 := Int.emod_lt_of_pos _ (by omega)
      simp only [IntKind.wrap, IntKind.bits, IntKind.signed]; simp; omega
    simp [hne, hrem, hw]) ?_
  refine goAlloc fun w6 hb6 hm6 => ?_
  refine goSt (b := w5.heap.size) (v := .agg #[cv, .int .i64 cfl]) (by simp) (by simp) hb6 (by simp) (by simp) (by
    intro y hy
    simp only [Value.cells, List.mem_cons, List.not_mem_nil, or_false] at hy
    rcases hy with rfl | rfl
    · exact hone
    · rfl) fun w7 hb7 hm7 => ?_
  have hb7 : Blk w7 w5.heap.size [cv, .int .i64 cfl] := by simpa using hb7
  have hm57 : Mod [] w5 w7 := Mod.drop (b := w5.heap.size) (S := []) (hm6.nil.trans hm7) (Nat.le_refl _)
  have hm07 := hm04.trans hm57
  have hv0 : 0 ≤ n % (most + 1) := Int.emod_nonneg _ (by omega)
  have hv1 : n % (most + 1) ≤ most := by have := Int.emod_lt_of_pos n (show 0 < most + 1 by omega); omega
  generalize n % (most + 1) = vr at hv0 hv1 ⊢
  refine go1 (v := .int .i64 vr) rfl (by simp) (goEnd ?_)
  simp only [thenC]
  rw [wpC_seq]
  simp only [wpC]
  have hmd : Mod [] w7 w7.drew := Mod.drew [] w7
  have hb8 : Blk w7.drew w5.heap.size [cv, .int .i64 cfl] := hb7.mod hmd (by simp)
  have hbt8 : Blk w7.drew w.heap.size ts := (hb1.mod ((hm2.trans hm4).trans hm57) (by simp)).mod hmd (by simp)
  have hrm8 := hrm.keep (hm57.trans hmd)
  have hf18 : SlC anyB w7.drew cv m.fs.length (List.flatten fcss) := hfs1.keep (hm57.trans hmd)
  have hf28 := hfs2.keep (hm57.trans hmd)
  have ht8 := ht.keep (hm07.trans hmd)
  have hm08 := hm07.trans hmd
  generalize w7.drew = w8 at hmd hb8 hbt8 hrm8 hf18 hf28 ht8 hm08 ⊢
  have hld8 := cellsAt_of' hb8.cells (show [cv, Value.int .i64 cfl].length = 2 from rfl)
  have c8 := fun k => hb8.cell k
  have hlt8 := cellsAt_of' hbt8.cells h5
  refine wpD_of_B (fun i v w' => match i with | 5 => ∃ cs, v = .agg cs.toArray ∧ RepT anyB w' (fitT vr m.fs t) cs | 6 => ∃ cs, v = .agg cs.toArray ∧ RepT anyB w' (fitT vr m.fs t) cs | 7 => SlC anyB w' v (keptK m vr t).length (u8s (keptK m vr t)) | 11 => SlC anyB w' v (keptK m vr t).length (u8s (keptK m vr t)) | 12 => v = .bool true | _ => True) (by
    intro i v w w' h hm
    split at h
    · obtain ⟨cs, e1, e2⟩ := h; exact ⟨cs, e1, e2.keep hm⟩
    · obtain ⟨cs, e1, e2⟩ := h; exact ⟨cs, e1, e2.keep hm⟩
    · exact h.keep hm
    · exact h.keep hm
    · exact h
    · trivial) ?_
  refine bo1 (v := .int .i64 vr) rfl (by simp) ?_
  refine bo1 (v := .pointer (some ⟨w5.heap.size, 0, none⟩)) rfl (by simp) ?_
  refine bo1 (v := cv) rfl (by simp [c8]) ?_
  refine bo1 (v := .int .i64 vr) rfl (by simp) ?_
  refine bo1 (v := .agg ts.toArray) rfl (by simp [hlt8]) ?_
  refine boCall (vs := [cv, .int .i64 vr, .agg ts.toArray]) rfl (by simp) (fun w' hm' _ => (hfit w' cv fcss vr t ts (hf18.keep hm') (hf28.keep hm') (ht8.keep hm')).mono ?_) ?_
  · rintro e w'' ⟨cs', rfl, h1, h2⟩; exact ⟨_, rfl, h2, cs', rfl, h1⟩
  rintro v5 ⟨_, cs5, rfl, -⟩
  refine boCall (vs := [.agg cs5.toArray]) rfl (by simp) (fun w' hm' hkn => ?_) ?_
  · obtain ⟨cs, e1, e2⟩ := known_get (j := 5) (t := 19) hkn (by simp) rfl rfl rfl rfl
    simp only [updo, upd, if_true, Value.agg.injEq, Array.mk.injEq] at e1
    have e1 : cs5 = cs := by simpa using e1
    subst e1
    refine (hgiv vr t w' cs5 e2).mono ?_
    rintro e w'' ⟨cs', rfl, h1, h2⟩; exact ⟨_, rfl, h2, cs', rfl, h1⟩
  rintro v6 ⟨_, cs6, rfl, -⟩
  refine boCall (vs := [.int .i64 vr, .agg cs6.toArray]) rfl (by simp) (fun w' hm' hkn => ?_) ?_
  · obtain ⟨cs, e1, e2⟩ := known_get (j := 6) (t := 20) hkn (by simp) rfl rfl rfl rfl
    simp only [updo, upd, if_true, Value.agg.injEq, Array.mk.injEq] at e1
    have e1 : cs6 = cs := by simpa using e1
    subst e1
    refine (hmake w' vr t cs6 hk hno (hlen vr) hv0 hv1 e2).mono ?_
    rintro e w'' ⟨v', rfl, h1, h2⟩; exact ⟨_, rfl, h2, h1⟩
  rintro v7 -
  refine bo1 (v := .agg #[cv, .int .i64 cfl]) rfl (by simp [hld8]) ?_
  refine bo1 (v := .int .i64 vr) rfl (by simp) ?_
  refine bo1 (v := .agg ts.toArray) rfl (by simp [hlt8]) ?_
  refine boCall (vs := [.agg [cv, .int .i64 cfl].toArray, .int .i64 vr, .agg ts.toArray]) rfl (by simp) (fun w' hm' _ => (hwr vr w' _ t ts (hrm8.keep hm') (ht8.keep hm') hk (hlen vr)).mono ?_) ?_
  · rintro e w'' ⟨sv, rfl, hsd, h2⟩; exact ⟨_, rfl, h2, hsd.slc.any⟩
  rintro v11 -
  refine boCall (vs := [v7, v11]) rfl (by simp) (fun w' hm' hkn => ?_) ?_
  · have k7 := known_get (j := 7) (t := 21) hkn (by simp) rfl rfl rfl rfl
    have k11 := known_get (j := 11) (t := 25) hkn (by simp) rfl rfl rfl rfl
    simp only [updo, upd] at k7 k11
    refine (hsame w' v7 v11 _ _ (by simpa using k7) (by simpa using k11) (by have := hlen vr; unfold lim at this; omega)).mono ?_
    rintro e w'' ⟨rfl, h2⟩; exact ⟨_, rfl, h2, by simp⟩
  rintro v12 ⟨_, rfl⟩
  refine bo1 (v := .bool true) rfl (by simp) ?_
  intro w9 hm9 _
  refine goEnd ?_
  simp only [thenC]
  exact ret1 (P := P) (v := .bool true) (by simp) ⟨rfl, hm08.trans hm9⟩
end
end Go.Msk

namespace Go.Msk
open Go.RowKit
set_option maxRecDepth 100000
def KF.okB (F : Nat → Nat) (has : Nat → Bool) (t : KF) : Bool := apF F has t.p false t.a && decide (t.sz < 1000)
def KTop.okB (F : Nat → Nat) (has : Nat → Bool) (T : KTop) : Bool :=
  T.ap.okB F has true false && T.ap.okB F has true true && T.tks.all (fun t => t.okB F has) && decide (T.tks.length ≤ 1000) && (T.ln == F tLen && T.uv == F kAppendUvarint && T.each == F tAppendEach && hasAll has [tLen, kAppendUvarint, kUvarintLen, bLen32, tAppendEach, tAppendEach1, tEach])
structure MkkFs where
  fill : FuncId
  ap : FuncId
  make : FuncId
  sm : FuncId
structure MkkOk (P : Program) (F : Nat → Nat) (has : Nat → Bool) (M : MkkFs) (fl : Fl) (ap : Ap) (T : KTop) (fx : List FX) (pf tg : List FD) (flex : Int) (most : Nat) : Prop where
  fill : liftF P M.fill = some ((fl.app (tkFl T.tks (F tSet))).genTop (F iAt) (F iSixteen))
  apc : liftF P M.ap = some T.gen
  make : liftF P M.make = some (makeKCode (fl.app (tkFl T.tks (F tSet))).z M.fill M.ap)
  sm : liftF P M.sm = some (FX.genMsg fx flex)
  fxs : FX.OkL P fx
  fds : FX.fds fx = pf ++ tg
  cnt : Nat.blt fx.length 1000 = true
  okF : (fl.app (tkFl T.tks (F tSet))).okB F has = true
  mks : (fl.app (tkFl T.tks (F tSet))).Mks P F
  okT : T.okB F has = true
  flat : ((pf ++ tg).all fun f => f.flatB && f.fitB) = true
  ver : T.ap = .prm .all false .i16 ⟨F kAppendInt16, none⟩ ap
  off : decide (T.off = GV.wids (fl.vals 0 .zero) + 1) = true
  agree : mkkOk fl ap pf tg flex T most = true
  most : most < 32768
section
variable {P : Program} {F : Nat → Nat} {has : Nat → Bool}
theorem KF.c_of (L : LibA P F has) {t : KF} {f : FD} {j : Nat} (h : t.okB F has = true) (ha : t.agB f j = true) (n : Int) : AppC P t.a (fun _ v => v = .int t.k n) (beI t.sz n) := by
  have hm := L.mixed
  simp only [KF.okB, Bool.and_eq_true] at h
  have h1 := h.1
  simp only [KF.agB, Bool.and_eq_true, Bool.or_eq_true, decide_eq_true_eq] at ha
  obtain ⟨⟨⟨⟨⟨⟨⟨-, hk⟩, hko⟩, hw⟩, -⟩, -⟩, -⟩, -⟩ := ha
  rcases hk with ((hk | hk) | hk) | hk <;> simp only [KF.p, hk, kindOk, decide_eq_true_eq] at hko h1 <;> rw [hk] <;> obtain ⟨e, q⟩ := spl_of h1 <;> rw [e, ← hw, hko]
  · exact kAppendInt8_call hm (L.kAppendInt8 (q _ (by simp)))
  · exact kAppendInt16_call hm (L.kAppendInt16 (q _ (by simp))) (L.kAppendUint16 (q _ (by simp)))
  · exact kAppendInt32_call hm (L.kAppendInt32 (q _ (by simp))) (L.kAppendUint32 (q _ (by simp)))
  · exact kAppendInt64_call hm (L.kAppendInt64 (q _ (by simp))) (L.kAppendUint64 (q _ (by simp)))
theorem tkAg_mem : ∀ {tks : List KF} {fs : List FD} {j : Nat}, tkAg tks fs j = true → ∀ t ∈ tks, ∃ f ∈ fs, ∃ i, t.agB f i = true
  | [], _, _, _, t, ht => by simp at ht
  | t0 :: r, f :: fs, j, h, t, ht => by
    simp only [tkAg, Bool.and_eq_true] at h
    rcases List.mem_cons.1 ht with rfl | ht
    · exact ⟨f, by simp, j, h.1⟩
    · obtain ⟨g, hg, i, hi⟩ := tkAg_mem h.2 t ht
      exact ⟨g, by simp [hg], i, hi⟩
  | _ :: _, [], _, h, _, _ => by simp [tkAg] at h
theorem tkAg_mem2 : ∀ {tks : List KF} {fs : List FD} {j : Nat}, tkAg tks fs j = true → ∀ f ∈ fs, f.usK = true
  | [], [], _, _, f, hf => by simp at hf
  | t0 :: r, g :: fs, j, h, f, hf => by
    simp only [tkAg, Bool.and_eq_true] at h
    rcases List.mem_cons.1 hf with rfl | hf
    · have := h.1
      simp only [KF.agB, Bool.and_eq_true] at this
      exact this.2
    · exact tkAg_mem2 h.2 f hf
  | [], _ :: _, _, h, _, _ => by simp [tkAg] at h
  | _ :: _, [], _, h, _, _ => by simp [tkAg] at h
theorem KTop.tkC (L : LibA P F has) {T : KTop} {tg : List FD} (h : T.okB F has = true) (ha : tkAg T.tks tg 0 = true) : TkC P T.uv T.tks ∧ TgC P T.ln T.uv T.each ∧ (∀ t ∈ T.tks, t.sz < 1000) ∧ T.tks.length ≤ 1000 := by
  simp only [KTop.okB, Bool.and_eq_true, beq_iff_eq, decide_eq_true_eq, List.all_eq_true] at h
  obtain ⟨⟨⟨-, h1⟩, h2⟩, ⟨⟨e1, e2⟩, e3⟩, h3⟩ := h
  have q := hasAll_mem h3
  rw [e1, e2, e3]
  have huv : ∀ n : Nat, n < 4294967296 → AppC P (F kAppendUvarint) (fun _ v => v = .int .u32 (n : Nat)) (uvE n) := fun n hn => kAppendUvarint_call L.mixed (L.kAppendUvarint (q _ (by simp))) (L.kUvarintLen (q _ (by simp))) (L.bLen32 (q _ (by simp))) hn
  refine ⟨⟨huv, fun t ht n => ?_⟩, ⟨fun w B o v m hc hM => tLen_call L.mixed (L.tLen (q _ (by simp))) hc hM, fun n hn => (huv n hn).k fun _ _ _ h => h, ?_⟩, fun t ht => ?_, h2⟩
  · obtain ⟨f, -, i, hi⟩ := tkAg_mem ha t ht
    exact KF.c_of L (h1 t ht) hi n
  · intro w0 w B o dv v l m hm0 hd hl hc hM hml hmv
    exact tAppendEach_call L.mixed (L.tAppendEach (q _ (by simp))) (L.tAppendEach1 (q _ (by simp))) (L.body1 (q _ (by simp))) (L.tEach (q _ (by simp))) (L.sort (q _ (by simp))) (L.kAppendUvarint (q _ (by simp))) (L.kUvarintLen (q _ (by simp))) (L.bLen32 (q _ (by simp))) hm0 hd hl hc hM hml hmv
  · have := h1 t ht
    simp only [KF.okB, Bool.and_eq_true, decide_eq_true_eq] at this
    exact this.2
theorem fit_one {ver : Int} {f : FD} {t : TR} (h : f.flatB = true) : (f.fit ver t).sml ∧ (t.kok → (f.fit ver t).kok) := by
  obtain ⟨kind, frm, to, null, tag, dfl, of, sub⟩ := f
  simp only [FD.flatB, FD.sub, Bool.and_eq_true, decide_eq_true_eq] at h
  have hlen : sub.length < 1000 := of_decide_eq_true h.1.2
  have hv : ∀ k nl (x : TR), (fitV k (fun y => .mk 0 [] false (fitL ver sub 0 y) (fitU sub y.u)) nl x).sml ∧ (x.kok → (fitV k (fun y => .mk 0 [] false (fitL ver sub 0 y) (fitU sub y.u)) nl x).kok) := by
    intro k nl x
    have hU := fitU_le sub x.u
    have hL := fitL_length ver sub 0 x
    unfold fitV
    split
    · exact ⟨by simp [TR.sml, TR.smlL], fun _ => ⟨by simp, trivial⟩⟩
    · split
      · exact ⟨⟨by show (fitL ver sub 0 x).length ≤ _; omega, by show (fitU sub x.u).length ≤ _; omega, fitL_sml ver sub 0 x h.2⟩, fun hx => ⟨fitU_kok h.2 (TR.kok_u hx), fitL_kok ver sub 0 x h.2 hx⟩⟩
      · exact ⟨by simp [TR.sml, TR.smlL], fun _ => ⟨by simp, trivial⟩⟩
  simp only [FD.fit]
  split
  · refine ⟨⟨by simp; omega, by simp, TR.smlL_of fun y hy => ?_⟩, fun hk => ⟨by simp, TR.kokL_of fun y hy => ?_⟩⟩
    · obtain ⟨x, -, rfl⟩ := List.mem_map.1 hy
      exact (hv _ _ x).1
    · obtain ⟨x, hx, rfl⟩ := List.mem_map.1 hy
      exact (hv _ _ x).2 (TR.kok_l hk x (List.mem_of_mem_take hx))
  · exact ⟨(hv _ _ t).1, (hv _ _ t).2⟩
theorem fitL_flat {ver : Int} {t : TR} : ∀ {fds : List FD} {i : Nat}, (∀ f ∈ fds, f.flatB = true) → TR.smlL (fitL ver fds i t) ∧ (t.kok → TR.kokL (fitL ver fds i t))
  | [], _, _ => ⟨trivial, fun _ => trivial⟩
  | f :: l, i, h => by
    obtain ⟨a, b⟩ := fitL_flat (fds := l) (i := i + 1) fun g hg => h g (by simp [hg])
    obtain ⟨c, d⟩ := fit_one (ver := ver) (f := f) (t := t.at i) (h f (by simp))
    exact ⟨⟨c, a⟩, fun hk => ⟨d (hk.at i), b hk⟩⟩
theorem fitT_flat {ver : Int} {fds : List FD} {t : TR} (h : ∀ f ∈ fds, f.flatB = true) (hl : fds.length < 1000) : (fitT ver fds t).sml ∧ (t.kok → (fitT ver fds t).kok) := by
  obtain ⟨a, b⟩ := fitL_flat (ver := ver) (t := t) (i := 0) h
  have := fitU_le fds t.u
  refine ⟨⟨by show (fitL ver fds 0 t).length ≤ _; rw [fitL_length]; omega, by show (fitU fds t.u).length ≤ _; omega, a⟩, fun hk => ⟨fun p hp => ?_, b hk⟩⟩
  obtain ⟨q, hq, rfl⟩ := List.mem_map.1 hp
  exact (unkP_ok (fs := fds) (TR.kok_u hk)).2 q hq
theorem mkk_len {pf tg : List FD} {tks : List KF} {flex : Int} (hp : FD.plainL pf = true) (h : tkAg tks tg 0 = true) (hl : tks.length ≤ 1000) (hz : ∀ t ∈ tks, t.sz < 1000) (size : Nat.ble (FD.maxL true pf + 1077003964) 70368744170000 = true) (sizef : Nat.ble (FD.maxL false pf) 70368744170000 = true) {t : TR} (hk : t.kok) (hn : t.nok) (v : Int) :
    (keptK ⟨pf ++ tg, flex⟩ v t).length + 1000 ≤ lim := by
  have hb := FD.bodyP_le v (MD.isFlex ⟨pf ++ tg, flex⟩ v) pf 0 t hp hk
  rw [keptK_length]
  unfold writeK
  show _ + (partK v (MD.isFlex ⟨pf ++ tg, flex⟩ v) (pf ++ tg) t).length + _ ≤ _
  rw [partK_eq hp h hn, List.length_append]
  have s1 := Nat.le_of_ble_eq_true size
  have s2 := Nat.le_of_ble_eq_true sizef
  cases hf : MD.isFlex ⟨pf ++ tg, flex⟩ v with
  | false =>
    rw [hf] at hb
    simp only [Bool.false_eq_true, if_false, List.length_nil]
    unfold lim; omega
  | true =>
    rw [hf] at hb
    simp only [if_true, List.length_append]
    have e1 := tkEnc_len tks (tkNs tks pf.length t) 0
    have e2 : (tagsQ (tkEnc tks (tkNs tks pf.length t) 0)).length ≤ (tkEnc tks (tkNs tks pf.length t) 0).length * 1010 := flat_le fun p hp => by
      obtain ⟨i, hi⟩ := List.mem_iff_getElem?.1 hp
      obtain ⟨m, t', n', q1, q2, q3, q4⟩ := tkEnc_at _ _ _ i p.1 p.2 hi
      have hm := (List.getElem?_eq_some_iff.1 q2).1
      have hsz := hz t' (List.mem_of_getElem? q2)
      have hbl : p.2.length = t'.sz := by rw [q4, beI_length]
      have a := uvE_le (n := p.1) (by omega)
      have c := uvE_le (n := p.2.length) (by omega)
      simp only [List.length_append]; omega
    have h1 := unkP_ok (fs := pf ++ tg) (TR.kok_u hk)
    have h2 := unkP_len (pf ++ tg) t.u
    have e3 : (tagsP (unknownP (pf ++ tg) t.u)).length ≤ (unknownP (pf ++ tg) t.u).length * 32777 := flat_le fun p hp => by
      have a := uvE_le (h1.2 p hp)
      have b := wholeP_le p.2
      have c := uvE_le (n := (wholeP p.2).length) (by omega)
      simp only [List.length_append]; omega
    have e4 := uvE_le (n := (tkEnc tks (tkNs tks pf.length t) 0).length + (unknownP (pf ++ tg) t.u).length) (by omega)
    have e5 : (unknownP (pf ++ tg) t.u).length * 32777 ≤ 32767 * 32777 := Nat.mul_le_mul_right _ h2
    have e6 : (tkEnc tks (tkNs tks pf.length t) 0).length * 1010 ≤ 1000 * 1010 := Nat.mul_le_mul_right _ (by omega)
    unfold lim; omega
variable {M : MkkFs} {fl : Fl} {ap : Ap} {T : KTop} {fx : List FX} {pf tg : List FD} {flex : Int} {most : Nat}
theorem Fl.wids0 : ∀ (fl : Fl) (i j : Nat) (t u : TR), GV.wids (fl.vals i t) = GV.wids (fl.vals j u) := fun fl i j t u => by rw [Fl.wids, Fl.wids]
theorem MkkOk.ag (h : MkkOk P F has M fl ap T fx pf tg flex most) : tkAg T.tks tg 0 = true ∧ FD.plainL pf = true ∧ fl.tl = false := by
  have := h.agree
  simp only [mkkOk, Bool.and_eq_true, decide_eq_true_eq, Bool.not_eq_true'] at this
  exact ⟨this.1.1.1.1.1.2, this.1.1.1.1.1.1.1.1, this.1.1.1.1.2⟩
theorem MkkOk.flats (h : MkkOk P F has M fl ap T fx pf tg flex most) : (∀ f ∈ pf ++ tg, f.flatB = true) ∧ (∀ f ∈ pf ++ tg, f.fitB = true) ∧ (pf ++ tg).length < 1000 := by
  have h1 := h.flat
  rw [List.all_eq_true] at h1
  refine ⟨fun f hf => by have := h1 f hf; simp only [Bool.and_eq_true] at this; exact this.1, fun f hf => by have := h1 f hf; simp only [Bool.and_eq_true] at this; exact this.2, ?_⟩
  rw [← h.fds, FX.fds_length]
  exact Nat.lt_of_succ_le (Nat.le_of_ble_eq_true h.cnt)
theorem MkkOk.makeOf (L : LibM P F has) (LA : LibA P F has) (h : MkkOk P F has M fl ap T fx pf tg flex most) : MakeKOf P M.make ⟨pf ++ tg, flex⟩ most := by
  intro w ver t ts hk hno hlen h0 h1 ht
  obtain ⟨hag, hp, htl⟩ := h.ag
  obtain ⟨hfl1, hfl2, hcnt⟩ := h.flats
  obtain ⟨c1, c2, c3, c4⟩ := KTop.tkC LA h.okT hag
  obtain ⟨gs, m, q1, q2, q3, q4, q5⟩ := top_mkk (set := F tSet) h.agree h0 h1 hk hno
  have hf := Fl.fill_call L.mixed h.fill (iAt_call L.mixed L.iAt) (Fl.ok_of L _ h.okF h.mks)
  obtain ⟨k1, k2⟩ := fitT_flat (ver := ver) (t := t) hfl1 hcnt
  have okAp : T.ap.Ok P true (T.x ver) := by
    have := h.okT
    simp only [KTop.okB, Bool.and_eq_true] at this
    cases T.x ver with
    | false => exact Ap.ok_of LA _ this.1.1.1.1
    | true => exact Ap.ok_of LA _ this.1.1.1.2
  have hgs : gs = fl.vals 0 (fitT ver (pf ++ tg) t) := by
    have e := Fl.app_vals fl (tkFl T.tks (F tSet)) 0 (fitT ver (pf ++ tg) t) htl
    rw [q1] at e
    have hl := congrArg List.length e
    have e2 := tkFl_vals (F tSet) (fitT ver (pf ++ tg) t) T.tks tg 0 (0 + fl.cnt) hag
    rw [e2] at e hl
    simp only [List.length_append, tkG, List.length_zipWith, tkNs_len] at hl
    exact (List.append_inj e (by simp at hl; omega)).1
  have hoff := h.off
  rw [decide_eq_true_eq] at hoff
  have hw : GV.wids (.num (.int .i16 ver) :: gs) = T.off := by
    have e := fl.wids0 0 0 (fitT ver (pf ++ tg) t) .zero
    rw [hoff, hgs]
    simp only [GV.wids, GV.wid]; omega
  have henc : T.ap.enc ver (T.x ver) (.num (.int .i16 ver) :: gs) = beI 2 ver ++ ap.enc ver (T.x ver) gs := by
    rw [h.ver]; rfl
  have hfit : T.ap.Fit ver (.num (.int .i16 ver) :: gs) := by
    rw [h.ver]
    exact ⟨_, _, rfl, rfl, fun _ => ⟨⟨_, rfl⟩, by simp⟩, q2⟩
  have hout : T.ap.enc ver (T.x ver) (.num (.int .i16 ver) :: gs) ++ tkOut (T.x ver) T.tks (tkNs T.tks pf.length t) m = keptK ⟨pf ++ tg, flex⟩ ver t := by
    rw [henc, List.append_assoc, q5]; rfl
  refine (makeKX_call (out := keptK ⟨pf ++ tg, flex⟩ ver t) L.mixed h.make hf (i16_of h0 h1 h.most) k1 (k2 hk) ht fun w1 B css hs hb hr => ?_).mono ?_
  · rw [q1] at hr
    have hcell : w1.cell? ⟨B, 0, none⟩ = some (.int .i16 ver) := by
      have := hb.cell 0
      exact this
    have hr2 : RepL [] w1 ((.num (.int .i16 ver) :: gs) ++ (tkG T.tks (tkNs T.tks pf.length t) ++ [.tag m])) ([.int .i16 ver] :: css) := .cons (.num rfl) hr
    have := KTop.call (T := T) L.mixed h.apc (ver := ver) okAp c1 c2 c3 c4 (w0 := w1) (w := w1) (B := B) (css := [.int .i16 ver] :: css) (dv := .slice none 0 0) (l := []) (by rw [tkNs_len]) hw q3 q4 hcell hb.cells hr2 hfit (Mod.refl _ _) ⟨.inl ⟨rfl, rfl⟩⟩ (by rw [hout]; simp only [List.length_nil]; omega)
    refine this.mono ?_
    rintro e w' ⟨v', rfl, hd, hm⟩
    rw [hout, List.nil_append] at hd
    exact ⟨v', rfl, hd.low hs, hm⟩
  · rintro e w' ⟨v', rfl, hd, hm⟩
    exact ⟨v', rfl, hd.slc.any, hm⟩
theorem mkk_msg (L : LibM P F has) (LA : LibA P F has) (KL : KLib P F) (h : MkkOk P F has M fl ap T fx pf tg flex most) {f zz z2 z3 : FuncId} (hf : liftF P f = some (makeKLaw zz M.sm (F sFit) (F lGiven) M.make (F sKept) (F sSame) most)) (hz1 : liftF P zz = some (zz1Code z2)) (hz2 : liftF P z2 = some (zz2Code z3)) (hz3 : liftF P z3 = some zz3Code)
    (hg : liftF P (F lGiven) = some (ir_lGiven F)) {w : World} {n : Int} (hn : 0 ≤ n ∧ n < 256) {t : TR} {ts : List Value}
    (ht : RepT anyB w t ts) (hk : t.kok) (hno : t.nok) (hlen : ∀ v, (keptK ⟨pf ++ tg, flex⟩ v t).length + 1000 ≤ lim) : Calls P f [.int .u8 n, .agg ts.toArray].toArray w fun e w' => e = .returned (.bool true) ∧ Mod [] w w' := by
  obtain ⟨hag, hp, htl⟩ := h.ag
  obtain ⟨hfl1, hfl2, hcnt⟩ := h.flats
  have hmost : (0 : Int) ≤ most ∧ (most : Int) < 32768 := ⟨by omega, by have := h.most; omega⟩
  have c4 : T.tks.length ≤ 1000 := (KTop.tkC LA h.okT hag).2.2.2
  have hus : ∀ f ∈ pf ++ tg, 0 ≤ f.tag → f.usK = true := fun f hf ht => by
    rcases List.mem_append.1 hf with hf | hf
    · have := FD.plain.tag (FD.plainL_mem hp f hf); omega
    · exact tkAg_mem2 hag f hf
  have hsm : ∀ w, Calls P M.sm #[] w fun e w' => ∃ cs, e = .returned (.agg cs.toArray) ∧ RepM anyB w' ⟨pf ++ tg, flex⟩ cs ∧ Mod [] w w' := fun w => by
    have := msg_call L.mixed h.sm h.fxs (w := w)
    rw [h.fds] at this
    exact this
  refine makeK_law L.mixed hf hmost (fun w t ts ht => zz1_call L.mixed hz1 hz2 hz3 ht) hsm (fun w sv css ver t ts a b c => ?_) (fun v t w ts a => ?_)
    (fun v w ms t ts a b c d => skept_callG (out := writeK ⟨pf ++ tg, flex⟩ v t) L.mixed KL.kept KL.fl.sl.fixed (fun w ms ts a b c d => write_callK L.mixed KL.fl.sl.write (partK_flat KL v _ hfl1 hus hcnt (by rw [knownP_app hp hag]; exact c4)) a b c d) a b c (by rw [keptK_length] at d; omega)) (h.makeOf L LA) (fun w v1 v2 l1 l2 a b c => same_call L.mixed KL.same a b c) hn ht hk hno hlen
  · refine (fit_flat KL.fl hfl1 hfl2 hcnt w.heap.size w sv css ver t ts (Nat.le_refl _) a b (c.mod (Mod.refl [] _) (by simp) fun _ hb _ => hb)).mono ?_
    rintro e w' ⟨cs', rfl, h1, h2⟩
    exact ⟨cs', rfl, h1.any, h2⟩
  · refine (given_call L.mixed hg _ (fitT_flat (ver := v) (t := t) hfl1 hcnt).1 w.heap.size w ts (Nat.le_refl _) (a.mod (Mod.refl [] _) (by simp) fun _ hb _ => hb)).mono ?_
    rintro e w' ⟨cs', rfl, h1, h2⟩
    exact ⟨cs', rfl, h1.any, h2⟩
theorem MkkOk.len (LA : LibA P F has) (h : MkkOk P F has M fl ap T fx pf tg flex most) (size : Nat.ble (FD.maxL true pf + 1077003964) 70368744170000 = true) (sizef : Nat.ble (FD.maxL false pf) 70368744170000 = true) {t : TR} (hk : t.kok) (hn : t.nok) (v : Int) :
    (keptK ⟨pf ++ tg, flex⟩ v t).length + 1000 ≤ lim := by
  obtain ⟨hag, hp, htl⟩ := h.ag
  obtain ⟨-, -, c3, c4⟩ := KTop.tkC LA h.okT hag
  exact mkk_len hp hag c4 c3 size sizef hk hn v
end
end Go.Msk

namespace Go.Msk
open Go.RowKit Go.Shelf Go.Proofs
set_option maxRecDepth 100000
def ltN (x y : Nat) : Bool := decide (x < y)
theorem swo_ltN : Go.Sort.SWO ltN where
  irrefl := fun x => by simp [ltN]
  trans := fun x y z => by simp only [ltN, decide_eq_true_eq]; omega
  ntrans := fun x y z => by simp only [ltN, decide_eq_false_iff_not]; omega
theorem sortWorld_ok {w : World} {B m : Nat} {cs : List Value} {dk : Array Nat} {os : Array Obj} (h : Blk w B cs) (hl : cs.length = dk.size) :
    Mod [B] w (Go.Sort.grow (Go.Sort.putRow u32v (Go.Sort.ahead w m) B 0 dk) os) ∧ Blk (Go.Sort.grow (Go.Sort.putRow u32v (Go.Sort.ahead w m) B 0 dk) os) B (dk.toList.map u32v) := by
  obtain ⟨T, fr, hb, hfr⟩ := h
  have hlt : B < w.heap.size := (Array.getElem?_eq_some_iff.1 hb).1
  have hsz : (w.heap.modify B (Go.Sort.onCells (Go.Sort.putCells u32v 0 dk))).size = w.heap.size := by simp
  have hget : ∀ k, k < w.heap.size → (Go.Sort.grow (Go.Sort.putRow u32v (Go.Sort.ahead w m) B 0 dk) os).heap[k]? = (w.heap.modify B (Go.Sort.onCells (Go.Sort.putCells u32v 0 dk)))[k]? := fun k hk => by
    show ((w.heap.modify B (Go.Sort.onCells (Go.Sort.putCells u32v 0 dk))) ++ os)[k]? = _
    rw [Array.getElem?_append_left (by omega)]
  refine ⟨⟨rfl, rfl, rfl, ?_, fun k hk hn => ?_⟩, T, fr, ?_, ?_⟩
  · show w.heap.size ≤ ((w.heap.modify B (Go.Sort.onCells (Go.Sort.putCells u32v 0 dk))) ++ os).size
    simp
  · rw [hget k hk, Array.getElem?_modify, if_neg (by simp only [List.mem_singleton] at hn; omega)]
  · rw [hget B hlt, Array.getElem?_modify, if_pos rfl, hb]
    simp only [Option.map_some, Go.Sort.onCells, Option.some.injEq, Obj.cells.injEq, and_true]
    apply Array.ext_getElem?
    intro k
    simp only [Go.Sort.putCells, Array.getElem?_mapIdx, List.getElem?_toArray, List.getElem?_map, Array.getElem?_toList, Nat.zero_add, Nat.zero_le, true_and, Nat.sub_zero]
    by_cases hk : k < dk.size
    · have e1 : cs[k]? = some cs[k] := List.getElem?_eq_getElem (by omega)
      have e2 : dk[k]? = some dk[k] := Array.getElem?_eq_getElem hk
      rw [e1, e2]
      simp only [Option.map_some, if_pos hk]
      rw [getElem!_pos dk k hk]
    · rw [List.getElem?_eq_none (by omega), Array.getElem?_eq_none (by omega)]
      rfl
  · simp only [List.length_map, Array.length_toList]
    rw [← hl]; exact hfr
section
variable {P : Program} {F : Nat → Nat}
theorem each1_call (hm : P.follows .mixedOrders = true) (h : liftF P (F tEach1) = some (ir_tEach1 F)) {w : World} {B Bs n : Nat} {G : Nat → Nat} (hs : w.cell? ⟨Bs, 0, none⟩ = some (.slice (some ⟨B, 0, none⟩) n n))
    (hc : ∀ t, t < n → w.cell? ⟨B, t, none⟩ = some (u32v (G t))) {i j : Nat} (hi : i < n) (hj : j < n) :
    Calls P (F tEach1) [.int .i64 i, .int .i64 j, .pointer (some ⟨Bs, 0, none⟩)].toArray w fun e w' => e = .returned (.bool (ltN (G i) (G j))) ∧ w' = w.drew := by
  unfold ir_tEach1 at h
  refine call_of h hm (by simp) ?_
  have a0 : args0 [.int .i64 i, .int .i64 j, .pointer (some ⟨Bs, 0, none⟩)] 0 = .int .i64 i := rfl
  have a1 : args0 [.int .i64 i, .int .i64 j, .pointer (some ⟨Bs, 0, none⟩)] 1 = .int .i64 j := rfl
  have a2 : args0 [.int .i64 i, .int .i64 j, .pointer (some ⟨Bs, 0, none⟩)] 2 = .pointer (some ⟨Bs, 0, none⟩) := rfl
  generalize args0 [.int .i64 i, .int .i64 j, .pointer (some ⟨Bs, 0, none⟩)] = σ at a0 a1 a2 ⊢
  rw [wpC_seq, wpC_blk]
  refine wpR_step (v := .bool false) rfl ?_
  refine wpR_done ?_
  rw [wpC_seq]
  show wpD P _ [] _ w.drew _
  have hs' : w.drew.cell? ⟨Bs, 0, none⟩ = some (.slice (some ⟨B, 0, none⟩) n n) := hs
  have hi' : w.drew.cell? ⟨B, i, none⟩ = some (u32v (G i)) := hc i hi
  have hj' : w.drew.cell? ⟨B, j, none⟩ = some (u32v (G j)) := hc j hj
  refine wpD_pure rfl ?_
  simp only [List.map_cons, List.map_nil, List.cons_append, List.nil_append]
  refine wpR_step (v := .slice (some ⟨B, 0, none⟩) n n) (by simp only [RK.val?, ev, updo, upd]; simp [a2, hs']) ?_
  refine wpR_step (v := .int .i64 i) (by simp only [RK.val?, ev, updo, upd]; simp [a0]) ?_
  refine wpR_step (v := .pointer (some ⟨B, i, none⟩)) (by
    simp only [RK.val?, ev, updo, upd, show (6 : Nat) ≠ 7 by decide, if_false, if_true]
    rw [if_pos (by omega)]; simp [Addr.add_mk]) ?_
  refine wpR_step (v := u32v (G i)) (by simp only [RK.val?, ev, updo, upd, if_true, hi']) ?_
  refine wpR_step (v := .slice (some ⟨B, 0, none⟩) n n) (by simp only [RK.val?, ev, updo, upd]; simp [a2, hs']) ?_
  refine wpR_step (v := .int .i64 j) (by simp only [RK.val?, ev, updo, upd]; simp [a1]) ?_
  refine wpR_step (v := .pointer (some ⟨B, j, none⟩)) (by
    simp only [RK.val?, ev, updo, upd, show (10 : Nat) ≠ 11 by decide, if_false, if_true]
    rw [if_pos (by omega)]; simp [Addr.add_mk]) ?_
  refine wpR_step (v := u32v (G j)) (by simp only [RK.val?, ev, updo, upd, if_true, hj']) ?_
  refine wpR_step (v := .bool (ltN (G i) (G j))) (by
    simp only [RK.val?, ev, updo, upd, show (9 : Nat) ≠ 13 by decide, show (9 : Nat) ≠ 12 by decide, show (9 : Nat) ≠ 11 by decide, show (9 : Nat) ≠ 10 by decide, if_false, if_true, u32v, isShift, decide_true, Bool.or_true, intBin, ltN]
    congr 2; exact decide_eq_decide.2 (by omega)) ?_
  refine wpR_step (v := .bool (ltN (G i) (G j))) (by simp only [RK.val?, ev, updo, upd, if_true]) ?_
  refine wpR_done ?_
  simp only [wpC, postC, rvals, List.mapM_cons, List.mapM_nil, RV.val, updo, upd, if_true, Option.bind_eq_bind, Option.bind_some, Option.pure_def, tup_one]
  exact ⟨trivial, trivial⟩
theorem sortC_of {ρ : Ren} (L : LaysGg.n6 P ρ) (hm : P.follows .mixedOrders = true) (hl : liftF P (F tEach1) = some (ir_tEach1 F)) (hf : ρ.f 6 = F sortSlice) {e : TypeId} {i ie : TypeInfo} (hi : P.info? (F tyU32s) = some i) (hd : i.desc = .slice e)
    (hpk : P.packed (F tyU32s) = false) (hie : P.info? e = some ie) (ke : Nat) (hke : ∀ w, (Extern.Rtype.kind e).run P w = .ok ke w) (hs1 : ie.size = 1) (hagg : ∀ w, (isAgg e).run P w = .ok false w) (hp : ie.hasPointers = false) (hb : ie.bytes = 4)
    (eg : ∀ args w, (callFunc (F tEach1) args).run P w = .ok (.enter (F tEach1) args) w) (f1 f2 f6 : Nat) (h1 : P.funcs.findIdx? (·.name == "internal/reflectlite" ++ ".Swapper$" ++ toString 1) = some f1) (h2 : P.funcs.findIdx? (·.name == "internal/reflectlite" ++ ".Swapper$" ++ toString 2) = some f2)
    (h6 : P.funcs.findIdx? (·.name == "internal/reflectlite" ++ ".Swapper$" ++ toString 6) = some f6) (gS : Bool) (hx : ∀ args W, (callFunc f6 args).run P W = ((Extern.ReflectliteSwapper.swap gS args).run P W).andThen fun v w' => .ok (.value v) w') :
    SortC P (F sortSlice) (F tEach1) (F tyU32s) := by
  intro w B Bs ks hB hBs hne hlen hk32
  rw [← hf]
  by_cases hn : 2 ≤ ks.length
  · have hK : Go.Lib.swapperK ks.toArray.size ie ke = 6 := by
      have c : (ks.toArray.size == 0) = false := by simp; intro h; rw [h] at hn; simp at hn
      have d : (ks.toArray.size == 1) = false := by simp; omega
      simp only [Go.Lib.swapperK, hp, hb, c, d, Bool.false_and, Bool.false_eq_true, if_false]
    have hH : Go.Sort.Holds u32v w B 0 ks.toArray := by
      intro j hj
      have hj' : j < ks.length := by simpa using hj
      refine ⟨?_, ?_⟩
      · rw [Nat.zero_add, hB.cell j, List.getElem?_map, List.getElem?_eq_getElem hj', getElem!_pos ks.toArray j hj]
        simp
      · obtain ⟨T, fr, hb, hfr⟩ := hB
        obtain ⟨lo, hi⟩ := fr
        simp only [World.frozen?, hb, Nat.zero_add]
        simp only [List.length_map] at hfr
        simp only [Bool.and_eq_false_iff, decide_eq_false_iff_not]
        omega
    have hless : LessReads P (F tEach1) #[.pointer (some ⟨Bs, 0, none⟩)] u32v ltN B 0 ks.toArray.size w := by
      intro m os dk hs a b ha hb
      have hs' : dk.size = ks.length := by simpa using hs
      obtain ⟨q1, q2⟩ := sortWorld_ok (w := w) (B := B) (m := m) (dk := dk) (os := os) hB (by simpa using hs'.symm)
      have q3 := hBs.mod q1 (by simpa using hne)
      refine (each1_call hm hl (w := sortWorld u32v w B 0 m dk os) (B := B) (Bs := Bs) (n := ks.length) (G := fun t => dk[t]!) (q3.cell 0) (fun t ht => ?_) (i := a) (j := b) (by simpa using ha) (by simpa using hb)).mono fun en w' hh => ⟨hh.1, 1, hh.2⟩
      have := q2.cell t
      rw [List.getElem?_map] at this
      have ht' : t < dk.size := by omega
      rw [show (sortWorld u32v w B 0 m dk os).cell? ⟨B, t, none⟩ = _ from this, getElem!_pos dk t ht']
      simp [Array.getElem?_eq_getElem ht']
    have hS := Any.sort_Slice_sorted L (F tyU32s) e i ie hi hd hpk hie ke hke hs1 hagg u32v (fun _ => rfl) ltN swo_ltN (F tEach1) #[.pointer (some ⟨Bs, 0, none⟩)] eg B 0 ks.length ks.toArray (by simpa using hn) (by simp; omega) f6 (by rw [hK]; exact h6) gS hx w hless hH hB.lt
    have hsz : ks.toArray.size = ks.length := by simp
    rw [hsz] at hS
    refine hS.mono ?_
    rintro en w' ⟨rfl, d', n, os, ⟨p1, -, p3⟩, hso, rfl⟩
    have hd' : d'.size = ks.length := by simpa using p1
    obtain ⟨q1, q2⟩ := sortWorld_ok (w := w) (B := B) (m := n) (dk := d') (os := os) hB (by simpa using hd'.symm)
    refine ⟨rfl, d'.toList, ?_, ?_, q2, q1⟩
    · have x1 : d'.extract 0 ks.length = d' := by rw [← hd']; exact Array.extract_size
      have x2 : ks.toArray.extract 0 ks.length = ks.toArray := by rw [← hsz]; exact Array.extract_size
      rw [x1, x2] at p3
      exact p3
    · rw [List.pairwise_iff_getElem]
      intro a b ha hb hab
      have ha' : a < d'.size := by simpa using ha
      have hb' : b < d'.size := by simpa using hb
      have := hso a b (Nat.zero_le _) hab (by omega)
      rw [getElem!_pos d' a ha', getElem!_pos d' b hb'] at this
      simp only [ltN, decide_eq_false_iff_not] at this
      simp only [Array.getElem_toList]
      omega
  · have hks : ks.length = 0 ∨ ks.length = 1 := by omega
    have hfn : ∃ f, P.funcs.findIdx? (·.name == "internal/reflectlite" ++ ".Swapper$" ++ toString (Go.Lib.swapperK ks.length ie ke)) = some f := by
      rcases hks with h | h
      · rw [h]; exact ⟨f1, h1⟩
      · rw [h]; exact ⟨f2, h2⟩
    obtain ⟨f0, hf0⟩ := hfn
    refine (Any.sort_Slice_tiny L (F tyU32s) e i ie hi hd hpk hie ke hke (some ⟨B, 0, none⟩) ks.length ks.length (by omega) f0 hf0 (.func (F tEach1)) #[] #[.pointer (some ⟨Bs, 0, none⟩)] w).mono ?_
    rintro en w' ⟨rfl, os, rfl⟩
    have hm' : Mod [] w (Go.Sort.grow w os) := ⟨rfl, rfl, rfl, by show w.heap.size ≤ (w.heap ++ os).size; simp, fun k hk _ => by show (w.heap ++ os)[k]? = _; rw [Array.getElem?_append_left hk]⟩
    refine ⟨rfl, ks, .refl _, ?_, hB.mod hm' (by simp), hm'.nil⟩
    match ks, hks with
    | [], _ => exact .nil
    | [x], _ => simp
end
end Go.Msk
