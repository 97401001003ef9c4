/- A small language of resolved operations, and what the generic and the generated functions do in it (part 13). -/
import Derived.Test.YtopfpehiaddeaaaGreatDoorFl

namespace Go.Msk
open Go.RowKit
set_option maxRecDepth 100000
def uuidP (s : List UInt8) : List UInt8 := s.take 16 ++ List.replicate (16 - s.length) 0
def valP (flex : Bool) (kind : Int) (part : TR → List UInt8) (null : Bool) (t : TR) : List UInt8 :=
  if kind = 0 then [UInt8.ofNat (t.n % 2).toNat]
  else if kind = 7 then uuidP t.s
  else if kind = 8 then countedP flex null (if null then [] else wholeP t.s).length 2 ++ (if null then [] else wholeP t.s)
  else if kind = 9 then countedP flex null (if null then [] else wholeP t.s).length 4 ++ (if null then [] else wholeP t.s)
  else if kind = 10 then part t
  else beI (widthP kind) t.n
def fieldP (flex : Bool) (kind of nullF : Int) (nl : Bool) (part : TR → List UInt8) (t : TR) : List UInt8 :=
  if kind = 11 then countedP flex nl (if nl then [] else t.l.take 32767).length 4 ++ (if nl then [] else t.l.take 32767).flatMap (valP flex of part false)
  else if kind = 10 ∧ nullF ≥ 0 then (if nl then beI 1 (-1) else beI 1 1 ++ part t)
  else valP flex kind part nl t
def tagsP (u : List (Nat × List UInt8)) : List UInt8 := u.flatMap fun p => uvE p.1 ++ (uvE (wholeP p.2).length ++ wholeP p.2)
def joinP (flex : Bool) (body : List UInt8) (u : List (Nat × List UInt8)) : List UInt8 := body ++ if flex then uvE u.length ++ tagsP u else []
mutual
/-- What is written of a field. -/
def FD.enc (ver : Int) (flex : Bool) : FD → TR → List UInt8
  | .mk kind frm to null tag dfl of sub, t => fieldP flex kind of null (FD.nullV (.mk kind frm to null tag dfl of sub) ver t) (fun x => joinP flex (bodyP ver flex sub 0 x) (unknownP sub x.u)) t
/-- What is written of fields in their order. -/
def bodyP (ver : Int) (flex : Bool) : List FD → Nat → TR → List UInt8
  | [], _, _ => []
  | f :: r, i, t => (if f.tag < 0 ∧ f.hasV ver = true then f.enc ver flex (t.at i) else []) ++ bodyP ver flex r (i + 1) t
end
def partP (ver : Int) (flex : Bool) (fs : List FD) (t : TR) : List UInt8 := joinP flex (bodyP ver flex fs 0 t) (unknownP fs t.u)
mutual
/-- Keys of tags are numbers of 32 bits. -/
def TR.kok : TR → Prop
  | .mk _ _ _ l u => (∀ p ∈ u, p.1 < 4294967296) ∧ TR.kokL l
def TR.kokL : List TR → Prop
  | [] => True
  | t :: l => t.kok ∧ TR.kokL l
end
theorem TR.kokL_mem : ∀ {l : List TR}, TR.kokL l → ∀ t ∈ l, t.kok
  | [], _, t, h => by simp at h
  | a :: l, hl, t, h => by
    simp only [TR.kokL] at hl
    rcases List.mem_cons.1 h with rfl | h
    · exact hl.1
    · exact TR.kokL_mem hl.2 t h
theorem TR.kok.at {t : TR} (h : t.kok) (i : Nat) : (t.at i).kok := by
  cases t with
  | mk n s b l u =>
    simp only [TR.kok] at h
    simp only [TR.at, TR.l]
    cases hi : l[i]? with
    | none => simp [TR.zero, TR.kok, TR.kokL]
    | some x => exact TR.kokL_mem h.2 x (List.mem_of_getElem? hi)
theorem FD.enc_eq (ver : Int) (flex : Bool) (kind frm to null tag dfl of : Int) (sub : List FD) (t : TR) :
    (FD.mk kind frm to null tag dfl of sub).enc ver flex t = fieldP flex kind of null (FD.nullV (.mk kind frm to null tag dfl of sub) ver t) (partP ver flex sub) t := by
  rw [FD.enc]; rfl
theorem bodyP_cons (ver : Int) (flex : Bool) (f : FD) (r : List FD) (i : Nat) (t : TR) :
    bodyP ver flex (f :: r) i t = (if f.tag < 0 ∧ f.hasV ver = true then f.enc ver flex (t.at i) else []) ++ bodyP ver flex r (i + 1) t := by
  rw [bodyP]
theorem DRaw.of_blk {w : World} {B n0 : Nat} {l : List UInt8} (hb : Blk w B (u8s l)) (hn : n0 ≤ B) : DRaw w n0 (.slice (some ⟨B, 0, none⟩) l.length l.length) l :=
  ⟨.inr ⟨B, l.length, [], rfl, Nat.le_refl _, hn, by simpa using hb, by simp⟩⟩
theorem and1_i64 (n : Int) : intBin .and .i64 n 1 = some (.int .i64 ((n % 2 : Int))) := by
  simp only [intBin]
  congr 2
  have e1 : (BitVec.ofInt IntKind.i64.bits n &&& BitVec.ofInt IntKind.i64.bits 1).toNat = (n % 2).toNat := by
    show (BitVec.ofInt 64 n &&& BitVec.ofInt 64 1).toNat = (n % 2).toNat
    rw [BitVec.toNat_and]
    have b : (BitVec.ofInt 64 1).toNat = 2 ^ 1 - 1 := by decide
    rw [b, Nat.and_two_pow_sub_one_eq_mod, BitVec.toNat_ofInt]
    omega
  rw [e1]
  have h2 : 0 ≤ n % 2 := Int.emod_nonneg _ (by omega)
  have h3 : n % 2 < 2 := Int.emod_lt_of_pos _ (by omega)
  rw [i64_nat (by omega)]
  omega
theorem u8_of_small {n : Int} (h0 : 0 ≤ n) (h : n < 256) : Value.int .u8 (IntKind.u8.wrap n) = .int .u8 ((UInt8.ofNat n.toNat).toNat : Int) := by
  have := u8_conv (x := n.toNat) (by omega)
  rwa [show ((n.toNat : Nat) : Int) = n by omega] at this
section
variable {P : Program} {F : Nat → Nat}
attribute [local simp] gOk updo upd ev RK.val? isShift intBin Addr.add_mk args0 Value.cells undef
def PartC (P : Program) (F : Nat → Nat) (ver : Int) (flex : Bool) (fs : List FD) : Prop :=
  ∀ (w : World) (v : Value) (css : List (List Value)) (t : TR) (ts : List Value), SlC anyB w v fs.length css.flatten → RepFL anyB w fs css → RepT anyB w t ts → t.kok → (partP ver flex fs t).length ≤ lim →
    Calls P (F sPart) [v, .int .i64 ver, .bool flex, .agg ts.toArray].toArray w (BytesR w (partP ver flex fs t))
def ValC (P : Program) (F : Nat → Nat) (ver : Int) (flex : Bool) (kind : Int) (sub : List FD) : Prop :=
  ∀ (w : World) (v : Value) (css : List (List Value)) (t : TR) (ts : List Value) (null : Bool), SlC anyB w v sub.length css.flatten → RepFL anyB w sub css → RepT anyB w t ts → t.kok → (valP flex kind (partP ver flex sub) null t).length ≤ lim →
    Calls P (F sValue) [.int .i64 kind, v, .bool null, .int .i64 ver, .bool flex, .agg ts.toArray].toArray w (BytesR w (valP flex kind (partP ver flex sub) null t))
theorem val_text1 (hm : P.follows .mixedOrders = true) (hw : liftF P (F sWhole) = some (ir_sWhole F)) (hc : liftF P (F sCounted) = some (ir_sCounted F)) (hu : liftF P (F sUvarint) = some (ir_sUvarint F)) (hf : liftF P (F sFixed) = some (ir_sFixed F))
    {w0 w : World} {B : Nat} {n : Int} {s : List UInt8} {tn null flex : Bool} {sv lv uv : Value} {σ : Sl} {Q : Exit → Sl → World → Prop} (hm0 : Mod [] w0 w) (hb : Blk w B [.int .i64 n, sv, .bool tn, lv, uv]) (hsv : SlC anyB w sv s.length (u8s s))
    (h11 : σ 11 = .pointer (some ⟨B, 0, none⟩)) (h2 : σ 2 = .bool null) (h4 : σ 4 = .bool flex) (hlen : (countedP flex null (if null then [] else wholeP s).length 2 ++ (if null then [] else wholeP s)).length ≤ lim)
    (hQ : ∀ σ' w' v, σ' 12 = v → DRaw w' w0.heap.size v (countedP flex null (if null then [] else wholeP s).length 2 ++ (if null then [] else wholeP s)) → Mod [] w0 w' → Q .ret σ' w') :
    wpC P (ir_sValue_1 F) Q σ w := by
  unfold ir_sValue_1
  have c1 := fun k => hb.cell k
  rw [wpC_seq, wpC_blk]
  refine go1 (v := .pointer (some ⟨B, 1, none⟩)) rfl (by simp [h11]) ?_
  refine go1 (v := sv) rfl (by simp [c1]) ?_
  refine goCall rfl (vs := [sv]) (by simp) (whole_call hm hw hsv) ?_
  rintro e w1 ⟨ew, v1, rfl, hv1⟩
  rw [ew]
  refine ⟨v1, rfl, go1 (v := v1) rfl (by simp) (wpR_done ?_)⟩
  rw [wpC_seq, wpC_seq, wpC_blk]
  refine go1 (v := .bool null) rfl (by simp [h2]) (wpR_done ?_)
  have key : ∀ σ1 v2, σ1 4 = .bool flex → σ1 2 = .bool null → σ1 14 = v2 → SlC anyB w v2 (if null then [] else wholeP s).length (u8s (if null then [] else wholeP s)) →
      wpC P (.seq (.blk [⟨(some 38), .mv (.tmp 4), none⟩, ⟨(some 39), .mv (.tmp 2), none⟩, ⟨(some 40), .mv (.tmp 14), none⟩, ⟨(some 41), .len (.tmp 40), none⟩,
                ⟨(some 42), .call (F sCounted) [.tmp 38, .tmp 39, .tmp 41, .const (.int .i64 2)], none⟩, ⟨(some 43), .mv (.tmp 14), none⟩, ⟨(some 44), .append (.tmp 42) (.tmp 43) 1 1, none⟩, ⟨(some 12), .mv (.tmp 44), none⟩])
            (.ret)) Q σ1 w := by
    intro σ1 v2 k4 k2 k14 hv2
    obtain ⟨vb, vc, ev2⟩ := hv2.shape
    have hwl : (wholeP s).length ≤ 32767 := by simp [wholeP]; omega
    have hsm : (if null = true then [] else wholeP s).length ≤ 32767 := by cases null <;> simp; exact hwl
    rw [wpC_seq, wpC_blk]
    refine go1 (v := .bool flex) rfl (by simp [k4]) ?_
    refine go1 (v := .bool null) rfl (by simp [k2]) ?_
    refine go1 (v := v2) rfl (by simp [k14]) ?_
    refine go1 (v := .int .i64 ((if null = true then [] else wholeP s).length : Nat)) rfl (by simp [ev2]) ?_
    refine goCall rfl (vs := [.bool flex, .bool null, .int .i64 ((if null = true then [] else wholeP s).length : Nat), .int .i64 ((2 : Nat) : Int)]) (by simp) (counted_call hm hc hu hf (by omega) (by omega)) ?_
    rintro e w2 ⟨v3, rfl, hd, hm2⟩
    refine ⟨v3, rfl, go1 (v := v2) rfl (by simp [k14]) ?_⟩
    refine goC rfl ?_
    refine append_run (n0 := w.heap.size) (v := v3) (by simp) hd hm2.size (k := if null = true then [] else wholeP s) (by simpa using (hv2.keep hm2).src) (by simpa using hlen) fun v4 w3 ha => ?_
    refine go1 (v := v4) rfl (by simp) (wpR_done ?_)
    exact hQ _ w3 v4 (by simp) (ha.raw.low hm0.size) (hm0.trans (ha.mod0 hd hm2))
  cases null with
  | true =>
    rw [wpC_cond_t (by simp), wpC_blk]
    refine go1 rfl rfl (wpR_done ?_)
    exact key _ (.slice none 0 0) (by simp [h4]) (by simp [h2]) (by simp) (by simpa [u8s] using SlC.nil)
  | false =>
    rw [wpC_cond_f (by simp), wpC_skip]
    exact key _ v1 (by simp [h4]) (by simp [h2]) (by simp) (by simpa using hv1)
theorem val_text2 (hm : P.follows .mixedOrders = true) (hw : liftF P (F sWhole) = some (ir_sWhole F)) (hc : liftF P (F sCounted) = some (ir_sCounted F)) (hu : liftF P (F sUvarint) = some (ir_sUvarint F)) (hf : liftF P (F sFixed) = some (ir_sFixed F))
    {w0 w : World} {B : Nat} {n : Int} {s : List UInt8} {tn null flex : Bool} {sv lv uv : Value} {σ : Sl} {Q : Exit → Sl → World → Prop} (hm0 : Mod [] w0 w) (hb : Blk w B [.int .i64 n, sv, .bool tn, lv, uv]) (hsv : SlC anyB w sv s.length (u8s s))
    (h11 : σ 11 = .pointer (some ⟨B, 0, none⟩)) (h2 : σ 2 = .bool null) (h4 : σ 4 = .bool flex) (hlen : (countedP flex null (if null then [] else wholeP s).length 4 ++ (if null then [] else wholeP s)).length ≤ lim)
    (hQ : ∀ σ' w' v, σ' 12 = v → DRaw w' w0.heap.size v (countedP flex null (if null then [] else wholeP s).length 4 ++ (if null then [] else wholeP s)) → Mod [] w0 w' → Q .ret σ' w') :
    wpC P (ir_sValue_2 F) Q σ w := by
  unfold ir_sValue_2
  have c1 := fun k => hb.cell k
  rw [wpC_seq, wpC_blk]
  refine go1 (v := .pointer (some ⟨B, 1, none⟩)) rfl (by simp [h11]) ?_
  refine go1 (v := sv) rfl (by simp [c1]) ?_
  refine goCall rfl (vs := [sv]) (by simp) (whole_call hm hw hsv) ?_
  rintro e w1 ⟨ew, v1, rfl, hv1⟩
  rw [ew]
  refine ⟨v1, rfl, go1 (v := v1) rfl (by simp) (wpR_done ?_)⟩
  rw [wpC_seq, wpC_seq, wpC_blk]
  refine go1 (v := .bool null) rfl (by simp [h2]) (wpR_done ?_)
  have key : ∀ σ1 v2, σ1 4 = .bool flex → σ1 2 = .bool null → σ1 15 = v2 → SlC anyB w v2 (if null then [] else wholeP s).length (u8s (if null then [] else wholeP s)) →
      wpC P (.seq (.blk [⟨(some 51), .mv (.tmp 4), none⟩, ⟨(some 52), .mv (.tmp 2), none⟩, ⟨(some 53), .mv (.tmp 15), none⟩, ⟨(some 54), .len (.tmp 53), none⟩,
                ⟨(some 55), .call (F sCounted) [.tmp 51, .tmp 52, .tmp 54, .const (.int .i64 4)], none⟩, ⟨(some 56), .mv (.tmp 15), none⟩, ⟨(some 57), .append (.tmp 55) (.tmp 56) 1 1, none⟩, ⟨(some 12), .mv (.tmp 57), none⟩])
            (.ret)) Q σ1 w := by
    intro σ1 v2 k4 k2 k14 hv2
    obtain ⟨vb, vc, ev2⟩ := hv2.shape
    have hwl : (wholeP s).length ≤ 32767 := by simp [wholeP]; omega
    have hsm : (if null = true then [] else wholeP s).length ≤ 32767 := by cases null <;> simp; exact hwl
    rw [wpC_seq, wpC_blk]
    refine go1 (v := .bool flex) rfl (by simp [k4]) ?_
    refine go1 (v := .bool null) rfl (by simp [k2]) ?_
    refine go1 (v := v2) rfl (by simp [k14]) ?_
    refine go1 (v := .int .i64 ((if null = true then [] else wholeP s).length : Nat)) rfl (by simp [ev2]) ?_
    refine goCall rfl (vs := [.bool flex, .bool null, .int .i64 ((if null = true then [] else wholeP s).length : Nat), .int .i64 ((4 : Nat) : Int)]) (by simp) (counted_call hm hc hu hf (by omega) (by omega)) ?_
    rintro e w2 ⟨v3, rfl, hd, hm2⟩
    refine ⟨v3, rfl, go1 (v := v2) rfl (by simp [k14]) ?_⟩
    refine goC rfl ?_
    refine append_run (n0 := w.heap.size) (v := v3) (by simp) hd hm2.size (k := if null = true then [] else wholeP s) (by simpa using (hv2.keep hm2).src) (by simpa using hlen) fun v4 w3 ha => ?_
    refine go1 (v := v4) rfl (by simp) (wpR_done ?_)
    exact hQ _ w3 v4 (by simp) (ha.raw.low hm0.size) (hm0.trans (ha.mod0 hd hm2))
  cases null with
  | true =>
    rw [wpC_cond_t (by simp), wpC_blk]
    refine go1 rfl rfl (wpR_done ?_)
    exact key _ (.slice none 0 0) (by simp [h4]) (by simp [h2]) (by simp) (by simpa [u8s] using SlC.nil)
  | false =>
    rw [wpC_cond_f (by simp), wpC_skip]
    exact key _ v1 (by simp [h4]) (by simp [h2]) (by simp) (by simpa using hv1)
theorem uuid_splice (s : List UInt8) : splice (u8s (List.replicate 16 0)) 0 ((u8s s).take (Nat.min s.length 16 * 1)) = u8s (uuidP s) := by
  have e : (u8s s).take (Nat.min s.length 16 * 1) = u8s (s.take 16) := by
    rw [u8s_take, Nat.mul_one]
    by_cases h : s.length ≤ 16
    · rw [List.take_of_length_le (by rw [u8s_length]; show s.length ≤ min s.length 16; omega), List.take_of_length_le (by rw [u8s_length]; exact h)]
    · rw [show Nat.min s.length 16 = 16 from Nat.min_eq_right (by omega)]
  rw [e]
  simp only [splice, List.take_zero, List.nil_append, Nat.zero_add, uuidP, u8s_append]
  congr 1
  rw [u8s_length, List.length_take, ← u8s_drop]
  congr 1
  rw [List.drop_replicate]
  congr 1
  omega
theorem value_call (hm : P.follows .mixedOrders = true) (h : liftF P (F sValue) = some (ir_sValue F)) (hw : liftF P (F sWhole) = some (ir_sWhole F)) (hc : liftF P (F sCounted) = some (ir_sCounted F)) (hu : liftF P (F sUvarint) = some (ir_sUvarint F)) (hf : liftF P (F sFixed) = some (ir_sFixed F))
    (hwd : liftF P (F sWidth) = some (ir_sWidth F)) {ver : Int} {flex : Bool} {kind : Int} {sub : List FD} (hp : kind = 10 → PartC P F ver flex sub) : ValC P F ver flex kind sub := by
  intro w v css t ts null hv hr ht hk hlen
  cases ht with
  | @mk n s tn l u sv lv uv tss uss g1 g2 g3 g4 g5 =>
  unfold ir_sValue at h
  refine call_of h hm (by simp) ?_
  clear h
  rw [wpC_seq, wpC_blk]
  refine goBox (v := .agg #[.int .i64 n, sv, .bool tn, lv, uv]) (by simp) fun w1 hb1 hm1 => ?_
  have hb1 : Blk w1 w.heap.size [.int .i64 n, sv, .bool tn, lv, uv] := by simpa using hb1
  have c1 := fun k => hb1.cell k
  refine go1 rfl rfl (wpR_done ?_)
  rw [wpC_seq, wpC_seq, wpC_blk]
  refine go1 (v := .int .i64 kind) rfl (by simp) (wpR_done ?_)
  rw [wpC_block]
  unfold ir_sValue_4
  rw [wpC_seq, wpC_blk]
  refine go1 (v := .bool (decide (kind = 0))) rfl (by simp; by_cases e : kind = 0 <;> simp [e]) ?_
  refine go1 (v := .bool (decide (kind = 0))) rfl (by simp) (wpR_done ?_)
  by_cases k0 : kind = 0
  · rw [wpC_cond_t (by simp [k0]), wpC_seq, wpC_blk]
    refine go1 (v := .pointer (some ⟨w.heap.size, 0, none⟩)) rfl (by simp) ?_
    refine go1 (v := .int .i64 n) rfl (by simp [c1]) ?_
    refine go1 (v := .int .i64 (n % 2)) rfl (by simp only [RK.val?, ev, updo, upd, if_true, isShift, decide_true, Bool.or_true, and1_i64]) ?_
    refine go1 (v := .int .u8 ((UInt8.ofNat (n % 2).toNat).toNat : Int)) rfl (by
      simp only [RK.val?, ev, updo, upd, if_true]
      rw [u8_of_small (Int.emod_nonneg _ (by omega)) (by have := Int.emod_lt_of_pos n (show (0 : Int) < 2 by omega); omega)]) ?_
    refine goOne (cs := u8s [UInt8.ofNat (n % 2).toNat]) (by simp [u8s]) rfl rfl fun w2 hb2 hm2 => ?_
    refine go1 (v := .slice (some ⟨w1.heap.size, 0, none⟩) 1 1) rfl (by simp) (wpR_done ?_)
    repeat first | refine retThen ?_ | refine retBlk ?_
    refine ret1 (v := .slice (some ⟨w1.heap.size, 0, none⟩) 1 1) (by simp) ⟨_, rfl, ?_, hm1.trans hm2⟩
    have := DRaw.of_blk (n0 := w.heap.size) hb2 hm1.size
    simpa [valP, k0, TR.n] using this
  · rw [wpC_cond_f (by simp [k0]), wpC_seq, wpC_blk]
    refine go1 (v := .bool (decide (kind = 7))) rfl (by simp; by_cases e : kind = 7 <;> simp [e]) ?_
    refine go1 (v := .bool (decide (kind = 7))) rfl (by simp) (wpR_done ?_)
    by_cases k7 : kind = 7
    · rw [wpC_cond_t (by simp [k7]), wpC_seq, wpC_blk]
      refine wpR_run ?_
      simp only [RK.run, ev]
      refine ⟨by omega, by omega, by omega, by omega, fun T => ?_⟩
      have hb2 := Blk.new w1 (u8s (List.replicate 16 0)) T
      rw [show (zrep (16 : Int).toNat [Value.int .u8 0]) = u8s (List.replicate 16 0) from rfl]
      have hm2 : Mod [] w1 (w1.alloc (.cells (u8s (List.replicate 16 0)).toArray T)) := Mod.alloc _ _ _
      generalize w1.alloc (.cells (u8s (List.replicate 16 0)).toArray T) = w2 at hb2 hm2 ⊢
      refine go1 (v := .slice (some ⟨w1.heap.size, 0, none⟩) 16 16) rfl (by simp) (wpR_done ?_)
      have c2 := fun k => (hb1.mod hm2 (by simp)).cell k
      rw [wpC_seq, wpC_blk]
      refine go1 (v := .slice (some ⟨w1.heap.size, 0, none⟩) 16 16) rfl (by simp) ?_
      refine go1 (v := .pointer (some ⟨w.heap.size, 1, none⟩)) rfl (by simp) ?_
      refine go1 (v := sv) rfl (by simp [c2]) ?_
      refine wpR_run ?_
      have hs2 : SlC anyB w2 sv s.length (u8s s) := g1.keep (hm1.trans hm2)
      simp only [RK.run, ev, updo, upd, if_true, if_false, show (27 : Nat) ≠ 29 by decide, show (27 : Nat) ≠ 28 by decide, hs2.src]
      have hput := hb2.put (o := 0) (vs := (u8s s).take (Nat.min s.length 16 * 1)) (by simp [u8s_length]; omega)
      rw [uuid_splice] at hput
      have hmput : Mod [w1.heap.size] w2 (putCells w2 ⟨w1.heap.size, 0, none⟩ 0 ((u8s s).take (Nat.min s.length 16 * 1))) := Mod.put (by simp)
      refine ⟨stOk_many hb2 (by simp [u8s_length]; omega) (fun y hy => by
        have := List.mem_of_mem_take hy
        simp only [u8s, List.mem_map] at this
        obtain ⟨b, -, rfl⟩ := this; rfl), ?_⟩
      refine wpR_done ?_
      rw [wpC_seq, wpC_blk]
      refine go1 (v := .slice (some ⟨w1.heap.size, 0, none⟩) 16 16) rfl (by simp) ?_
      refine go1 (v := .slice (some ⟨w1.heap.size, 0, none⟩) 16 16) rfl (by simp) (wpR_done ?_)
      repeat first | refine retThen ?_ | refine retBlk ?_
      have hl16 : (uuidP s).length = 16 := by simp [uuidP]; omega
      refine ret1 (v := .slice (some ⟨w1.heap.size, 0, none⟩) 16 16) (by simp) ⟨_, rfl, ?_, Mod.drop (b := w1.heap.size) (S := []) ((hm1.trans hm2).nil.trans hmput) hm1.size⟩
      have := DRaw.of_blk (n0 := w.heap.size) hput hm1.size
      rw [hl16] at this
      simpa [valP, k7, TR.s] using this
    · rw [wpC_cond_f (by simp [k7])]
      unfold ir_sValue_3
      rw [wpC_seq, wpC_blk]
      refine go1 (v := .bool (decide (kind = 8))) rfl (by simp; by_cases e : kind = 8 <;> simp [e]) ?_
      refine go1 (v := .bool (decide (kind = 8))) rfl (by simp) (wpR_done ?_)
      by_cases k8 : kind = 8
      · rw [wpC_cond_t (by simp [k8])]
        refine val_text1 hm hw hc hu hf (w0 := w) (flex := flex) (null := null) (s := s) hm1 hb1 (g1.keep hm1) (by simp) (by simp) (by simp) (by simpa [valP, k8, TR.s] using hlen) fun σ' w' v' h12 hd hm' => ?_
        simp only [thenC, inBlockC]
        refine post1 h12 ⟨v', rfl, ?_, hm'⟩
        simpa [valP, k8, TR.s] using hd
      · rw [wpC_cond_f (by simp [k8]), wpC_seq, wpC_blk]
        refine go1 (v := .bool (decide (kind = 9))) rfl (by simp; by_cases e : kind = 9 <;> simp [e]) ?_
        refine go1 (v := .bool (decide (kind = 9))) rfl (by simp) (wpR_done ?_)
        by_cases k9 : kind = 9
        · rw [wpC_cond_t (by simp [k9])]
          refine val_text2 hm hw hc hu hf (w0 := w) (flex := flex) (null := null) (s := s) hm1 hb1 (g1.keep hm1) (by simp) (by simp) (by simp) (by simpa [valP, k9, TR.s] using hlen) fun σ' w' v' h12 hd hm' => ?_
          simp only [thenC, inBlockC]
          refine post1 h12 ⟨v', rfl, ?_, hm'⟩
          simpa [valP, k9, TR.s] using hd
        · rw [wpC_cond_f (by simp [k9]), wpC_seq, wpC_blk]
          refine go1 (v := .bool (decide (kind = 10))) rfl (by simp; by_cases e : kind = 10 <;> simp [e]) ?_
          refine go1 (v := .bool (decide (kind = 10))) rfl (by simp) (wpR_done ?_)
          by_cases k10 : kind = 10
          · rw [wpC_cond_t (by simp [k10]), wpC_seq, wpC_blk]
            have hrep1 : RepT anyB w1 (.mk n s tn l u) [.int .i64 n, sv, .bool tn, lv, uv] := RepT.keep (.mk g1 g2 g3 g4 g5) hm1
            refine go1 (v := v) rfl (by simp) ?_
            refine go1 (v := .int .i64 ver) rfl (by simp) ?_
            refine go1 (v := .bool flex) rfl (by simp) ?_
            refine go1 (v := .agg #[.int .i64 n, sv, .bool tn, lv, uv]) rfl (by simp [cellsAt_of' hb1.cells (n := 5) rfl]) ?_
            refine goCall rfl (vs := [v, .int .i64 ver, .bool flex, .agg #[.int .i64 n, sv, .bool tn, lv, uv]]) (by simp) (hp k10 w1 v css _ _ (hv.keep hm1) (hr.keep hm1) hrep1 hk (by simpa [valP, k10] using hlen)) ?_
            rintro e w2 ⟨v2, rfl, hd, hm2⟩
            refine ⟨v2, rfl, go1 (v := v2) rfl (by simp) (wpR_done ?_)⟩
            repeat first | refine retThen ?_ | refine retBlk ?_
            refine ret1 (v := v2) (by simp) ⟨v2, rfl, ?_, hm1.trans hm2⟩
            have := hd.low hm1.size
            simpa [valP, k10] using this
          · rw [wpC_cond_f (by simp [k10]), wpC_skip]
            simp only [thenC, inBlockC]
            rw [wpC_seq]
            simp only [wpC]
            have hmd : Mod [] w1 w1.drew := Mod.drew _ _
            have c2 := fun k => (hb1.mod hmd (by simp)).cell k
            refine wpD_of_B (fun j v w' => match j with | 3 => v = .int .i64 (widthP kind) | 4 => DRaw w' w.heap.size v (beI (widthP kind) n) | _ => True) (by
              intro j v w w' h hm
              split at h
              · exact h
              · exact h.keep hm
              · trivial) ?_
            refine bo1 (v := .pointer (some ⟨w.heap.size, 0, none⟩)) rfl (by simp) ?_
            refine bo1 (v := .int .i64 n) rfl (by simp [c2]) ?_
            refine bo1 (v := .int .i64 kind) rfl (by simp) ?_
            refine boCall (vs := [.int .i64 kind]) rfl (by simp) (fun w' hm' _ => (width_call hm hwd).mono ?_) ?_
            · rintro e w'' ⟨rfl, rfl⟩; exact ⟨_, rfl, Mod.refl _ _, rfl⟩
            rintro v3 ⟨_, rfl⟩
            refine boCall (vs := [.int .i64 n, .int .i64 (widthP kind : Nat)]) rfl (by simp) (fun w' hm' _ => (fixed_call hm hf (widthP_le kind)).mono ?_) ?_
            · rintro e w'' ⟨v4, rfl, hd, hm4⟩; exact ⟨v4, rfl, hm4, hd.low (Nat.le_trans (hm1.trans hmd).size hm'.size)⟩
            rintro v4 ⟨_, hv4⟩
            refine bo1 (v := v4) rfl (by simp) ?_
            intro w' hm' hkn
            have hk4 := known_get (j := 4) (t := 69) hkn (by simp) rfl rfl rfl rfl
            refine goEnd ?_
            simp only [thenC]
            refine post1 (v := v4) (by simp) ⟨v4, rfl, ?_, (hm1.trans hmd).trans hm'⟩
            have : DRaw w' w.heap.size v4 (beI (widthP kind) n) := by simpa using hk4
            simpa [valP, k0, k7, k8, k9, k10, TR.n] using this
end
end Go.Msk

namespace Go.Msk
open Go.RowKit
set_option maxRecDepth 100000
theorem flatMap_take_le {α : Type} (f : α → List UInt8) (l : List α) (j : Nat) : ((l.take j).flatMap f).length ≤ (l.flatMap f).length := by
  have e : l.flatMap f = (l.take j).flatMap f ++ (l.drop j).flatMap f := by rw [← List.flatMap_append, List.take_append_drop]
  rw [e, List.length_append]; omega
theorem flatMap_snoc {α : Type} {f : α → List UInt8} {l : List α} {j : Nat} {x : α} (h : l[j]? = some x) : (l.take (j + 1)).flatMap f = (l.take j).flatMap f ++ f x := by
  rw [take_succ_of h, List.flatMap_append]; simp
section
variable {P : Program} {F : Nat → Nat}
attribute [local simp] gOk updo upd ev RK.val? isShift intBin Addr.add_mk args0 Value.cells undef
def FieldC (P : Program) (F : Nat → Nat) (ver : Int) (flex : Bool) (f : FD) : Prop :=
  ∀ (w : World) (cs : List Value) (t : TR) (ts : List Value), RepF anyB w f cs → RepT anyB w t ts → t.kok → (f.enc ver flex t).length ≤ lim →
    Calls P (F sField) [.agg cs.toArray, .int .i64 ver, .bool flex, .agg ts.toArray].toArray w (BytesR w (f.enc ver flex t))
structure FldS (w0 : World) (fb tb : Nat) (ver : Int) (flex nl : Bool) (fcs tcs : List Value) (σ : Sl) : Prop where
  bf : Blk w0 fb fcs
  bt : Blk w0 tb tcs
  s1 : σ 1 = .int .i64 ver
  s2 : σ 2 = .bool flex
  s4 : σ 4 = .pointer (some ⟨fb, 0, none⟩)
  s7 : σ 7 = .pointer (some ⟨tb, 0, none⟩)
  s9 : σ 9 = .bool nl
theorem FldS.keep {w0 : World} {fb tb : Nat} {ver : Int} {flex nl : Bool} {fcs tcs : List Value} {σ σ' : Sl} (h : FldS w0 fb tb ver flex nl fcs tcs σ) (hs : ∀ s, s < 10 → σ' s = σ s) : FldS w0 fb tb ver flex nl fcs tcs σ' :=
  ⟨h.bf, h.bt, (hs 1 (by omega)).trans h.s1, (hs 2 (by omega)).trans h.s2, (hs 4 (by omega)).trans h.s4, (hs 7 (by omega)).trans h.s7, (hs 9 (by omega)).trans h.s9⟩
theorem field_elem {w0 w : World} {fb tb j n c : Nat} {ver : Int} {flex nl : Bool} {kind frm to null tag dfl of : Int} {sub : List FD} {sv : Value} {css : List (List Value)} {tcs xs : List Value} {σ : Sl} {x : TR} {a : Addr} {out : List UInt8} {Q : Exit → Sl → World → Prop}
    (hS : FldS w0 fb tb ver flex nl [.int .i64 kind, .int .i64 frm, .int .i64 to, .int .i64 null, .int .i64 tag, .int .i64 dfl, .int .i64 of, sv] tcs σ) (hm0 : Mod [] w0 w) (hsv : SlC anyB w0 sv sub.length css.flatten) (hr : RepFL anyB w0 sub css) (hx : RepT anyB w0 x xs) (hk : x.kok)
    (h10 : σ 10 = .slice (some a) n c) (h31 : σ 31 = .int .i64 (j : Nat)) (hj : j < n) (hcell : cellsAt w0 (a.add (j * 5)) 0 5 = some xs) (h11 : DRaw w w0.heap.size (σ 11) out) (hV : ValC P F ver flex of sub)
    (hlen : (out ++ valP flex of (partP ver flex sub) false x).length ≤ lim)
    (hQ : ∀ σ' w', (∀ s, s < 32 → s ≠ 11 → s ≠ 12 → σ' s = σ s) → DRaw w' w0.heap.size (σ' 11) (out ++ valP flex of (partP ver flex sub) false x) → Mod [] w0 w' → Q .normal σ' w') : wpC P (ir_sField_1 F) Q σ w := by
  unfold ir_sField_1
  rw [wpC_seq, wpC_blk]
  refine go1 (v := .int .i64 (j : Nat)) rfl (by simp [h31]) ?_
  refine go1 (v := .int .i64 (j : Nat)) rfl (by simp) (wpR_done ?_)
  simp only [wpC]
  have hmd : Mod [] w0 w.drew := hm0.trans (Mod.drew _ _)
  have c1 := fun k => (hS.bf.mod hmd (by simp)).cell k
  have hcell1 := cellsAt_below hmd.below _ _ _ hcell
  have e1 := hS.s1
  have e2 := hS.s2
  have e4 := hS.s4
  refine wpD_of_B (fun i v w' => match i with | 11 => DRaw w' w0.heap.size v (valP flex of (partP ver flex sub) false x) | _ => True) (by
    intro i v w w' h hm
    split at h
    · exact h.keep hm
    · trivial) ?_
  refine bo1 (v := σ 11) rfl (by simp) ?_
  refine bo1 (v := .pointer (some ⟨fb, 6, none⟩)) rfl (by simp [e4]) ?_
  refine bo1 (v := .int .i64 of) rfl (by simp [c1]) ?_
  refine bo1 (v := .pointer (some ⟨fb, 7, none⟩)) rfl (by simp [e4]) ?_
  refine bo1 (v := sv) rfl (by simp [c1]) ?_
  refine bo1 (v := .int .i64 ver) rfl (by simp [e1]) ?_
  refine bo1 (v := .bool flex) rfl (by simp [e2]) ?_
  refine bo1 (v := .slice (some a) n c) rfl (by simp [h10]) ?_
  refine bo1 (v := .int .i64 (j : Nat)) rfl (by simp) ?_
  refine bo1 (v := .pointer (some (a.add (j * 5)))) rfl (by simp [hj]) ?_
  refine bo1 (v := .agg xs.toArray) rfl (by simp [hcell1]) ?_
  refine boCall (vs := [.int .i64 of, sv, .bool false, .int .i64 ver, .bool flex, .agg xs.toArray]) rfl (by simp) (fun w' hm' _ =>
    (hV w' sv css x xs false (hsv.keep (hmd.trans hm')) (hr.keep (hmd.trans hm')) (hx.keep (hmd.trans hm')) hk (by simp only [List.length_append] at hlen; omega)).mono ?_) ?_
  · rintro e w'' ⟨v, rfl, hd, hm2⟩
    exact ⟨v, rfl, hm2, hd.low (hmd.trans hm').size⟩
  rintro v ⟨_, -⟩
  intro w' hm' hkn
  have hk11 := known_get (j := 11) (t := 45) hkn (by simp) rfl rfl rfl rfl
  have hv : DRaw w' w0.heap.size v (valP flex of (partP ver flex sub) false x) := by simpa using hk11
  have hmw := hmd.trans hm'
  have hdr : DRaw w' w0.heap.size (σ 11) out := h11.keep ((Mod.drew _ _).trans hm')
  refine goC rfl ?_
  refine append_run (n0 := w0.heap.size) (v := σ 11) (by simp) hdr hmw.size (k := valP flex of (partP ver flex sub) false x) (by simpa using hv.src) (by simpa using hlen) fun v' w2 ha => ?_
  refine go1 (v := v') rfl (by simp) (goEnd ?_)
  refine hQ _ w2 (fun s h1 h2 h3 => ?_) (by simpa using ha.raw) (ha.mod0 hdr hmw)
  simp only [updo, upd]
  repeat rw [if_neg (by omega)]
theorem field_list (hm : P.follows .mixedOrders = true) (ht : liftF P (F sThings) = some (ir_sThings F)) (hc : liftF P (F sCounted) = some (ir_sCounted F)) (hu : liftF P (F sUvarint) = some (ir_sUvarint F)) (hf : liftF P (F sFixed) = some (ir_sFixed F))
    {w0 w : World} {fb tb : Nat} {ver : Int} {flex nl : Bool} {kind frm to null tag dfl of : Int} {sub : List FD} {sv tsv lv uv : Value} {css tss : List (List Value)} {tn : Int} {tb' : Bool} {l : List TR} {σ : Sl} {Q : Exit → Sl → World → Prop}
    (hS : FldS w0 fb tb ver flex nl [.int .i64 kind, .int .i64 frm, .int .i64 to, .int .i64 null, .int .i64 tag, .int .i64 dfl, .int .i64 of, sv] [.int .i64 tn, tsv, .bool tb', lv, uv] σ) (hm0 : Mod [] w0 w) (hsv : SlC anyB w0 sv sub.length css.flatten) (hr : RepFL anyB w0 sub css)
    (hlv : SlC anyB w0 lv l.length tss.flatten) (hl : RepTL anyB w0 l tss) (hk : TR.kokL l) (hV : ValC P F ver flex of sub)
    (hlen : (countedP flex nl (if nl then [] else l.take 32767).length 4 ++ (if nl then [] else l.take 32767).flatMap (valP flex of (partP ver flex sub) false)).length ≤ lim)
    (hQ : ∀ σ' w' v, σ' 8 = v → DRaw w' w0.heap.size v (countedP flex nl (if nl then [] else l.take 32767).length 4 ++ (if nl then [] else l.take 32767).flatMap (valP flex of (partP ver flex sub) false)) → Mod [] w0 w' → Q .ret σ' w') : wpC P (ir_sField_2 F) Q σ w := by
  unfold ir_sField_2
  have c1 := fun k => (hS.bt.mod hm0 (by simp)).cell k
  have e7 := hS.s7
  rw [wpC_seq, wpC_blk]
  refine go1 (v := .pointer (some ⟨tb, 3, none⟩)) rfl (by simp [e7]) ?_
  refine go1 (v := lv) rfl (by simp [c1]) ?_
  refine goCall rfl (vs := [lv]) (by simp) (things_call hm ht (hlv.keep hm0) (hl.keep hm0)) ?_
  rintro e w1 ⟨ew, v1, rfl, hv1, hl1⟩
  rw [ew]
  refine ⟨v1, rfl, go1 (v := v1) rfl (by simp) (wpR_done ?_)⟩
  rw [wpC_seq, wpC_seq, wpC_blk]
  have e9 := hS.s9
  refine go1 (v := .bool nl) rfl (by simp [e9]) (wpR_done ?_)
  have key : ∀ σ1 v2 xss, (∀ s, s < 10 → σ1 s = σ s) → σ1 10 = v2 → SlC anyB w v2 (if nl then [] else l.take 32767).length xss.flatten → RepTL anyB w (if nl then [] else l.take 32767) xss →
      wpC P (.seq (.blk [⟨(some (24)), .mv (.tmp 2), none⟩, ⟨(some (25)), .mv (.tmp 9), none⟩, ⟨(some (26)), .mv (.tmp 10), none⟩, ⟨(some (27)), .len (.tmp 26), none⟩,
          ⟨(some (28)), .call (F sCounted) [.tmp 24, .tmp 25, .tmp 27, .const (.int .i64 4)], none⟩, ⟨(some (11)), .mv (.tmp 28), none⟩])
      (.seq (.seq (.blk [⟨(some (29)), .mv (.tmp 10), none⟩, ⟨(some (30)), .len (.tmp 29), none⟩, ⟨(some (31)), .mv (.const (.int .i64 0)), none⟩])
        (.block 0 (.loop (.seq (.blk [⟨(some (32)), .bin .lss (.tmp 31) (.tmp 30), none⟩])
            (.seq (.cond (.tmp 32)
                (.skip)
                (.exit 0))
            (.seq (.block 1 (ir_sField_1 F))
            (.blk [⟨(some (47)), .bin .add (.tmp 31) (.const (.int .i64 1)), none⟩,
              ⟨(some (31)), .mv (.tmp 47), none⟩])))))))
      (.seq (.blk [⟨(some (48)), .mv (.tmp 11), none⟩,
          ⟨(some (8)), .mv (.tmp 48), none⟩])
      (.ret)))) Q σ1 w := by
    intro σ1 v2 xss hfr k10 hv2 hx2
    have hkx : TR.kokL (if nl then [] else l.take 32767) := by
      cases nl with
      | true => simp [TR.kokL]
      | false =>
        simp only [Bool.false_eq_true, if_false]
        have : ∀ (l : List TR) (k : Nat), TR.kokL l → TR.kokL (l.take k) := by
          intro l
          induction l with
          | nil => intro k _; simp [TR.kokL]
          | cons a l ih =>
            intro k h
            cases k with
            | zero => simp [TR.kokL]
            | succ k => simp only [List.take_succ_cons, TR.kokL] at h ⊢; exact ⟨h.1, ih k h.2⟩
        exact this l 32767 hk
    generalize hL : (if nl = true then [] else l.take 32767) = L at *
    have hLl : L.length ≤ 32767 := by rw [← hL]; cases nl <;> simp; omega
    obtain ⟨vb, vc, ev2⟩ := hv2.shape
    rw [wpC_seq, wpC_blk]
    refine go1 (v := .bool flex) rfl (by simp [hfr, hS.s2]) ?_
    refine go1 (v := .bool nl) rfl (by simp [hfr, hS.s9]) ?_
    refine go1 (v := v2) rfl (by simp [k10]) ?_
    refine go1 (v := .int .i64 (L.length : Nat)) rfl (by simp [ev2]) ?_
    refine goCall rfl (vs := [.bool flex, .bool nl, .int .i64 (L.length : Nat), .int .i64 ((4 : Nat) : Int)]) (by simp) (counted_call hm hc hu hf (by omega) (by omega)) ?_
    rintro e w2 ⟨v3, rfl, hd, hm2⟩
    have hm02 := hm0.trans hm2
    refine ⟨v3, rfl, go1 (v := v3) rfl (by simp) (wpR_done ?_)⟩
    rw [wpC_seq, wpC_seq, wpC_blk]
    refine go1 (v := v2) rfl (by simp [k10]) ?_
    refine go1 (v := .int .i64 (L.length : Nat)) rfl (by simp [ev2]) ?_
    refine go1 rfl rfl (wpR_done ?_)
    -- the facts of the list hold from the world before on
    refine rangeLoop (n := L.length) (fun j σ' w' => σ' 10 = v2 ∧ σ' 31 = .int .i64 (j : Nat) ∧ σ' 30 = .int .i64 (L.length : Nat) ∧ (∀ s, s < 10 → σ' s = σ s) ∧ DRaw w' w.heap.size (σ' 11) (countedP flex nl L.length 4 ++ (L.take j).flatMap (valP flex of (partP ver flex sub) false)) ∧ Mod [] w w')
      (by omega) (by omega) (fun j σ w h => ⟨h.2.1, h.2.2.1⟩) ?_ ?_ ?_
    · refine ⟨by simp [k10], by simp, by simp, fun s hs => ?_, by simpa using hd, hm2⟩
      rw [← hfr s hs]
      simp only [updo, upd]
      repeat rw [if_neg (by omega)]
    · rintro j σ2 w3 hj ⟨q10, q31, q30, qfr, qd, qm⟩
      obtain ⟨x, hx⟩ : ∃ x, L[j]? = some x := ⟨_, List.getElem?_eq_getElem hj⟩
      obtain ⟨xs, hxs, hxr⟩ := hx2.nth hx
      obtain ⟨a, c, ea, hjn, hcell⟩ := hv2.flat hx2.length hx2.five hxs
      have hxm := List.mem_of_getElem? hx
      have hlj : (countedP flex nl L.length 4 ++ (L.take j).flatMap (valP flex of (partP ver flex sub) false) ++ valP flex of (partP ver flex sub) false x).length ≤ lim := by
        have := flatMap_take_le (valP flex of (partP ver flex sub) false) L (j + 1)
        rw [flatMap_snoc hx] at this
        simp only [List.length_append] at this hlen ⊢
        omega
      have hSw : FldS w fb tb ver flex nl [.int .i64 kind, .int .i64 frm, .int .i64 to, .int .i64 null, .int .i64 tag, .int .i64 dfl, .int .i64 of, sv] [.int .i64 tn, tsv, .bool tb', lv, uv] (upd σ2 32 (.bool true)) :=
        FldS.keep ⟨hS.bf.mod hm0 (by simp), hS.bt.mod hm0 (by simp), hS.s1, hS.s2, hS.s4, hS.s7, hS.s9⟩ fun s hs => by rw [upd_ne _ _ (by omega)]; exact qfr s hs
      refine field_elem (w0 := w) (n := L.length) (c := c) (a := a) (x := x) (xs := xs) hSw qm (hsv.keep hm0) (hr.keep hm0) hxr (TR.kokL_mem hkx x hxm) (by simp [q10, ea]) (by simp [q31]) hj hcell (by simpa using qd) hV hlj fun σ' w' hf' hd' hm' => ?_
      simp only [rngP]
      have g : ∀ s, s < 32 → s ≠ 11 → s ≠ 12 → σ' s = σ2 s := fun s h1 h2 h3 => by rw [hf' s h1 h2 h3, upd_ne _ _ (by omega)]
      refine ⟨by rw [g 31 (by omega) (by omega) (by omega)]; exact q31, ?_, by simp, ?_, fun s hs => ?_, ?_, hm'⟩
      · simp only [upd]; rw [if_neg (by omega), if_neg (by omega), g 10 (by omega) (by omega) (by omega)]; exact q10
      · simp only [upd]; rw [if_neg (by omega), if_neg (by omega), g 30 (by omega) (by omega) (by omega)]; exact q30
      · simp only [upd]; rw [if_neg (by omega), if_neg (by omega), g s (by omega) (by omega) (by omega)]; exact qfr s hs
      · rw [flatMap_snoc hx, ← List.append_assoc]
        simpa [upd] using hd'
    · rintro σ2 w3 ⟨q10, q31, q30, qfr, qd, qm⟩
      simp only [thenC]
      rw [wpC_seq, wpC_blk]
      refine go1 (v := σ2 11) rfl (by simp) ?_
      refine go1 (v := σ2 11) rfl (by simp) (wpR_done ?_)
      refine hQ _ w3 (σ2 11) (by simp) ?_ (hm0.trans qm)
      rw [List.take_of_length_le (Nat.le_refl _)] at qd
      exact qd.low hm0.size
  cases nl with
  | true =>
    rw [wpC_cond_t (by simp), wpC_blk]
    refine go1 rfl rfl (wpR_done ?_)
    exact key _ (.slice none 0 0) [] (fun s hs => by simp only [updo, upd]; repeat rw [if_neg (by omega)]) (by simp) (by simpa using SlC.nil) (by simpa using RepTL.nil)
  | false =>
    rw [wpC_cond_f (by simp), wpC_skip]
    exact key _ v1 (tss.take 32767) (fun s hs => by simp only [updo, upd]; repeat rw [if_neg (by omega)]) (by simp) (by simpa using hv1) (by simpa using hl1)
theorem field_call (hm : P.follows .mixedOrders = true) (h : liftF P (F sField) = some (ir_sField F)) (hn : liftF P (F sNull) = some (ir_sNull F)) (ht : liftF P (F sThings) = some (ir_sThings F)) (hc : liftF P (F sCounted) = some (ir_sCounted F)) (hu : liftF P (F sUvarint) = some (ir_sUvarint F)) (hf : liftF P (F sFixed) = some (ir_sFixed F))
    {ver : Int} {flex : Bool} {kind frm to null tag dfl of : Int} {sub : List FD} (hV : ∀ k, ValC P F ver flex k sub) (hp : PartC P F ver flex sub) : FieldC P F ver flex (.mk kind frm to null tag dfl of sub) := by
  intro w cs t ts hrf hrt hk hlen
  rw [FD.enc_eq] at hlen ⊢
  generalize hnl : FD.nullV (.mk kind frm to null tag dfl of sub) ver t = nl at hlen ⊢
  cases hrf with
  | @mk _ _ _ _ _ _ _ _ sv css f1 f2 =>
  cases hrt with
  | @mk n s tn l u tsv lv uv tss uss g1 g2 g3 g4 g5 =>
  unfold ir_sField at h
  refine call_of h hm (by simp) ?_
  clear h
  rw [wpC_seq, wpC_blk]
  refine goBox (v := .agg #[.int .i64 kind, .int .i64 frm, .int .i64 to, .int .i64 null, .int .i64 tag, .int .i64 dfl, .int .i64 of, sv]) (by simp) fun w1 hb1 hm1 => ?_
  refine goBox (v := .agg #[.int .i64 n, tsv, .bool tn, lv, uv]) (by simp) fun w2 hb2 hm2 => ?_
  have hm02 := hm1.trans hm2
  have hb1 : Blk w2 w.heap.size [.int .i64 kind, .int .i64 frm, .int .i64 to, .int .i64 null, .int .i64 tag, .int .i64 dfl, .int .i64 of, sv] := Blk.mod (by simpa using hb1) hm2 (by simp)
  have hb2 : Blk w2 w1.heap.size [.int .i64 n, tsv, .bool tn, lv, uv] := by simpa using hb2
  have rF : RepF anyB w2 (.mk kind frm to null tag dfl of sub) [.int .i64 kind, .int .i64 frm, .int .i64 to, .int .i64 null, .int .i64 tag, .int .i64 dfl, .int .i64 of, sv] := RepF.keep (.mk f1 f2) hm02
  have rT : RepT anyB w2 (.mk n s tn l u) [.int .i64 n, tsv, .bool tn, lv, uv] := RepT.keep (.mk g1 g2 g3 g4 g5) hm02
  refine go1 rfl rfl (wpR_done ?_)
  rw [wpC_seq, wpC_blk]
  refine go1 (v := .agg #[.int .i64 kind, .int .i64 frm, .int .i64 to, .int .i64 null, .int .i64 tag, .int .i64 dfl, .int .i64 of, sv]) rfl (by simp [cellsAt_of' hb1.cells (n := 8) rfl]) ?_
  refine go1 (v := .int .i64 ver) rfl (by simp) ?_
  refine go1 (v := .agg #[.int .i64 n, tsv, .bool tn, lv, uv]) rfl (by simp [cellsAt_of' hb2.cells (n := 5) rfl]) ?_
  refine goCall rfl (vs := [.agg #[.int .i64 kind, .int .i64 frm, .int .i64 to, .int .i64 null, .int .i64 tag, .int .i64 dfl, .int .i64 of, sv], .int .i64 ver, .agg #[.int .i64 n, tsv, .bool tn, lv, uv]]) (by simp) (null_call hm hn rF rT) ?_
  rintro e w3 ⟨rfl, hm3⟩
  refine ⟨_, rfl, ?_⟩
  rw [hnl]
  refine go1 (v := .bool nl) rfl (by simp) (wpR_done ?_)
  have hm03 := hm02.trans hm3
  have hb1 := hb1.mod hm3 (by simp)
  have hb2 := hb2.mod hm3 (by simp)
  have c1 := fun k => hb1.cell k
  have hk' : TR.kokL l := by simp only [TR.kok] at hk; exact hk.2
  rw [wpC_seq, wpC_seq, wpC_blk]
  refine go1 (v := .pointer (some ⟨w.heap.size, 0, none⟩)) rfl (by simp) ?_
  refine go1 (v := .int .i64 kind) rfl (by simp [c1]) ?_
  refine go1 (v := .bool (decide (kind = 11))) rfl (by simp; by_cases e : kind = 11 <;> simp [e]) (wpR_done ?_)
  by_cases k11 : kind = 11
  · rw [wpC_cond_t (by simp [k11])]
    have e0 : fieldP flex kind of null nl (partP ver flex sub) (.mk n s tn l u) = countedP flex nl (if nl then [] else l.take 32767).length 4 ++ (if nl then [] else l.take 32767).flatMap (valP flex of (partP ver flex sub) false) := by
      simp [fieldP, k11, TR.l]
    rw [e0] at hlen ⊢
    refine field_list hm ht hc hu hf (w0 := w3) (fb := w.heap.size) (tb := w1.heap.size) (ver := ver) (flex := flex) (nl := nl) (kind := kind) (frm := frm) (to := to) (null := null) (tag := tag) (dfl := dfl) (of := of) (sub := sub) (sv := sv) (tn := n) (tsv := tsv) (tb' := tn) (lv := lv) (uv := uv) (l := l)
      ⟨hb1, hb2, by simp, by simp, by simp, by simp, by simp⟩ (Mod.refl _ _) (f1.keep hm03) (f2.keep hm03) (g2.keep hm03) (g3.keep hm03) hk' (hV of) hlen fun σ' w' v h8 hd hm' => ?_
    simp only [thenC]
    exact post1 h8 ⟨v, rfl, hd.low hm03.size, hm03.trans hm'⟩
  · rw [wpC_cond_f (by simp [k11]), wpC_skip]
    simp only [thenC]
    rw [wpC_seq, wpC_seq, wpC_blk]
    refine go1 (v := .pointer (some ⟨w.heap.size, 0, none⟩)) rfl (by simp) ?_
    refine go1 (v := .int .i64 kind) rfl (by simp [c1]) ?_
    refine go1 (v := .bool (decide (kind = 10))) rfl (by simp; by_cases e : kind = 10 <;> simp [e]) ?_
    refine go1 (v := .bool (decide (kind = 10))) rfl (by simp) ?_
    have last : ∀ σ1, (∀ s, s < 10 → σ1 s = upd (upd (upd (upd (upd (upd (upd (args0 [.int .i64 kind, .int .i64 ver, .bool flex]) 0 undef) 1 (.int .i64 ver)) 2 (.bool flex)) 4 (.pointer (some ⟨w.heap.size, 0, none⟩))) 7 (.pointer (some ⟨w1.heap.size, 0, none⟩))) 9 (.bool nl)) 0 undef s ∨ s = 0 ∨ s = 3 ∨ s = 5 ∨ s = 6 ∨ s = 8) → ¬ (kind = 10 ∧ null ≥ 0) →
        wpC P (.seq (.blk [⟨(some (67)), .fad (.tmp 4) 0, none⟩,
      ⟨(some (68)), .ld (.tmp 67), none⟩,
      ⟨(some (69)), .fad (.tmp 4) 7, none⟩,
      ⟨(some (70)), .ld (.tmp 69), none⟩,
      ⟨(some (71)), .mv (.tmp 9), none⟩,
      ⟨(some (72)), .mv (.tmp 1), none⟩,
      ⟨(some (73)), .mv (.tmp 2), none⟩,
      ⟨(some (74)), .ldn (.tmp 7) 5, none⟩,
      ⟨(some (75)), .call (F sValue) [.tmp 68, .tmp 70, .tmp 71, .tmp 72, .tmp 73, .tmp 74], none⟩,
      ⟨(some (8)), .mv (.tmp 75), none⟩])
  (.ret)) (postC [.tmp 8] (BytesR w (fieldP flex kind of null nl (partP ver flex sub) (.mk n s tn l u)))) σ1 w3 := by
      intro σ1 hs hno
      have s1 : σ1 1 = .int .i64 ver := by rcases hs 1 (by omega) with h | h; exact h; omega
      have s2 : σ1 2 = .bool flex := by rcases hs 2 (by omega) with h | h; exact h; omega
      have s4 : σ1 4 = .pointer (some ⟨w.heap.size, 0, none⟩) := by rcases hs 4 (by omega) with h | h; exact h; omega
      have s7 : σ1 7 = .pointer (some ⟨w1.heap.size, 0, none⟩) := by rcases hs 7 (by omega) with h | h; exact h; omega
      have s9 : σ1 9 = .bool nl := by rcases hs 9 (by omega) with h | h; exact h; omega
      have e0 : fieldP flex kind of null nl (partP ver flex sub) (.mk n s tn l u) = valP flex kind (partP ver flex sub) nl (.mk n s tn l u) := by
        simp only [fieldP]; rw [if_neg k11, if_neg hno]
      rw [e0] at hlen ⊢
      rw [wpC_seq, wpC_blk]
      refine go1 (v := .pointer (some ⟨w.heap.size, 0, none⟩)) rfl (by simp [s4]) ?_
      refine go1 (v := .int .i64 kind) rfl (by simp [c1]) ?_
      refine go1 (v := .pointer (some ⟨w.heap.size, 7, none⟩)) rfl (by simp [s4]) ?_
      refine go1 (v := sv) rfl (by simp [c1]) ?_
      refine go1 (v := .bool nl) rfl (by simp [s9]) ?_
      refine go1 (v := .int .i64 ver) rfl (by simp [s1]) ?_
      refine go1 (v := .bool flex) rfl (by simp [s2]) ?_
      refine go1 (v := .agg #[.int .i64 n, tsv, .bool tn, lv, uv]) rfl (by simp [s7, cellsAt_of' hb2.cells (n := 5) rfl]) ?_
      refine goCall rfl (vs := [.int .i64 kind, sv, .bool nl, .int .i64 ver, .bool flex, .agg #[.int .i64 n, tsv, .bool tn, lv, uv]]) (by simp) (hV kind w3 sv css _ _ nl (f1.keep hm03) (f2.keep hm03) (rT.keep hm3) hk hlen) ?_
      rintro e w4 ⟨v, rfl, hd, hm4⟩
      refine ⟨v, rfl, go1 (v := v) rfl (by simp) (wpR_done (ret1 (v := v) (by simp) ⟨v, rfl, hd.low hm03.size, hm03.trans hm4⟩))⟩
    by_cases k10 : kind = 10
    · refine go1 (v := .pointer (some ⟨w.heap.size, 3, none⟩)) (by simp [k10]) (by simp) ?_
      refine go1 (v := .int .i64 null) (by simp [k10]) (by simp [c1]) ?_
      refine go1 (v := .bool (decide (null ≥ 0))) (by simp [k10]) (by simp) ?_
      refine go1 (v := .bool (decide (null ≥ 0))) rfl (by simp [k10]) (wpR_done ?_)
      by_cases n0 : null ≥ 0
      · rw [wpC_cond_t (by simp [n0])]
        have e0 : fieldP flex kind of null nl (partP ver flex sub) (.mk n s tn l u) = if nl then beI 1 (-1) else beI 1 1 ++ partP ver flex sub (.mk n s tn l u) := by
          simp only [fieldP]; rw [if_neg k11, if_pos ⟨k10, n0⟩]
        rw [e0] at hlen ⊢
        unfold ir_sField_3
        rw [wpC_seq, wpC_seq, wpC_blk]
        refine go1 (v := .bool nl) rfl (by simp) (wpR_done ?_)
        cases nl with
        | true =>
          rw [wpC_cond_t (by simp), wpC_seq, wpC_blk]
          refine goCall rfl (vs := [.int .i64 (-1), .int .i64 ((1 : Nat) : Int)]) (by simp) (fixed_call hm hf (by omega)) ?_
          rintro e w4 ⟨v, rfl, hd, hm4⟩
          refine ⟨v, rfl, go1 (v := v) rfl (by simp) (wpR_done ?_)⟩
          repeat first | refine retThen ?_ | refine retBlk ?_
          exact ret1 (v := v) (by simp) ⟨v, rfl, hd.low hm03.size, hm03.trans hm4⟩
        | false =>
          simp only [Bool.false_eq_true, if_false] at hlen ⊢
          rw [wpC_cond_f (by simp), wpC_skip]
          simp only [thenC]
          rw [wpC_seq]
          simp only [wpC]
          have hmd : Mod [] w3 w3.drew := Mod.drew _ _
          have hm0d := hm03.trans hmd
          have c2 := fun k => (hb1.mod hmd (by simp)).cell k
          have hb2d := hb2.mod hmd (by simp)
          refine wpD_of_B (fun i v w' => match i with | 0 => DRaw w' w.heap.size v (beI 1 1) | 6 => DRaw w' w.heap.size v (partP ver flex sub (.mk n s tn l u)) | _ => True) (by
            intro i v w w' h hm
            split at h
            · exact h.keep hm
            · exact h.keep hm
            · trivial) ?_
          refine boCall (vs := [.int .i64 1, .int .i64 ((1 : Nat) : Int)]) rfl (by simp) (fun w' hm' _ => (fixed_call hm hf (by omega)).mono ?_) ?_
          · rintro e w'' ⟨v, rfl, hd, hm2⟩; exact ⟨v, rfl, hm2, hd.low (hm0d.trans hm').size⟩
          rintro v0 -
          refine bo1 (v := .pointer (some ⟨w.heap.size, 7, none⟩)) rfl (by simp) ?_
          refine bo1 (v := sv) rfl (by simp [c2]) ?_
          refine bo1 (v := .int .i64 ver) rfl (by simp) ?_
          refine bo1 (v := .bool flex) rfl (by simp) ?_
          refine bo1 (v := .agg #[.int .i64 n, tsv, .bool tn, lv, uv]) rfl (by simp [cellsAt_of' hb2d.cells (n := 5) rfl]) ?_
          refine boCall (vs := [sv, .int .i64 ver, .bool flex, .agg #[.int .i64 n, tsv, .bool tn, lv, uv]]) rfl (by simp) (fun w' hm' _ => (hp w' sv css _ _ (f1.keep (hm0d.trans hm')) (f2.keep (hm0d.trans hm')) ((rT.keep hm3).keep (hmd.trans hm')) hk (by simp only [List.length_append] at hlen; omega)).mono ?_) ?_
          · rintro e w'' ⟨v, rfl, hd, hm2⟩; exact ⟨v, rfl, hm2, hd.low (hm0d.trans hm').size⟩
          rintro v6 -
          intro w' hm' hkn
          have k0 := known_get (j := 0) (t := 59) hkn (by simp) rfl rfl rfl rfl
          have k6 := known_get (j := 6) (t := 65) hkn (by simp) rfl rfl rfl rfl
          have d0 : DRaw w' w.heap.size v0 (beI 1 1) := by simpa using k0
          have d6 : DRaw w' w.heap.size v6 (partP ver flex sub (.mk n s tn l u)) := by simpa using k6
          refine goC rfl ?_
          refine append_run (n0 := w.heap.size) (v := v0) (by simp) d0 (hm0d.trans hm').size (k := partP ver flex sub (.mk n s tn l u)) (by simpa using d6.src) (by simpa using hlen) fun v' w5 ha => ?_
          refine go1 (v := v') rfl (by simp) (goEnd ?_)
          simp only [thenC]
          exact post1 (v := v') (by simp) ⟨v', rfl, ha.raw, ha.mod0 d0 (hm0d.trans hm')⟩
      · rw [wpC_cond_f (by simp [n0]), wpC_skip]
        simp only [thenC]
        exact last _ (by intro s hs; rcases (by omega : s = 0 ∨ s = 1 ∨ s = 2 ∨ s = 3 ∨ s = 4 ∨ s = 5 ∨ s = 6 ∨ s = 7 ∨ s = 8 ∨ s = 9) with rfl | rfl | rfl | rfl | rfl | rfl | rfl | rfl | rfl | rfl <;> simp) (fun h => n0 h.2)
    · iterate 3 (refine go0 (by simp [k10]) ?_)
      refine go1 (v := .bool false) rfl (by simp [k10]) (wpR_done ?_)
      rw [wpC_cond_f (by simp), wpC_skip]
      simp only [thenC]
      exact last _ (by intro s hs; rcases (by omega : s = 0 ∨ s = 1 ∨ s = 2 ∨ s = 3 ∨ s = 4 ∨ s = 5 ∨ s = 6 ∨ s = 7 ∨ s = 8 ∨ s = 9) with rfl | rfl | rfl | rfl | rfl | rfl | rfl | rfl | rfl | rfl <;> simp) (fun h => k10 h.1)
end
end Go.Msk

namespace Go.Msk
open Go.RowKit
set_option maxRecDepth 100000
theorem bodyP_append (ver : Int) (flex : Bool) : ∀ (a b : List FD) (i : Nat) (t : TR), bodyP ver flex (a ++ b) i t = bodyP ver flex a i t ++ bodyP ver flex b (i + a.length) t
  | [], b, i, t => by simp [bodyP]
  | f :: a, b, i, t => by
    rw [List.cons_append, bodyP_cons, bodyP_cons, bodyP_append ver flex a b (i + 1) t, List.append_assoc]
    congr 3
    simp; omega
theorem bodyP_snoc {ver : Int} {flex : Bool} {fs : List FD} {t : TR} {j : Nat} {f : FD} (h : fs[j]? = some f) :
    bodyP ver flex (fs.take (j + 1)) 0 t = bodyP ver flex (fs.take j) 0 t ++ (if f.tag < 0 ∧ f.hasV ver = true then f.enc ver flex (t.at j) else []) := by
  have hl : j < fs.length := (List.getElem?_eq_some_iff.1 h).1
  rw [take_succ_of h, bodyP_append, bodyP_cons]
  have e : 0 + (fs.take j).length = j := by simp; omega
  rw [e]; simp [bodyP]
theorem bodyP_take_le (ver : Int) (flex : Bool) (fs : List FD) (t : TR) (j : Nat) : (bodyP ver flex (fs.take j) 0 t).length ≤ (bodyP ver flex fs 0 t).length := by
  have : bodyP ver flex fs 0 t = bodyP ver flex (fs.take j) 0 t ++ bodyP ver flex (fs.drop j) (0 + (fs.take j).length) t := by rw [← bodyP_append, List.take_append_drop]
  rw [this, List.length_append]; omega
theorem knownP_none {fs : List FD} (h : ∀ f ∈ fs, f.tag < 0) : knownP fs = 0 := by
  have : ∀ (l : List FD), (∀ f ∈ l, f.tag < 0) → l.foldl (fun n f => if f.tag ≥ 0 then max n (f.tag.toNat + 1) else n) 0 = 0 := by
    intro l
    induction l with
    | nil => intro _; rfl
    | cons f l ih =>
      intro hl
      have := hl f List.mem_cons_self
      simp only [List.foldl_cons]
      rw [if_neg (by omega)]
      exact ih fun g hg => hl g (List.mem_cons_of_mem _ hg)
  exact this fs h
theorem insU_kok {k : Nat} {b : List UInt8} (hk : k < 4294967296) : ∀ {l : List (Nat × List UInt8)}, (∀ p ∈ l, p.1 < 4294967296) → ∀ p ∈ insU k b l, p.1 < 4294967296
  | [], _, p, hp => by simp [insU] at hp; subst hp; exact hk
  | (k', b') :: r, h, p, hp => by
    have h1 := h (k', b') List.mem_cons_self
    have h2 : ∀ p ∈ r, p.1 < 4294967296 := fun p hp => h p (List.mem_cons_of_mem _ hp)
    simp only [insU] at hp
    split at hp
    · rcases List.mem_cons.1 hp with rfl | hp
      · exact h1
      · exact insU_kok hk h2 p hp
    · split at hp
      · exact h p hp
      · rcases List.mem_cons.1 hp with rfl | hp
        · exact hk
        · exact h p hp
theorem unknownP_kok {fs : List FD} {u : List (Nat × List UInt8)} (h : ∀ p ∈ u, p.1 < 4294967296) : ∀ p ∈ unknownP fs u, p.1 < 4294967296 := by
  have : ∀ (l out : List (Nat × List UInt8)), (∀ p ∈ l, p.1 < 4294967296) → (∀ p ∈ out, p.1 < 4294967296) → ∀ p ∈ l.foldl (unkStep (knownP fs)) out, p.1 < 4294967296 := by
    intro l
    induction l with
    | nil => intro out _ h2; exact h2
    | cons t l ih =>
      intro out h1 h2
      simp only [List.foldl_cons]
      refine ih _ (fun p hp => h1 p (List.mem_cons_of_mem _ hp)) ?_
      unfold unkStep
      split
      · exact h2
      · exact insU_kok (h1 t List.mem_cons_self) h2
  exact this _ [] (fun p hp => h p (List.mem_of_mem_take hp)) (by simp)
theorem unknownP_length (fs : List FD) (u : List (Nat × List UInt8)) : (unknownP fs u).length ≤ 32767 := by
  have := unk_length (knownP fs) (u.take 32767) []
  unfold unknownP
  simp at this ⊢; omega
theorem SlC.app {N : Nat} {w w' : World} {v x x' : Value} {n : Nat} {cs : List Value} {l l' : List UInt8} (h : SlC (fun b => b < N) w v n cs) (ha : AppD N w x w' x' l') (hd : DRaw w N x l) : SlC (fun b => b < N) w' v n cs :=
  h.mod ha.mod (fun b hb hc => by have := (hd.own (b := b) (by simpa using hb)).1; omega) fun _ _ h => h
section
variable {P : Program} {F : Nat → Nat}
attribute [local simp] gOk updo upd ev RK.val? isShift intBin Addr.add_mk args0 Value.cells undef
theorem part_field (hm : P.follows .mixedOrders = true) (hh : liftF P (F sHas) = some (ir_sHas F)) (ha : liftF P (F sAt) = some (ir_sAt F))
    {w0 w : World} {tb j n c : Nat} {ver : Int} {flex : Bool} {f : FD} {fcs tcs : List Value} {t : TR} {σ : Sl} {a : Addr} {out : List UInt8} {Q : Exit → Sl → World → Prop}
    (hm0 : Mod [] w0 w) (hbt : Blk w0 tb tcs) (hrf : RepF anyB w0 f fcs) (hrt : RepT anyB w0 t tcs) (hk : t.kok) (hF : FieldC P F ver flex f) (htag : f.tag < 0)
    (h1 : σ 1 = .int .i64 ver) (h2 : σ 2 = .bool flex) (h7 : σ 7 = .pointer (some ⟨tb, 0, none⟩)) (h21 : σ 21 = .slice (some a) n c) (h23 : σ 23 = .int .i64 (j : Nat)) (hj : j < n) (hcell : cellsAt w0 (a.add (j * 8)) 0 8 = some fcs)
    (h9 : DRaw w w0.heap.size (σ 9) out) (hlen : (out ++ (if f.tag < 0 ∧ f.hasV ver = true then f.enc ver flex (t.at j) else [])).length ≤ lim)
    (hQ : ∀ σ' w', (∀ s, s < 24 → s ≠ 9 → s ≠ 12 → s ≠ 13 → σ' s = σ s) → DRaw w' w0.heap.size (σ' 9) (out ++ (if f.tag < 0 ∧ f.hasV ver = true then f.enc ver flex (t.at j) else [])) → Mod [] w0 w' → Q .normal σ' w') : wpC P (ir_sPart_1 F) Q σ w := by
  unfold ir_sPart_1
  have hcell1 := cellsAt_below hm0.below _ _ _ hcell
  rw [wpC_seq, wpC_blk]
  refine go1 (v := .int .i64 (j : Nat)) rfl (by simp [h23]) ?_
  refine go1 (v := .pointer (some (a.add (j * 8)))) rfl (by simp [h21, h23, hj]) ?_
  refine go1 (v := .agg fcs.toArray) rfl (by simp [hcell1]) ?_
  refine goAlloc fun w2 hb2 hm2 => ?_
  refine go1 (v := .int .i64 (j : Nat)) rfl (by simp) ?_
  refine goSt (b := w.heap.size) (v := .agg fcs.toArray) (by simp) (by simp) hb2 (by simp [hrf.eight]) rfl (by simpa using hrf.oneCell) fun w3 hb3 hm3 => ?_
  have hb3 : Blk w3 w.heap.size fcs := by simpa using hb3
  have hm13 : Mod [] w w3 := Mod.drop (b := w.heap.size) (S := []) (hm2.nil.trans hm3) (Nat.le_refl _)
  have hm03 := hm0.trans hm13
  refine wpR_done ?_
  have c3 := fun k => hb3.cell k
  have ht4 : fcs[4]? = some (.int .i64 f.tag) := by cases hrf; rfl
  rw [wpC_seq, wpC_blk]
  refine go1 (v := .pointer (some ⟨w.heap.size, 4, none⟩)) rfl (by simp) ?_
  refine go1 (v := .int .i64 f.tag) rfl (by simp [c3, ht4]) ?_
  refine go1 (v := .bool true) rfl (by simp [htag]) ?_
  refine go1 (v := .bool true) rfl (by simp) ?_
  refine go1 (v := .agg fcs.toArray) (by simp) (by simp [cellsAt_of' hb3.cells hrf.eight]) ?_
  refine go1 (v := .int .i64 ver) (by simp) (by simp [h1]) ?_
  refine goCall (by simp) (vs := [.agg fcs.toArray, .int .i64 ver]) (by simp) (has_call hm hh (hrf.keep hm03)) ?_
  rintro e w4 ⟨rfl, hm4⟩
  have hm04 := hm03.trans hm4
  refine ⟨_, rfl, ?_⟩
  refine go1 (v := .bool (f.hasV ver)) rfl (by simp [FD.hasV]) (wpR_done ?_)
  cases hhas : f.hasV ver with
  | false =>
    rw [wpC_cond_f (by simp), wpC_skip]
    have e0 : (if f.tag < 0 ∧ f.hasV ver = true then f.enc ver flex (t.at j) else []) = [] := by simp [hhas]
    rw [e0, List.append_nil] at hQ
    refine hQ _ w4 (fun s s1 s2 s3 s4 => ?_) (by simpa using h9.keep (hm13.trans hm4)) hm04
    simp only [updo, upd]
    repeat rw [if_neg (by omega)]
  | true =>
    have e0 : (if f.tag < 0 ∧ f.hasV ver = true then f.enc ver flex (t.at j) else []) = f.enc ver flex (t.at j) := by simp [hhas, htag]
    rw [e0] at hQ hlen
    rw [wpC_cond_t (by simp)]
    simp only [wpC]
    have hmd : Mod [] w0 w4.drew := hm04.trans (Mod.drew _ _)
    have hb4 : Blk w4.drew w.heap.size fcs := (hb3.mod hm4 (by simp)).mod (Mod.drew [] _) (by simp)
    have hbt4 := hbt.mod hmd (by simp)
    refine wpD_of_B (fun i v w' => match i with | 6 => ∃ cs, v = .agg cs.toArray ∧ RepT anyB w' (t.at j) cs | 7 => DRaw w' w0.heap.size v (f.enc ver flex (t.at j)) | _ => True) (by
      intro i v w w' h hm
      split at h
      · obtain ⟨cs, e1, e2⟩ := h; exact ⟨cs, e1, e2.keep hm⟩
      · exact h.keep hm
      · trivial) ?_
    refine bo1 (v := σ 9) rfl (by simp) ?_
    refine bo1 (v := .agg fcs.toArray) rfl (by simp [cellsAt_of' hb4.cells hrf.eight]) ?_
    refine bo1 (v := .int .i64 ver) rfl (by simp [h1]) ?_
    refine bo1 (v := .bool flex) rfl (by simp [h2]) ?_
    refine bo1 (v := .agg tcs.toArray) rfl (by simp [h7, cellsAt_of' hbt4.cells hrt.five]) ?_
    refine bo1 (v := .int .i64 (j : Nat)) rfl (by simp) ?_
    refine boCall (vs := [.agg tcs.toArray, .int .i64 (j : Nat)]) rfl (by simp) (fun w' hm' _ => (at_call hm ha (hrt.keep (hmd.trans hm'))).mono ?_) ?_
    · rintro e w'' ⟨cs, rfl, hr, hm2⟩; exact ⟨_, rfl, hm2, cs, rfl, hr⟩
    rintro v6 ⟨_, cs6, rfl, -⟩
    refine boCall (vs := [.agg fcs.toArray, .int .i64 ver, .bool flex, .agg cs6.toArray]) rfl (by simp) (fun w' hm' hkn => ?_) ?_
    · have hk6 := known_get (j := 6) (t := 42) hkn (by simp) rfl rfl rfl rfl
      obtain ⟨cs, e1, e2⟩ := hk6
      simp only [updo, upd, if_true, Value.agg.injEq, Array.mk.injEq] at e1
      have e1 : cs6 = cs := by simpa using e1
      subst e1
      refine (hF w' fcs (t.at j) cs6 (hrf.keep (hmd.trans hm')) e2 (hk.at j) (by simp only [List.length_append] at hlen; omega)).mono ?_
      rintro e w'' ⟨v, rfl, hd, hm2⟩; exact ⟨v, rfl, hm2, hd.low (hmd.trans hm').size⟩
    rintro v7 -
    intro w' hm' hkn
    have hk7 := known_get (j := 7) (t := 43) hkn (by simp) rfl rfl rfl rfl
    have d7 : DRaw w' w0.heap.size v7 (f.enc ver flex (t.at j)) := by simpa using hk7
    have hdr : DRaw w' w0.heap.size (σ 9) out := h9.keep ((hm13.trans hm4).trans ((Mod.drew _ _).trans hm'))
    have hmw := hmd.trans hm'
    refine goC rfl ?_
    refine append_run (n0 := w0.heap.size) (v := σ 9) (by simp) hdr hmw.size (k := f.enc ver flex (t.at j)) (by simpa using d7.src) (by simpa using hlen) fun v' w5 ha => ?_
    refine go1 (v := v') rfl (by simp) (goEnd ?_)
    refine hQ _ w5 (fun s s1 s2 s3 s4 => ?_) (by simpa using ha.raw) (ha.mod0 hdr hmw)
    simp only [updo, upd]
    repeat rw [if_neg (by omega)]
theorem part_tag (hm : P.follows .mixedOrders = true) (hu : liftF P (F sUvarint) = some (ir_sUvarint F)) (hw : liftF P (F sWhole) = some (ir_sWhole F))
    {w0 w : World} {j n c k : Nat} {b out : List UInt8} {sv : Value} {σ : Sl} {a : Addr} {Q : Exit → Sl → World → Prop} (hm0 : Mod [] w0 w) (h100 : σ 100 = .slice (some a) n c) (h102 : σ 102 = .int .i64 (j : Nat)) (hj : j < n) (hn : n ≤ 32767) (h11 : σ 11 = .int .i64 (j : Nat)) (hk : k < 4294967296)
    (hcell : cellsAt w0 (a.add (j * 2)) 0 2 = some [.int .u32 (k : Nat), sv]) (hsv : SlC anyB w0 sv b.length (u8s b)) (h10 : DRaw w w0.heap.size (σ 10) out) (hlen : (out ++ (uvE k ++ (uvE (wholeP b).length ++ wholeP b))).length ≤ lim)
    (hQ : ∀ σ' w', (∀ s, s < 104 → s ≠ 10 → s ≠ 11 → s ≠ 19 → s ≠ 20 → σ' s = σ s) → σ' 11 = .int .i64 ((j + 1 : Nat) : Int) → DRaw w' w0.heap.size (σ' 10) (out ++ (uvE k ++ (uvE (wholeP b).length ++ wholeP b))) → Mod [] w0 w' → Q .normal σ' w') : wpC P (ir_sPart_5 F) Q σ w := by
  unfold ir_sPart_5
  have hcell1 := cellsAt_below hm0.below _ _ _ hcell
  rw [wpC_seq, wpC_blk]
  refine go1 (v := .pointer (some (a.add (j * 2)))) rfl (by simp [h100, h102, hj]) ?_
  refine go1 (v := .agg #[.int .u32 (k : Nat), sv]) rfl (by simp [hcell1]) ?_
  refine goAlloc fun w1 hb1 hm1 => ?_
  refine goSt (b := w.heap.size) (v := .agg #[.int .u32 (k : Nat), sv]) (by simp) (by simp) hb1 rfl rfl (two_one hsv.one) fun w2 hb2 hm2 => ?_
  have hb2 : Blk w2 w.heap.size [.int .u32 (k : Nat), sv] := by simpa using hb2
  have hm12 : Mod [] w w2 := Mod.drop (b := w.heap.size) (S := []) (hm1.nil.trans hm2) (Nat.le_refl _)
  have hm02 := hm0.trans hm12
  have c2 := fun k => hb2.cell k
  have hsv2 : SlC (fun b => b < w0.heap.size) w2 sv b.length (u8s b) := hsv.lowN.mod hm02 (by simp) fun _ _ h => h
  refine wpR_done ?_
  rw [wpC_seq, wpC_blk]
  refine go1 (v := .pointer (some ⟨w.heap.size, 1, none⟩)) rfl (by simp) ?_
  refine go1 (v := sv) rfl (by simp [c2]) ?_
  refine goCall rfl (vs := [sv]) (by simp) (whole_call hm hw hsv2) ?_
  rintro e w3 ⟨ew, v3, rfl, hv3⟩
  rw [ew]
  refine ⟨v3, rfl, go1 (v := v3) rfl (by simp) (wpR_done ?_)⟩
  obtain ⟨vb, vc, ev3⟩ := hv3.shape
  have hwl : (wholeP b).length ≤ 32767 := by simp [wholeP]; omega
  simp only [List.length_append] at hlen
  rw [wpC_seq, wpC_blk]
  refine go1 (v := σ 10) rfl (by simp) ?_
  refine go1 (v := .pointer (some ⟨w.heap.size, 0, none⟩)) rfl (by simp) ?_
  refine go1 (v := .int .u32 (k : Nat)) rfl (by simp [c2]) ?_
  refine go1 (v := .int .u64 (k : Nat)) rfl (by simp [u64_natS (n := k) (by omega)]) ?_
  refine goCall rfl (vs := [.int .u64 (k : Nat)]) (by simp) (uvarint_call hm hu (by omega)) ?_
  rintro e w4 ⟨v4, rfl, hd4, hm4⟩
  refine ⟨v4, rfl, ?_⟩
  have hm04 := hm02.trans hm4
  have r0 : DRaw w4 w0.heap.size (σ 10) out := h10.keep (hm12.trans hm4)
  refine goC rfl ?_
  refine append_run (n0 := w0.heap.size) (v := σ 10) (by simp) r0 hm04.size (k := uvE k) (by simpa using hd4.src) (by omega) fun v5 w5 ha5 => ?_
  have hm05 := ha5.mod0 r0 hm04
  have hv35 : SlC (fun b => b < w0.heap.size) w5 v3 (wholeP b).length (u8s (wholeP b)) := (hv3.mod hm4 (by simp) fun _ _ h => h).app ha5 r0
  refine go1 (v := v3) rfl (by simp) ?_
  refine go1 (v := .int .i64 ((wholeP b).length : Nat)) rfl (by simp [ev3]) ?_
  refine go1 (v := .int .u64 ((wholeP b).length : Nat)) rfl (by simp [u64_natS (n := (wholeP b).length) (by omega)]) ?_
  refine goCall rfl (vs := [.int .u64 ((wholeP b).length : Nat)]) (by simp) (uvarint_call hm hu (by omega)) ?_
  rintro e w6 ⟨v6, rfl, hd6, hm6⟩
  refine ⟨v6, rfl, ?_⟩
  have r1 := ha5.raw.keep hm6
  refine goC rfl ?_
  refine append_run (n0 := w0.heap.size) (v := v5) (by simp) r1 (hm05.trans hm6).size (k := uvE (wholeP b).length) (by simpa using hd6.src) (by simp only [List.length_append]; omega) fun v7 w7 ha7 => ?_
  have hm07 := ha7.mod0 r1 (hm05.trans hm6)
  have hv37 : SlC (fun b => b < w0.heap.size) w7 v3 (wholeP b).length (u8s (wholeP b)) := (hv35.mod hm6 (by simp) fun _ _ h => h).app ha7 r1
  refine go1 (v := v3) rfl (by simp) ?_
  refine goC rfl ?_
  refine append_run (n0 := w0.heap.size) (v := v7) (by simp) ha7.raw hm07.size (k := wholeP b) (by simpa using hv37.src) (by simp only [List.length_append]; omega) fun v8 w8 ha8 => ?_
  have hm08 := ha8.mod0 ha7.raw hm07
  refine go1 (v := v8) rfl (by simp) (wpR_done ?_)
  rw [wpC_blk]
  refine go1 (v := .int .i64 (j : Nat)) rfl (by simp [h11]) ?_
  refine go1 (v := .int .i64 ((j + 1 : Nat) : Int)) rfl (by
    simp only [RK.val?, ev, updo, upd, if_true, isShift, decide_true, Bool.or_true, intBin]
    rw [show (j : Int) + 1 = ((j + 1 : Nat) : Int) by omega, i64_nat (by omega)]) ?_
  refine go1 (v := .int .i64 ((j + 1 : Nat) : Int)) rfl (by simp) (goEnd ?_)
  refine hQ _ w8 (fun s s1 s2 s3 s4 s5 => ?_) (by simp) (by simpa [List.append_assoc] using ha8.raw) hm08
  simp only [updo, upd]
  repeat rw [if_neg (by omega)]
theorem tagsP_snoc {u : List (Nat × List UInt8)} {j : Nat} {p : Nat × List UInt8} (h : u[j]? = some p) : tagsP (u.take (j + 1)) = tagsP (u.take j) ++ (uvE p.1 ++ (uvE (wholeP p.2).length ++ wholeP p.2)) := flatMap_snoc h
theorem part_call (hm : P.follows .mixedOrders = true) (h : liftF P (F sPart) = some (ir_sPart F)) (hh : liftF P (F sHas) = some (ir_sHas F)) (ha : liftF P (F sAt) = some (ir_sAt F)) (hu : liftF P (F sUvarint) = some (ir_sUvarint F)) (hw : liftF P (F sWhole) = some (ir_sWhole F))
    (hkn : liftF P (F sKnown) = some (ir_sKnown F)) (hun : liftF P (F sUnknown) = some (ir_sUnknown F)) {ver : Int} {flex : Bool} {fs : List FD} (hF : ∀ f ∈ fs, FieldC P F ver flex f) (htag : ∀ f ∈ fs, f.tag < 0) (hfl : fs.length < 2147483648) : PartC P F ver flex fs := by
  intro w v css t ts hv hr ht hk hlen
  have hk5 := ht.five
  unfold ir_sPart at h
  refine call_of h hm (by simp) ?_
  clear h
  rw [wpC_seq, wpC_blk]
  refine goBox (v := .agg ts.toArray) (by simp) fun w1 hb1 hm1 => ?_
  have hb1 : Blk w1 w.heap.size ts := by simpa using hb1
  refine go1 rfl rfl (wpR_done ?_)
  rw [wpC_seq, wpC_blk]
  refine go1 rfl rfl (go1 rfl rfl (wpR_done ?_))
  rw [wpC_seq, wpC_blk]
  refine go1 rfl rfl (wpR_done ?_)
  obtain ⟨vb, vc, ev'⟩ := hv.shape
  rw [wpC_seq, wpC_seq, wpC_blk]
  refine go1 (v := v) rfl (by simp) ?_
  refine go1 (v := .int .i64 fs.length) rfl (by simp [ev']) ?_
  refine go1 rfl rfl (wpR_done ?_)
  have hv1 := hv.keep hm1
  have hr1 := hr.keep hm1
  have ht1 := ht.keep hm1
  have hbody : (bodyP ver flex fs 0 t).length ≤ lim := by unfold partP joinP at hlen; simp only [List.length_append] at hlen; omega
  refine rangeLoop (n := fs.length) (fun j σ w' => σ 21 = v ∧ σ 23 = .int .i64 (j : Nat) ∧ σ 22 = .int .i64 (fs.length : Nat) ∧ σ 0 = v ∧ σ 1 = .int .i64 ver ∧ σ 2 = .bool flex ∧ σ 7 = .pointer (some ⟨w.heap.size, 0, none⟩) ∧ σ 10 = .slice none 0 0 ∧ σ 11 = .int .i64 0 ∧
      DRaw w' w1.heap.size (σ 9) (bodyP ver flex (fs.take j) 0 t) ∧ Mod [] w1 w') (by omega) (by omega) (fun j σ w h => ⟨h.2.1, h.2.2.1⟩) ?_ ?_ ?_
  · exact ⟨by simp, by simp, by simp, by simp, by simp, by simp, by simp, by simp, by simp, by simpa [bodyP] using DRaw.nil w1 _, Mod.refl _ _⟩
  · rintro j σ w2 hj ⟨h21, h23, h22, h0, h1, h2, h7, h10, h11, hd, hm2⟩
    obtain ⟨f, hf⟩ : ∃ f, fs[j]? = some f := ⟨_, List.getElem?_eq_getElem hj⟩
    obtain ⟨fcs, hcs, hrep⟩ := hr1.nth hf
    obtain ⟨a, c, ea, hjn, hcell⟩ := hv1.flat hr1.length hr1.eight hcs
    have hfm := List.mem_of_getElem? hf
    have hsn := bodyP_snoc (ver := ver) (flex := flex) (t := t) hf
    refine part_field (w0 := w1) (n := fs.length) (c := c) (a := a) (f := f) (t := t) hm hh ha hm2 hb1 hrep ht1 hk (hF f hfm) (htag f hfm) (by simp [h1]) (by simp [h2]) (by simp [h7]) (by simp [h21, ea]) (by simp [h23]) hj hcell (by simpa using hd) (by
      rw [← hsn]; exact Nat.le_trans (bodyP_take_le ver flex fs t _) hbody) fun σ' w' hfr hd' hm' => ?_
    rw [← hsn] at hd'
    simp only [rngP]
    have g : ∀ s, s < 24 → s ≠ 9 → s ≠ 12 → s ≠ 13 → σ' s = σ s := fun s s1 s2 s3 s4 => by rw [hfr s s1 s2 s3 s4, upd_ne _ _ (by omega)]
    refine ⟨by rw [g 23 (by omega) (by omega) (by omega) (by omega)]; exact h23, ?_, by simp, ?_, ?_, ?_, ?_, ?_, ?_, ?_, ?_, hm'⟩
    · simp only [upd]; rw [if_neg (by omega), if_neg (by omega), g 21 (by omega) (by omega) (by omega) (by omega)]; exact h21
    · simp only [upd]; rw [if_neg (by omega), if_neg (by omega), g 22 (by omega) (by omega) (by omega) (by omega)]; exact h22
    · simp only [upd]; rw [if_neg (by omega), if_neg (by omega), g 0 (by omega) (by omega) (by omega) (by omega)]; exact h0
    · simp only [upd]; rw [if_neg (by omega), if_neg (by omega), g 1 (by omega) (by omega) (by omega) (by omega)]; exact h1
    · simp only [upd]; rw [if_neg (by omega), if_neg (by omega), g 2 (by omega) (by omega) (by omega) (by omega)]; exact h2
    · simp only [upd]; rw [if_neg (by omega), if_neg (by omega), g 7 (by omega) (by omega) (by omega) (by omega)]; exact h7
    · simp only [upd]; rw [if_neg (by omega), if_neg (by omega), g 10 (by omega) (by omega) (by omega) (by omega)]; exact h10
    · simp only [upd]; rw [if_neg (by omega), if_neg (by omega), g 11 (by omega) (by omega) (by omega) (by omega)]; exact h11
    · simpa [upd] using hd'
  · rintro σ w2 ⟨h21, h23, h22, h0, h1, h2, h7, h10, h11, hd, hm2⟩
    rw [List.take_of_length_le (Nat.le_refl _)] at hd
    have hm02 := hm1.trans hm2
    simp only [thenC]
    rw [wpC_seq, wpC_seq, wpC_blk]
    refine go1 (v := .bool flex) rfl (by simp [h2]) ?_
    refine go1 (v := .bool (!flex)) rfl (by simp) (wpR_done ?_)
    cases flex with
    | false =>
      rw [wpC_cond_t (by simp), wpC_seq, wpC_blk]
      refine go1 (v := σ 9) rfl (by simp) ?_
      refine go1 (v := σ 9) rfl (by simp) (wpR_done ?_)
      repeat first | refine retThen ?_ | refine retBlk ?_
      refine ret1 (v := σ 9) (by simp) ⟨_, rfl, ?_, hm02⟩
      have := hd.low hm1.size
      simpa [partP, joinP] using this
    | true =>
      rw [wpC_cond_f (by simp), wpC_skip]
      simp only [thenC]
      rw [wpC_seq, wpC_seq, wpC_blk]
      refine go1 (v := v) rfl (by simp [h0]) ?_
      refine goCall rfl (vs := [v]) (by simp) (known_call hm hkn (hv.keep hm02) (hr.keep hm02) hfl (fun f hf => by have := htag f hf; omega)) ?_
      rintro e w3 ⟨rfl, hm3⟩
      refine ⟨_, rfl, ?_⟩
      rw [knownP_none htag]
      have hm03 := hm02.trans hm3
      refine go1 (v := .int .i64 0) rfl (by simp [wrap_zero]) ?_
      refine go1 rfl rfl (wpR_done ?_)
      rw [wpC_block, wpC_loop]
      refine ⟨fun σ' w' => w' = w3 ∧ σ' 52 = .int .i64 0 ∧ σ' 51 = .int .i64 0 ∧ σ' 0 = v ∧ σ' 7 = .pointer (some ⟨w.heap.size, 0, none⟩) ∧ σ' 10 = .slice none 0 0 ∧ σ' 11 = .int .i64 0 ∧ σ' 9 = σ 9, fun _ _ => 0, ⟨rfl, by simp, by simp, by simp [h0], by simp [h7], by simp [h10], by simp [h11], by simp⟩, ?_⟩
      rintro σ3 w3' ⟨ew, k52, k51, k0, k7, k10, k11, k9⟩
      rw [ew]
      rw [wpC_seq, wpC_blk]
      refine go1 (v := .bool false) rfl (by simp [k52, k51]) (wpR_done ?_)
      rw [wpC_seq, wpC_cond_f (by simp)]
      refine wpC_exit_out3 ?_
      simp only [thenC]
      rw [wpC_seq, wpC_seq, wpC_blk]
      have hb3 : Blk w3 w.heap.size ts := hb1.mod (hm2.trans hm3) (by simp)
      have c3 := fun k => hb3.cell k
      have ht3 := ht.keep hm03
      cases ht with
      | @mk n s tn l u tsv lv uv tss uss g1 g2 g3 g4 g5 =>
      have hku : ∀ p ∈ u, p.1 < 4294967296 := by simp only [TR.kok] at hk; exact hk.1
      refine go1 (v := v) rfl (by simp [k0]) ?_
      refine go1 (v := .pointer (some ⟨w.heap.size, 4, none⟩)) rfl (by simp [k7]) ?_
      refine go1 (v := uv) rfl (by simp [c3]) ?_
      refine goCall rfl (vs := [v, uv]) (by simp) (unknown_call hm hun hkn (hv.keep hm03) (hr.keep hm03) hfl (fun f hf => by have := htag f hf; omega) (g4.keep hm03) (g5.keep hm03)) ?_
      rintro e w4 ⟨lv4, ucs, rfl, hl4, hu4, hm4⟩
      refine ⟨_, rfl, ?_⟩
      have hm04 := hm03.trans hm4
      have hpl : partP ver true fs (.mk n s tn l u) = bodyP ver true fs 0 (.mk n s tn l u) ++ (uvE (unknownP fs u).length ++ tagsP (unknownP fs u)) := by simp [partP, joinP, TR.u]
      rw [hpl] at hlen ⊢
      have hku' := unknownP_kok (fs := fs) hku
      have hul := unknownP_length fs u
      generalize unknownP fs u = U at hl4 hu4 hlen hku' hul ⊢
      obtain ⟨ub, uc, eu⟩ := hl4.shape
      have hdr : DRaw w4 w1.heap.size (σ 9) (bodyP ver true fs 0 (.mk n s tn l u)) := hd.keep (hm3.trans hm4)
      refine go1 (v := .int .i64 (U.length : Nat)) rfl (by simp [eu]) ?_
      refine go1 rfl rfl (wpR_done ?_)
      refine rangeLoop (n := U.length)
        (fun j σ' w' => σ' 100 = lv4 ∧ σ' 102 = .int .i64 (j : Nat) ∧ σ' 101 = .int .i64 (U.length : Nat) ∧ σ' 11 = .int .i64 (j : Nat) ∧ σ' 9 = σ 9 ∧ DRaw w' w4.heap.size (σ' 10) (tagsP (U.take j)) ∧ Mod [] w4 w')
        (by omega) (by omega) (fun j σ w h => ⟨h.2.1, h.2.2.1⟩) ?_ ?_ ?_
      · exact ⟨by simp, by simp, by simp, by simp [k11], by simp [k9], by simpa [tagsP, k10] using DRaw.nil w4 _, Mod.refl _ _⟩
      · rintro j σ5 w5 hj ⟨q100, q102, q101, q11, q9, qd, qm⟩
        obtain ⟨p, hp⟩ : ∃ p, U[j]? = some p := ⟨_, List.getElem?_eq_getElem hj⟩
        obtain ⟨psv, hps, hpsv⟩ := hu4.nth hp
        obtain ⟨a, c, ea, hjn, hcell⟩ := hl4.flat hu4.length hu4.two hps
        have hpm := List.mem_of_getElem? hp
        have hsn := tagsP_snoc hp
        refine part_tag (w0 := w4) (n := U.length) (c := c) (a := a) (k := p.1) (b := p.2) hm hu hw qm (by simp [q100, ea]) (by simp [q102]) hj hul (by simp [q11]) (hku' p hpm) hcell hpsv (by simpa using qd) (by
          rw [← hsn]
          have := flatMap_take_le (fun p : Nat × List UInt8 => uvE p.1 ++ (uvE (wholeP p.2).length ++ wholeP p.2)) U (j + 1)
          simp only [List.length_append] at hlen
          unfold tagsP at hlen ⊢; omega) fun σ' w' hfr h11' hd' hm' => ?_
        rw [← hsn] at hd'
        simp only [rngP]
        have g : ∀ s, s < 104 → s ≠ 10 → s ≠ 11 → s ≠ 19 → s ≠ 20 → s ≠ 103 → σ' s = σ5 s := fun s s1 s2 s3 s4 s5 s6 => by rw [hfr s s1 s2 s3 s4 s5, upd_ne _ _ s6]
        refine ⟨by rw [g 102 (by omega) (by omega) (by omega) (by omega) (by omega) (by omega)]; exact q102, ?_, by simp, ?_, ?_, ?_, ?_, hm'⟩
        · simp only [upd]; rw [if_neg (by omega), if_neg (by omega), g 100 (by omega) (by omega) (by omega) (by omega) (by omega) (by omega)]; exact q100
        · simp only [upd]; rw [if_neg (by omega), if_neg (by omega), g 101 (by omega) (by omega) (by omega) (by omega) (by omega) (by omega)]; exact q101
        · simp only [upd]; rw [if_neg (by omega), if_neg (by omega)]; exact h11'
        · simp only [upd]; rw [if_neg (by omega), if_neg (by omega), g 9 (by omega) (by omega) (by omega) (by omega) (by omega) (by omega)]; exact q9
        · simpa [upd] using hd'
      · rintro σ5 w5 ⟨q100, q102, q101, q11, q9, qd, qm⟩
        rw [List.take_of_length_le (Nat.le_refl _)] at qd
        have hm05 := hm04.trans qm
        simp only [List.length_append] at hlen
        simp only [thenC]
        rw [wpC_seq, wpC_blk]
        refine go1 (v := σ 9) rfl (by simp [q9]) ?_
        refine go1 (v := .int .i64 (U.length : Nat)) rfl (by simp [q11]) ?_
        refine go1 (v := .int .u64 (U.length : Nat)) rfl (by simp [u64_natS (n := U.length) (by omega)]) ?_
        refine goCall rfl (vs := [.int .u64 (U.length : Nat)]) (by simp) (uvarint_call hm hu (by omega)) ?_
        rintro e w6 ⟨v6, rfl, hd6, hm6⟩
        refine ⟨v6, rfl, ?_⟩
        have r0 := hdr.keep (qm.trans hm6)
        have hm16 : Mod [] w1 w6 := (hm2.trans hm3).trans ((hm4.trans qm).trans hm6)
        refine goC rfl ?_
        refine append_run (n0 := w1.heap.size) (v := σ 9) (by simp) r0 hm16.size (k := uvE U.length) (by simpa using hd6.src) (by omega) fun v7 w7 ha7 => ?_
        have hm17 := ha7.mod0 r0 hm16
        have qd7 : DRaw w7 w4.heap.size (σ5 10) (tagsP U) := (qd.keep hm6).mod ha7.mod fun b hb hc => by
          have h1 := (qd.own hb).1
          have h2 := (hdr.own (b := b) (by simpa using hc)).2
          omega
        refine go1 (v := σ5 10) rfl (by simp) ?_
        refine goC rfl ?_
        refine append_run (n0 := w1.heap.size) (v := v7) (by simp) ha7.raw hm17.size (k := tagsP U) (by simpa using qd7.src) (by simp only [List.length_append]; omega) fun v8 w8 ha8 => ?_
        have hm18 := ha8.mod0 ha7.raw hm17
        refine go1 (v := v8) rfl (by simp) (wpR_done ?_)
        refine ret1 (v := v8) (by simp) ⟨v8, rfl, ?_, hm1.trans hm18⟩
        have := ha8.raw.low hm1.size
        simpa [List.append_assoc] using this
end
end Go.Msk

namespace Go.Msk
open Go.RowKit
set_option maxRecDepth 100000
mutual
/-- No field, of the parts within too, has a tag; the lists of fields are short. -/
def FD.plain : FD → Bool
  | .mk _ _ _ _ tag _ _ sub => decide (tag < 0) && (decide (sub.length < 1000) && FD.plainL sub)
def FD.plainL : List FD → Bool
  | [] => true
  | f :: l => f.plain && FD.plainL l
end
structure SLib (P : Program) (F : Nat → Nat) : Prop where
  mixed : P.follows .mixedOrders = true
  has : liftF P (F sHas) = some (ir_sHas F)
  null : liftF P (F sNull) = some (ir_sNull F)
  whole : liftF P (F sWhole) = some (ir_sWhole F)
  things : liftF P (F sThings) = some (ir_sThings F)
  at_ : liftF P (F sAt) = some (ir_sAt F)
  uvarint : liftF P (F sUvarint) = some (ir_sUvarint F)
  fixed : liftF P (F sFixed) = some (ir_sFixed F)
  width : liftF P (F sWidth) = some (ir_sWidth F)
  counted : liftF P (F sCounted) = some (ir_sCounted F)
  value : liftF P (F sValue) = some (ir_sValue F)
  field : liftF P (F sField) = some (ir_sField F)
  known : liftF P (F sKnown) = some (ir_sKnown F)
  unknown : liftF P (F sUnknown) = some (ir_sUnknown F)
  part : liftF P (F sPart) = some (ir_sPart F)
  write : liftF P (F sWrite) = some (ir_sWrite F)
theorem FD.plainL_mem : ∀ {l : List FD}, FD.plainL l = true → ∀ f ∈ l, f.plain = true
  | [], _, f, h => by simp at h
  | a :: l, hl, f, h => by
    simp only [FD.plainL, Bool.and_eq_true] at hl
    rcases List.mem_cons.1 h with rfl | h
    · exact hl.1
    · exact FD.plainL_mem hl.2 f h
theorem FD.plain.tag {f : FD} (h : f.plain = true) : f.tag < 0 := by
  cases f
  simp only [FD.plain, Bool.and_eq_true, decide_eq_true_eq] at h
  exact h.1
section
variable {P : Program} {F : Nat → Nat}
mutual
theorem FD.fieldC (L : SLib P F) (ver : Int) (flex : Bool) : ∀ f : FD, f.plain = true → FieldC P F ver flex f
  | .mk kind frm to null tag dfl of sub, h => by
    simp only [FD.plain, Bool.and_eq_true, decide_eq_true_eq] at h
    have hp : PartC P F ver flex sub := part_call L.mixed L.part L.has L.at_ L.uvarint L.whole L.known L.unknown (FD.fieldsC L ver flex sub h.2.2) (fun f hf => FD.plain.tag (FD.plainL_mem h.2.2 f hf)) (by omega)
    exact field_call L.mixed L.field L.null L.things L.counted L.uvarint L.fixed (fun k => value_call L.mixed L.value L.whole L.counted L.uvarint L.fixed L.width fun _ => hp) hp
theorem FD.fieldsC (L : SLib P F) (ver : Int) (flex : Bool) : ∀ l : List FD, FD.plainL l = true → ∀ f ∈ l, FieldC P F ver flex f
  | [], _, f, hf => by simp at hf
  | a :: l, h, f, hf => by
    simp only [FD.plainL, Bool.and_eq_true] at h
    rcases List.mem_cons.1 hf with e | hf
    · rw [e]; exact FD.fieldC L ver flex a h.1
    · exact FD.fieldsC L ver flex l h.2 f hf
end
theorem partC_plain (L : SLib P F) (ver : Int) (flex : Bool) {fs : List FD} (h : FD.plainL fs = true) (hl : fs.length < 1000) : PartC P F ver flex fs :=
  part_call L.mixed L.part L.has L.at_ L.uvarint L.whole L.known L.unknown (FD.fieldsC L ver flex fs h) (fun f hf => FD.plain.tag (FD.plainL_mem h f hf)) (by omega)
structure MD where
  fs : List FD
  flex : Int
  deriving Inhabited
def MD.isFlex (m : MD) (ver : Int) : Bool := decide (m.flex ≥ 0) && decide (ver ≥ m.flex)
def writeP (m : MD) (ver : Int) (t : TR) : List UInt8 := partP ver (m.isFlex ver) m.fs t
inductive RepM (ok : Nat → Prop) (w : World) : MD → List Value → Prop
  | mk {fs : List FD} {flex : Int} {v : Value} {css : List (List Value)} : SlC ok w v fs.length css.flatten → RepFL ok w fs css → RepM ok w ⟨fs, flex⟩ [v, .int .i64 flex]
theorem RepM.keep {w w' : World} {m : MD} {cs : List Value} (h : RepM anyB w m cs) (hm : Mod [] w w') : RepM anyB w' m cs := by
  cases h with | mk h1 h2 => exact .mk (h1.keep hm) (h2.keep hm)
attribute [local simp] gOk updo upd ev RK.val? isShift intBin Addr.add_mk args0 Value.cells undef
def WriteC (P : Program) (F : Nat → Nat) (m : MD) (ver : Int) : Prop :=
  ∀ (w : World) (ms : List Value) (t : TR) (ts : List Value), RepM anyB w m ms → RepT anyB w t ts → t.kok → (writeP m ver t).length ≤ lim →
    Calls P (F sWrite) [.agg ms.toArray, .int .i64 ver, .agg ts.toArray].toArray w (BytesR w (writeP m ver t))
theorem write_call (hm : P.follows .mixedOrders = true) (h : liftF P (F sWrite) = some (ir_sWrite F)) {m : MD} {ver : Int} (hp : PartC P F ver (m.isFlex ver) m.fs) : WriteC P F m ver := by
  intro w ms t ts hms ht hk hlen
  cases hms with
  | @mk fs flex v css h1 h2 =>
  have h5 := ht.five
  unfold ir_sWrite at h
  refine call_of h hm (by simp) ?_
  clear h
  rw [wpC_seq, wpC_blk]
  refine goBox (v := .agg #[v, .int .i64 flex]) (by simp) fun w1 hb1 hm1 => ?_
  refine goBox (v := .agg ts.toArray) (by simp) fun w2 hb2 hm2 => ?_
  have hb1 : Blk w2 w.heap.size [v, .int .i64 flex] := Blk.mod (by simpa using hb1) hm2 (by simp)
  have hb2 : Blk w2 w1.heap.size ts := by simpa using hb2
  have hm02 := hm1.trans hm2
  have c1 := fun k => hb1.cell k
  refine go1 rfl rfl (wpR_done ?_)
  rw [wpC_seq, wpC_blk]
  refine go1 (v := .pointer (some ⟨w.heap.size, 0, none⟩)) rfl (by simp) ?_
  refine go1 (v := v) rfl (by simp [c1]) ?_
  refine go1 (v := .int .i64 ver) rfl (by simp) ?_
  refine go1 (v := .pointer (some ⟨w.heap.size, 1, none⟩)) rfl (by simp) ?_
  refine go1 (v := .int .i64 flex) rfl (by simp [c1]) ?_
  refine go1 (v := .bool (decide (flex ≥ 0))) rfl (by simp) ?_
  refine go1 (v := .bool (decide (flex ≥ 0))) rfl (by simp) ?_
  have fin : ∀ σ : Sl, σ 5 = .pointer (some ⟨w1.heap.size, 0, none⟩) → σ 8 = v → σ 9 = .int .i64 ver → σ 18 = .bool (MD.isFlex ⟨fs, flex⟩ ver) → wpR P [⟨(some (19)), .ldn (.tmp 5) 5, none⟩,
      ⟨(some (20)), .call (F sPart) [.tmp 8, .tmp 9, .tmp 18, .tmp 19], none⟩,
      ⟨(some (6)), .mv (.tmp 20), none⟩] σ w2 (thenC (wpC P .ret (postC [.tmp 6] (BytesR w (writeP ⟨fs, flex⟩ ver t)))) (postC [.tmp 6] (BytesR w (writeP ⟨fs, flex⟩ ver t))) .normal) := by
    intro σ k5 k8 k9 k18
    refine go1 (v := .agg ts.toArray) rfl (by simp [k5, cellsAt_of' hb2.cells h5]) ?_
    refine goCall rfl (vs := [v, .int .i64 ver, .bool (MD.isFlex ⟨fs, flex⟩ ver), .agg ts.toArray]) (by simp [k8, k9, k18]) (hp w2 v css t ts (h1.keep hm02) (h2.keep hm02) (ht.keep hm02) hk hlen) ?_
    rintro e w3 ⟨v3, rfl, hd, hm3⟩
    exact ⟨v3, rfl, go1 (v := v3) rfl (by simp) (wpR_done (ret1 (v := v3) (by simp) ⟨v3, rfl, hd.low hm02.size, hm02.trans hm3⟩))⟩
  by_cases e1 : flex ≥ 0
  · refine go1 (v := .int .i64 ver) (by simp [e1]) (by simp) ?_
    refine go1 (v := .pointer (some ⟨w.heap.size, 1, none⟩)) (by simp [e1]) (by simp) ?_
    refine go1 (v := .int .i64 flex) (by simp [e1]) (by simp [c1]) ?_
    refine go1 (v := .bool (decide (ver ≥ flex))) (by simp [e1]) (by simp) ?_
    refine go1 (v := .bool (decide (ver ≥ flex))) rfl (by simp [e1]) ?_
    exact fin _ (by simp) (by simp) (by simp) (by simp [MD.isFlex, e1] <;> rfl)
  · iterate 4 (refine go0 (by simp [e1]) ?_)
    refine go1 (v := .bool false) rfl (by simp [e1]) ?_
    exact fin _ (by simp) (by simp) (by simp) (by simp [MD.isFlex, e1])
theorem writeC_plain (L : SLib P F) {m : MD} {ver : Int} (h : FD.plainL m.fs = true) (hl : m.fs.length < 1000) : WriteC P F m ver := write_call L.mixed L.write (partC_plain L ver _ h hl)
end
end Go.Msk

namespace Go.Msk
open Go.RowKit
set_option maxRecDepth 100000
abbrev NTill (k0 : Nat) (A : World → Prop) : Nat → World → Prop := fun j w => j = k0 → A w
theorem wpD_of_R {P : Program} {l : List DI} {sinks : List RI} {σ : Sl} {w0 : World} {Q : Sl → World → Prop} (S : List Nat) (good A : World → Prop) (k0 : Nat) (Φ : Nat → Value → World → Prop)
    (hst : ∀ j v w w', Φ j v w → Mod S w w' → (good w → good w') → Φ j v w') (hA : A w0)
    (h : walk P l (fun w w' => Mod S w w' ∧ (good w → good w')) Φ (NTill k0 A) w0 (fun σ' => ∀ w, (Mod S w0 w ∧ (good w0 → good w)) → known l Φ (List.range l.length) σ' w → wpR P sinks σ' w Q) 0 l σ) : wpD P l sinks σ w0 Q :=
  ⟨_, Φ, NTill k0 A, fun _ => ⟨Mod.refl _ _, id⟩, fun _ _ _ h1 h2 => ⟨h1.1.trans h2.1, fun h => h2.2 (h1.2 h)⟩, fun j v w w' h1 h2 => hst j v w w' h1 h2.1 h2.2, fun _ _ => hA, h⟩
section
variable {P : Program} {l : List DI} {R : World → World → Prop} {Φ : Nat → Value → World → Prop} {N : Nat → World → Prop} {w0 : World} {E : Sl → Prop} {n : Nat} {k : RK} {d : Option Nat} {ds : List Nat} {r : List DI} {σ : Sl}
theorem wn_step {v : Value} (hv : ∀ w, R w0 w → k.val? σ w = some v) (h : walk P l R Φ N w0 E (n + 1) r (updo σ d v)) : walk P l R Φ N w0 E n (⟨⟨d, k, none⟩, false, ds⟩ :: r) σ := by
  simp only [walk, gOk, if_true, Bool.false_eq_true, if_false]
  exact ⟨v, fun w hw _ => hv w hw, h⟩
theorem wn_node (hn : ∀ w, R w0 w → N n w → known l Φ ds σ w → k.run P σ w fun v w' => R w w' ∧ Φ n v w' ∧ ∀ j, j ≠ n → N j w → N j w') (h : ∀ v, (∃ w, Φ n v w) → walk P l R Φ N w0 E (n + 1) r (updo σ d v)) : walk P l R Φ N w0 E n (⟨⟨d, k, none⟩, true, ds⟩ :: r) σ := by
  simp only [walk, gOk, if_true]
  exact ⟨fun w h1 h0 h2 => hn w h1 h0 h2, h⟩
end
section
variable {P : Program} {F : Nat → Nat}
attribute [local simp] gOk updo upd ev RK.val? isShift intBin Addr.add_mk args0 Value.cells undef
end
end Go.Msk
