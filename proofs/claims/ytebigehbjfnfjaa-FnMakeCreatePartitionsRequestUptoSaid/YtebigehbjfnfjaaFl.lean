/- A small language of resolved operations, and what the generic and the generated functions do in it (part 12). -/
import Derived.Test.YtebigehbjfnfjaaFk

namespace Go.Msk
open Go.RowKit
set_option maxRecDepth 100000
structure LibA (P : Program) (F : Nat → Nat) (has : Nat → Bool) : Prop where
  mixed : P.follows .mixedOrders = true
  kAppendBool : has Msk.kAppendBool = true → liftF P (F Msk.kAppendBool) = some (ir_kAppendBool F)
  kAppendInt8 : has Msk.kAppendInt8 = true → liftF P (F Msk.kAppendInt8) = some (ir_kAppendInt8 F)
  kAppendInt16 : has Msk.kAppendInt16 = true → liftF P (F Msk.kAppendInt16) = some (ir_kAppendInt16 F)
  kAppendUint16 : has Msk.kAppendUint16 = true → liftF P (F Msk.kAppendUint16) = some (ir_kAppendUint16 F)
  kAppendInt32 : has Msk.kAppendInt32 = true → liftF P (F Msk.kAppendInt32) = some (ir_kAppendInt32 F)
  kAppendUint32 : has Msk.kAppendUint32 = true → liftF P (F Msk.kAppendUint32) = some (ir_kAppendUint32 F)
  kAppendInt64 : has Msk.kAppendInt64 = true → liftF P (F Msk.kAppendInt64) = some (ir_kAppendInt64 F)
  kAppendUint64 : has Msk.kAppendUint64 = true → liftF P (F Msk.kAppendUint64) = some (ir_kAppendUint64 F)
  kAppendUuid : has Msk.kAppendUuid = true → liftF P (F Msk.kAppendUuid) = some (ir_kAppendUuid F)
  kAppendUvarint : has Msk.kAppendUvarint = true → liftF P (F Msk.kAppendUvarint) = some (ir_kAppendUvarint F)
  kUvarintLen : has Msk.kUvarintLen = true → liftF P (F Msk.kUvarintLen) = some (ir_kUvarintLen F)
  bLen32 : has Msk.bLen32 = true → liftF P (F Msk.bLen32) = some (ir_bLen32 F)
  kAppendString : has Msk.kAppendString = true → liftF P (F Msk.kAppendString) = some (ir_kAppendString F)
  kAppendCompactString : has Msk.kAppendCompactString = true → liftF P (F Msk.kAppendCompactString) = some (ir_kAppendCompactString F)
  kAppendNullableString : has Msk.kAppendNullableString = true → liftF P (F Msk.kAppendNullableString) = some (ir_kAppendNullableString F)
  kAppendCompactNullableString : has Msk.kAppendCompactNullableString = true → liftF P (F Msk.kAppendCompactNullableString) = some (ir_kAppendCompactNullableString F)
  kAppendBytes : has Msk.kAppendBytes = true → liftF P (F Msk.kAppendBytes) = some (ir_kAppendBytes F)
  kAppendCompactBytes : has Msk.kAppendCompactBytes = true → liftF P (F Msk.kAppendCompactBytes) = some (ir_kAppendCompactBytes F)
  kAppendArrayLen : has Msk.kAppendArrayLen = true → liftF P (F Msk.kAppendArrayLen) = some (ir_kAppendArrayLen F)
  kAppendCompactArrayLen : has Msk.kAppendCompactArrayLen = true → liftF P (F Msk.kAppendCompactArrayLen) = some (ir_kAppendCompactArrayLen F)
  kAppendNullableArrayLen : has Msk.kAppendNullableArrayLen = true → liftF P (F Msk.kAppendNullableArrayLen) = some (ir_kAppendNullableArrayLen F)
  kAppendCompactNullableArrayLen : has Msk.kAppendCompactNullableArrayLen = true → liftF P (F Msk.kAppendCompactNullableArrayLen) = some (ir_kAppendCompactNullableArrayLen F)
  tLen : has Msk.tLen = true → liftF P (F Msk.tLen) = some (ir_tLen F)
  tAppendEach : has Msk.tAppendEach = true → liftF P (F Msk.tAppendEach) = some (ir_tAppendEach F)
  tAppendEach1 : has Msk.tAppendEach1 = true → liftF P (F Msk.tAppendEach1) = some (ir_tAppendEach1 F)
  body1 : has Msk.tAppendEach1 = true → hasBody P (F Msk.tAppendEach1) = true
  tEach : has Msk.tEach = true → liftF P (F Msk.tEach) = some (ir_tEach F)
  sort : has Msk.tEach = true → SortC P (F sortSlice) (F tEach1) (F tyU32s)
def apF (F : Nat → Nat) (has : Nat → Bool) (p : PK) (x : Bool) (f : FuncId) : Bool :=
  let ok (c : Nat) (l : List Nat) : Bool := f == F c && hasAll has (c :: l)
  let uv := [kAppendUvarint, kUvarintLen, bLen32]
  match p with
  | .bool => ok kAppendBool []
  | .i8 => ok kAppendInt8 []
  | .i16 => ok kAppendInt16 [kAppendUint16]
  | .u16 => ok kAppendUint16 []
  | .i32 => ok kAppendInt32 [kAppendUint32]
  | .i64 => ok kAppendInt64 [kAppendUint64]
  | .str => if x then ok kAppendCompactString uv else ok kAppendString [kAppendInt16, kAppendUint16]
  | .nstr => if x then ok kAppendCompactNullableString (kAppendCompactString :: uv) else ok kAppendNullableString [kAppendString, kAppendInt16, kAppendUint16]
  | .byt => if x then ok kAppendCompactBytes uv else ok kAppendBytes [kAppendInt32, kAppendUint32]
  | _ => false
def apL (F : Nat → Nat) (has : Nat → Bool) (nul x : Bool) (f : FuncId) : Bool :=
  let ok (c : Nat) (l : List Nat) : Bool := f == F c && hasAll has (c :: l)
  let uv := [kAppendUvarint, kUvarintLen, bLen32]
  if nul then (if x then ok kAppendCompactNullableArrayLen uv else ok kAppendNullableArrayLen [kAppendInt32, kAppendUint32])
  else (if x then ok kAppendCompactArrayLen uv else ok kAppendArrayLen [kAppendInt32, kAppendUint32])
def Ap.okB (F : Nat → Nat) (has : Nat → Bool) (hf x : Bool) : Ap → Bool
  | .nil => true
  | .prm _ _ p a rest => (!a.fx || hf) && apF F has p x (a.sel x) && rest.okB F has hf x
  | .uid _ f rest => (f == F kAppendUuid && has kAppendUuid) && rest.okB F has hf x
  | .lsp _ nul ln p a rest => (!ln.fx || hf) && (!a.fx || hf) && apL F has nul x (ln.sel x) && apF F has p x (a.sel x) && rest.okB F has hf x
  | .lss _ nul ln _ body rest => (!ln.fx || hf) && apL F has nul x (ln.sel x) && body.okB F has hf x && rest.okB F has hf x
  | .sub _ _ body rest => body.okB F has hf x && rest.okB F has hf x
  | .tags ln uv ap => hf && (ln == F tLen && uv == F kAppendUvarint && ap == F tAppendEach && hasAll has [tLen, kAppendUvarint, kUvarintLen, bLen32, tAppendEach, tAppendEach1, tEach])
section
variable {P : Program} {F : Nat → Nat} {has : Nat → Bool} {f : FuncId}
theorem imp_of {a b : Bool} (h : (!a || b) = true) (ha : a = true) : b = true := by
  rw [ha] at h; simpa using h
theorem spl_of {c : Nat} {l : List Nat} (h : (f == F c && hasAll has (c :: l)) = true) : f = F c ∧ ∀ y ∈ c :: l, has y = true := by
  simp only [Bool.and_eq_true, beq_iff_eq] at h
  exact ⟨h.1, hasAll_mem h.2⟩
theorem apF_of (L : LibA P F has) {p : PK} {x : Bool} (h : apF F has p x f = true) : ApF P f p x := by
  have hm := L.mixed
  cases p with
  | bool => obtain ⟨rfl, q⟩ := spl_of h; exact ApF.bool (fun b => (kAppendBool_call hm (L.kAppendBool (q _ (by simp)))).k fun _ _ _ h => h) x
  | i8 => obtain ⟨rfl, q⟩ := spl_of h; exact ApF.int (.inl ⟨rfl, rfl, rfl⟩) fun n => (kAppendInt8_call hm (L.kAppendInt8 (q _ (by simp)))).k fun _ _ _ h => h
  | i16 => obtain ⟨rfl, q⟩ := spl_of h; exact ApF.int (.inr (.inl ⟨rfl, rfl, rfl⟩)) fun n => (kAppendInt16_call hm (L.kAppendInt16 (q _ (by simp))) (L.kAppendUint16 (q _ (by simp)))).k fun _ _ _ h => h
  | u16 => obtain ⟨rfl, q⟩ := spl_of h; exact ApF.u16 fun n h1 h2 => (kAppendUint16_call hm (L.kAppendUint16 (q _ (by simp))) ⟨h1, h2⟩).k fun _ _ _ h => h
  | i32 => obtain ⟨rfl, q⟩ := spl_of h; exact ApF.int (.inr (.inr (.inl ⟨rfl, rfl, rfl⟩))) fun n => (kAppendInt32_call hm (L.kAppendInt32 (q _ (by simp))) (L.kAppendUint32 (q _ (by simp)))).k fun _ _ _ h => h
  | i64 => obtain ⟨rfl, q⟩ := spl_of h; exact ApF.int (.inr (.inr (.inr ⟨rfl, rfl, rfl⟩))) fun n => (kAppendInt64_call hm (L.kAppendInt64 (q _ (by simp))) (L.kAppendUint64 (q _ (by simp)))).k fun _ _ _ h => h
  | str =>
    cases x with
    | true => obtain ⟨rfl, q⟩ := spl_of h; exact ApF.str fun s hs => by simpa using kAppendCompactString_call hm (L.kAppendCompactString (q _ (by simp))) (L.kAppendUvarint (q _ (by simp))) (L.kUvarintLen (q _ (by simp))) (L.bLen32 (q _ (by simp))) hs
    | false => obtain ⟨rfl, q⟩ := spl_of h; exact ApF.str fun s hs => by simpa using kAppendString_call hm (L.kAppendString (q _ (by simp))) (L.kAppendInt16 (q _ (by simp))) (L.kAppendUint16 (q _ (by simp)))
  | nstr =>
    cases x with
    | true => obtain ⟨rfl, q⟩ := spl_of h; exact ApF.nstr fun o ho => kAppendCompactNullableString_call hm (L.kAppendCompactNullableString (q _ (by simp))) (L.kAppendCompactString (q _ (by simp))) (L.kAppendUvarint (q _ (by simp))) (L.kUvarintLen (q _ (by simp))) (L.bLen32 (q _ (by simp))) ho
    | false => obtain ⟨rfl, q⟩ := spl_of h; exact ApF.nstr fun o ho => kAppendNullableString_call hm (L.kAppendNullableString (q _ (by simp))) (L.kAppendString (q _ (by simp))) (L.kAppendInt16 (q _ (by simp))) (L.kAppendUint16 (q _ (by simp)))
  | byt =>
    cases x with
    | true => obtain ⟨rfl, q⟩ := spl_of h; exact ApF.byt fun s hs => by simpa using kAppendCompactBytes_call hm (L.kAppendCompactBytes (q _ (by simp))) (L.kAppendUvarint (q _ (by simp))) (L.kUvarintLen (q _ (by simp))) (L.bLen32 (q _ (by simp))) hs
    | false => obtain ⟨rfl, q⟩ := spl_of h; exact ApF.byt fun s hs => by simpa using kAppendBytes_call hm (L.kAppendBytes (q _ (by simp))) (L.kAppendInt32 (q _ (by simp))) (L.kAppendUint32 (q _ (by simp)))
  | u32 => simp [apF] at h
  | uuid => simp [apF] at h
  | nbyt => simp [apF] at h
theorem apL_of (L : LibA P F has) {nul x : Bool} (h : apL F has nul x f = true) : ApL P f nul x := by
  have hm := L.mixed
  intro w0 w dv l n isnil hn hm0 hd hl
  cases nul with
  | true =>
    cases x with
    | true =>
      obtain ⟨rfl, q⟩ := spl_of h
      have k := kAppendCompactNullableArrayLen_call hm (L.kAppendCompactNullableArrayLen (q _ (by simp))) (L.kAppendUvarint (q _ (by simp))) (L.kUvarintLen (q _ (by simp))) (L.bLen32 (q _ (by simp))) (n := n) (null := isnil) hn
      have e : encLen true true isnil n = if isnil then [0] else uvE (n + 1) := by simp [encLen]
      rw [e] at hl ⊢
      exact k w0 w dv l hm0 hd hl
    | false =>
      obtain ⟨rfl, q⟩ := spl_of h
      have k := kAppendNullableArrayLen_call hm (L.kAppendNullableArrayLen (q _ (by simp))) (L.kAppendInt32 (q _ (by simp))) (L.kAppendUint32 (q _ (by simp))) (n := n) (null := isnil)
      have e : encLen true false isnil n = if isnil then beI 4 (-1) else beI 4 n := by simp [encLen]
      rw [e] at hl ⊢
      exact k w0 w dv l hm0 hd hl
  | false =>
    cases x with
    | true =>
      obtain ⟨rfl, q⟩ := spl_of h
      have k := kAppendCompactArrayLen_call hm (L.kAppendCompactArrayLen (q _ (by simp))) (L.kAppendUvarint (q _ (by simp))) (L.kUvarintLen (q _ (by simp))) (L.bLen32 (q _ (by simp))) (n := n) hn
      have e : encLen false true isnil n = uvE (n + 1) := by simp [encLen]
      rw [e] at hl ⊢
      exact k w0 w dv _ l hm0 hd hl rfl
    | false =>
      obtain ⟨rfl, q⟩ := spl_of h
      have k := (kAppendArrayLen_call hm (L.kAppendArrayLen (q _ (by simp))) (L.kAppendInt32 (q _ (by simp))) (L.kAppendUint32 (q _ (by simp))) (n := (n : Int))).k fun _ _ _ h => h
      have e : encLen false false isnil n = beI 4 n := by simp [encLen]
      rw [e] at hl ⊢
      exact k w0 w dv _ l hm0 hd hl rfl
theorem Ap.ok_of (L : LibA P F has) {hf x : Bool} : ∀ ap : Ap, ap.okB F has hf x = true → ap.Ok P hf x := by
  intro ap
  induction ap with
  | nil => intro _; trivial
  | prm vc cp p a rest ih =>
    intro h
    simp only [Ap.okB, Bool.and_eq_true] at h
    exact ⟨imp_of h.1.1, apF_of L h.1.2, ih h.2⟩
  | uid vc ff rest ih =>
    intro h
    simp only [Ap.okB, Bool.and_eq_true, beq_iff_eq] at h
    obtain ⟨⟨rfl, h1⟩, h2⟩ := h
    exact ⟨fun u hu => kAppendUuid_call L.mixed (L.kAppendUuid h1) hu, ih h2⟩
  | lsp vc nul ln p a rest ih =>
    intro h
    simp only [Ap.okB, Bool.and_eq_true] at h
    exact ⟨imp_of h.1.1.1.1, imp_of h.1.1.1.2, apL_of L h.1.1.2, apF_of L h.1.2, ih h.2⟩
  | lss vc nul ln sz body rest ihb ih =>
    intro h
    simp only [Ap.okB, Bool.and_eq_true] at h
    exact ⟨imp_of h.1.1.1, apL_of L h.1.1.2, ihb h.1.2, ih h.2⟩
  | sub vc sz body rest ihb ih =>
    intro h
    simp only [Ap.okB, Bool.and_eq_true] at h
    exact ⟨ihb h.1, ih h.2⟩
  | tags ln uv ap =>
    intro h
    simp only [Ap.okB, Bool.and_eq_true, beq_iff_eq] at h
    obtain ⟨h0, ⟨⟨rfl, rfl⟩, rfl⟩, h1⟩ := h
    have q := hasAll_mem h1
    refine ⟨h0, fun w B o v m hc hM => tLen_call L.mixed (L.tLen (q _ (by simp))) hc hM, fun n hn => (kAppendUvarint_call L.mixed (L.kAppendUvarint (q _ (by simp))) (L.kUvarintLen (q _ (by simp))) (L.bLen32 (q _ (by simp))) hn).k fun _ _ _ h => h, ?_⟩
    intro w0 w B o dv v l m hm0 hd hl hc hM hml hmv
    exact tAppendEach_call L.mixed (L.tAppendEach (q _ (by simp))) (L.tAppendEach1 (q _ (by simp))) (L.body1 (q _ (by simp))) (L.tEach (q _ (by simp))) (L.sort (q _ (by simp))) (L.kAppendUvarint (q _ (by simp))) (L.kUvarintLen (q _ (by simp))) (L.bLen32 (q _ (by simp))) hm0 hd hl hc hM hml hmv
structure BehFs where
  mx : FuncId
  newp : FuncId
  maxv : FuncId
  setv : FuncId
  rf : FuncId
  rd : FuncId
  ap : FuncId
  beh : FuncId
  sm : FuncId
variable {M : BehFs} {T : Top} {A : ATop} {fx : List FX} {flex : Int} {z : List Value} {most : Nat}
theorem ATop.ok_all (L : LibA P F has) (h : (A.ap.okB F has A.flex.isSome false && (A.flex.isNone || A.ap.okB F has A.flex.isSome true)) = true) (ver : Int) : A.ap.Ok P A.flex.isSome (A.x ver) := by
  simp only [Bool.and_eq_true, Bool.or_eq_true] at h
  cases hx : A.x ver with
  | false => exact Ap.ok_of L _ h.1
  | true =>
    refine Ap.ok_of L _ (h.2.resolve_left ?_)
    unfold ATop.x at hx
    cases hf : A.flex with
    | none => rw [hf] at hx; simp at hx
    | some n => simp
end
end Go.Msk

namespace Go.Msk
open Go.RowKit
set_option maxRecDepth 100000
structure UQO (N : Nat) (w0 w : World) (lv : Value) (out : List (Nat × List UInt8)) (ucs : List (List Value)) : Prop where
  raw : LRaw2 w w0.heap.size lv ucs
  rep : RepU (fun b => b < N) w out ucs
  hN : N ≤ w0.heap.size
  mod : Mod [] w0 w
theorem UQO.keep {N : Nat} {w0 w w' : World} {lv : Value} {out : List (Nat × List UInt8)} {ucs : List (List Value)} (h : UQO N w0 w lv out ucs) (hm : Mod [] w w') : UQO N w0 w' lv out ucs :=
  ⟨h.raw.mod hm (by simp), h.rep.mod hm (by simp) fun _ _ h => h, h.hN, h.mod.trans hm⟩
theorem UQO.repN {N : Nat} {w0 w : World} {lv : Value} {out : List (Nat × List UInt8)} {ucs : List (List Value)} (h : UQO N w0 w lv out ucs) : RepU (fun b => b < w0.heap.size) w out ucs :=
  h.rep.mod (Mod.refl [] _) (by simp) fun _ _ hb => Nat.lt_of_lt_of_le hb h.hN
section
variable {P : Program} {F : Nat → Nat}
attribute [local simp] gOk updo upd ev RK.val? isShift intBin Addr.add_mk args0 Value.cells undef
theorem unk_bodyO {N : Nat} {σ : Sl} {w0 w : World} {j least n k : Nat} {lv sv : Value} {b : List UInt8} {ucs : List (List Value)} {out : List (Nat × List UInt8)} {a : Addr} {c : Nat} {Q : Exit → Sl → World → Prop} (h5 : σ 5 = .int .u32 (least : Nat)) (h6 : σ 6 = lv) (h17 : σ 17 = .slice (some a) n c) (h19 : σ 19 = .int .i64 (j : Nat)) (hj : j < n)
    (hq : UQO N w0 w lv out ucs) (hcell : cellsAt w (a.add (j * 2)) 0 2 = some [.int .u32 (k : Nat), sv]) (hsv : SlC (fun b => b < N) w sv b.length (u8s b)) (hout : out.length < 2147483647)
    (hQ : ∀ σ' w' lv' ucs', (∀ s, s < 23 → s ≠ 6 → s ≠ 8 → s ≠ 9 → s ≠ 10 → s ≠ 21 → s ≠ 22 → σ' s = σ s) → σ' 6 = lv' → UQO N w0 w' lv' (unkStep least out (k, b)) ucs' → Q (.exit 1) σ' w' ∧ Q .normal σ' w') : wpC P (ir_sUnknown_4 F) Q σ w := by
  unfold ir_sUnknown_4
  have hN := hq.hN
  rw [wpC_seq, wpC_blk]
  refine go1 (v := .pointer (some (a.add (j * 2)))) rfl (by simp [h17, h19, hj]) ?_
  refine go1 (v := .agg #[.int .u32 (k : Nat), sv]) rfl (by simp [hcell]) ?_
  refine goAlloc fun w1 hb1 hm1 => ?_
  refine goSt (b := w.heap.size) (v := .agg #[.int .u32 (k : Nat), sv]) (by simp) (by simp) hb1 rfl rfl (two_one hsv.one) fun w2 hb2 hm2 => ?_
  have hm02 : Mod [] w w2 := Mod.drop (b := w.heap.size) (S := []) (hm1.nil.trans hm2) (Nat.le_refl _)
  have hq2 := hq.keep hm02
  have hsv2 : SlC (fun b => b < N) w2 sv b.length (u8s b) := hsv.mod hm02 (by simp) fun _ _ h => h
  refine wpR_done ?_
  rw [wpC_seq, wpC_blk]
  refine go1 rfl rfl (wpR_done ?_)
  rw [wpC_seq]
  refine unk_find (k := k) (tb := w.heap.size) (sv := sv) (lv := lv) (by simp [h6]) (by simp) (by simp) hq2.raw hq2.repN (by simpa using hb2) (by omega) fun σ1 w3 hfr h9 hm3 => ?_
  have hq3 := hq2.keep hm3
  have f5 : σ1 5 = .int .u32 (least : Nat) := by rw [hfr 5 (by omega) (by omega)]; simp [h5]
  have f6 : σ1 6 = lv := by rw [hfr 6 (by omega) (by omega)]; simp [h6]
  have f8 : σ1 8 = .pointer (some ⟨w.heap.size, 0, none⟩) := by rw [hfr 8 (by omega) (by omega)]; simp
  simp only [thenC]
  rw [wpC_seq, wpC_seq]
  have hb3 : Blk w3 w.heap.size [.int .u32 (k : Nat), sv] := Blk.mod (by simpa using hb2) hm3 (by simp)
  refine unk_skip (least := least) (k := k) (tb := w.heap.size) (sv := sv) (lv := lv) f5 f6 f8 h9 hq3.raw hq3.repN hb3 fun σ2 w4 hfr2 h58 hm4 => ?_
  have hq4 := hq3.keep hm4
  have hb4 := hb3.mod hm4 (by simp)
  simp only [thenC]
  have hfr12 : ∀ s, s < 23 → s ≠ 8 → s ≠ 9 → s ≠ 21 → s ≠ 22 → σ2 s = σ s := by
    intro s h1 h2 h3 h4 h5
    rw [hfr2 s h1, hfr s h1 h3]
    simp only [updo, upd]
    repeat rw [if_neg (by omega)]
  by_cases hk : k < least
  · rw [wpC_cond_t (by rw [ev, h58]; simp [hk])]
    simp only [wpC, thenC]
    refine (hQ σ2 w4 lv ucs (fun s h1 _ h2 h3 _ h4 h5 => hfr12 s h1 h2 h3 h4 h5) (by rw [hfr12 6 (by omega) (by omega) (by omega) (by omega) (by omega)]; exact h6) ?_).1
    unfold unkStep; rw [if_pos hk]; exact hq4
  · by_cases he : (out[posU k out]?).map (·.1) = some k
    · rw [wpC_cond_t (by rw [ev, h58]; simp [he])]
      simp only [wpC, thenC]
      refine (hQ σ2 w4 lv ucs (fun s h1 _ h2 h3 _ h4 h5 => hfr12 s h1 h2 h3 h4 h5) (by rw [hfr12 6 (by omega) (by omega) (by omega) (by omega) (by omega)]; exact h6) ?_).1
      unfold unkStep; rw [if_neg hk, insU_pos, if_pos he]; exact hq4
    · rw [wpC_cond_f (by rw [ev, h58]; simp [hk, he]), wpC_skip]
      simp only [thenC]
      rw [wpC_seq, wpC_blk]
      have hlen := hq4.rep.length
      have hpos := posU_le k out
      refine go1 (v := lv) rfl (by simp [hfr2, f6]) ?_
      refine go1 (v := .agg #[.int .u32 0, .slice none 0 0]) rfl rfl ?_
      refine goOne (cs := [.int .u32 0, .slice none 0 0]) (by simp) rfl rfl fun w5 hbz hm5 => ?_
      have hq5 := hq4.keep hm5
      refine wpR_run ?_
      refine append_two (lv := lv) (css := ucs) (by simp []) hq5.raw hq5.mod.size (by simp) hbz rfl (by simp [Value.oneCell']) (by omega) fun lv' w6 hraw6 hown => ?_
      have hm06 : Mod [] w0 w6 ∧ RepU (fun b => b < N) w6 out ucs ∧ (∀ b, b < w0.heap.size ∨ b = w.heap.size → b < w5.heap.size → w6.heap[b]? = w5.heap[b]?) := by
        rcases hown with ⟨⟨ho, hm6⟩, -⟩ | ⟨ho, hm6⟩
        · have hge : ∀ b, own lv = some b → w0.heap.size ≤ b ∧ b < w.heap.size := fun b hb => ⟨(hq.raw.own hb).1, (hq.raw.own hb).2⟩
          refine ⟨?_, hq5.rep.mod hm6 (fun b hb hc => by have := hge b (by simpa using hb); omega) fun _ _ h => h, fun b hb hlt => hm6.block b hlt fun hc => by have := hge b (by simpa using hc); omega⟩
          cases ho : own lv with
          | none => rw [ho] at hm6; exact hq5.mod.trans hm6.nil
          | some b =>
            rw [ho] at hm6
            exact Mod.drop (b := b) (S := []) ((hq5.mod.nil).trans (hm6.mono (by simp))) (hge b ho).1
        · exact ⟨hq5.mod.trans hm6, hq5.rep.mod hm6 (by simp) fun _ _ h => h, fun b hb hlt => hm6.block b hlt (by simp)⟩
      obtain ⟨k1, k2, k3⟩ := hm06
      have htb6 : Blk w6 w.heap.size [.int .u32 (k : Nat), sv] := by
        have := hb4.mod hm5 (by simp)
        exact this.of_heap (k3 _ (.inr rfl) this.lt)
      have hsv6 : SlC (fun b => b < N) w6 sv b.length (u8s b) := by
        have h5 : SlC (fun b => b < N) w5 sv b.length (u8s b) := hsv.mod ((hm02.trans hm3).trans (hm4.trans hm5)) (by simp) fun _ _ h => h
        obtain ⟨base, cp, e1, e2, e3, e4⟩ := h5
        refine ⟨base, cp, e1, e2, e3, fun a ha hc => ?_⟩
        obtain ⟨q1, q2, q3⟩ := e4 a ha hc
        exact ⟨q1, Nat.lt_of_lt_of_le (Nat.lt_of_lt_of_le q1 hN) k1.size, q3.of_eq (k3 _ (.inl (Nat.lt_of_lt_of_le q1 hN)) q2)⟩
      rcases hraw6.sl with ⟨-, hnil⟩ | ⟨B, cap, rest, elv, hcap, hB, hblk, hrest⟩
      · simp at hnil
      refine go1 (v := lv') rfl (by simp) (wpR_done ?_)
      rw [wpC_seq]
      refine unk_shift (B := B) (cap := cap) (n := out.length) (i := posU k out) (ucs := ucs) (z := [.int .u32 0, .slice none 0 0]) (rest := rest) (by simp [elv, hlen]) (by simp [hfr2, h9]) hpos hlen.symm (by omega) hq4.raw.two hq4.rep.oneCell rfl (by simpa using hblk) fun σ3 w7 x hfr3 hx hblk7 hm7 => ?_
      simp only [thenC]
      rw [wpC_blk]
      have htB : w.heap.size ≠ B := by
        intro e
        have := hown
        rcases this with ⟨⟨ho, -⟩, -⟩ | ⟨ho, -⟩
        · rw [elv] at ho
          have h1 : own lv = some B := by rw [← ho]; rfl
          have := (hq.raw.own h1).2; omega
        · rw [elv] at ho
          simp only [own, Option.some.injEq] at ho
          have := hbz.lt; have := hm02.size; have := hm3.size; have := hm4.size; have := hm5.size
          have := hb4.lt; omega
      have htb7 : Blk w7 w.heap.size [.int .u32 (k : Nat), sv] := htb6.mod hm7 (by simpa using htB)
      have g6 : σ3 6 = .slice (some ⟨B, 0, none⟩) (out.length + 1) cap := by rw [hfr3 6 (by omega) (by omega)]; simp [elv, hlen]
      have g8 : σ3 8 = .pointer (some ⟨w.heap.size, 0, none⟩) := by rw [hfr3 8 (by omega) (by omega)]; simp [hfr2, f8]
      have g9 : σ3 9 = .int .i64 (posU k out : Nat) := by rw [hfr3 9 (by omega) (by omega)]; simp [hfr2, h9]
      have hct := cellsAt_of' htb7.cells (n := 2) rfl
      refine go1 (v := .slice (some ⟨B, 0, none⟩) (out.length + 1) cap) rfl (by simp [g6]) ?_
      refine go1 (v := .int .i64 (posU k out : Nat)) rfl (by simp [g9]) ?_
      refine go1 (v := .agg #[.int .u32 (k : Nat), sv]) rfl (by simp [g8, hct]) ?_
      refine go1 (v := .pointer (some ⟨B, posU k out * 2, none⟩)) rfl (by simp; omega) ?_
      have hall : ∀ c ∈ ucs.take (posU k out) ++ x :: ucs.drop (posU k out), c.length = 2 := by
        intro c hc
        rcases List.mem_append.1 hc with hc | hc
        · exact hq4.raw.two c (List.mem_of_mem_take hc)
        · rcases List.mem_cons.1 hc with rfl | hc
          · exact hx
          · exact hq4.raw.two c (List.mem_of_mem_drop hc)
      have hlen7 : (ucs.take (posU k out) ++ x :: ucs.drop (posU k out)).length = ucs.length + 1 := by simp; omega
      have hfl : ((ucs.take (posU k out) ++ x :: ucs.drop (posU k out)).flatten).length = (ucs.length + 1) * 2 := by rw [flatten_length hall, hlen7]
      have hput := hblk7.put (o := posU k out * 2) (vs := [.int .u32 (k : Nat), sv]) (by simp only [List.length_append, hfl]; simp; omega)
      rw [flat_setAt hall rfl (by rw [hlen7]; omega), set_mid (by omega)] at hput
      have hmput : Mod [B] w7 (putCells w7 ⟨B, posU k out * 2, none⟩ 0 [.int .u32 (k : Nat), sv]) := Mod.put (by simp)
      refine wpR_run ?_
      simp only [RK.run, ev, updo, upd, if_true]
      refine ⟨rfl, stOk_many hblk7 (by simp only [List.length_append, hfl]; simp; omega) (two_one hsv.one), ?_⟩
      refine goEnd ?_
      simp only [Value.cells]
      have hm08 : Mod [] w0 (putCells w7 ⟨B, posU k out * 2, none⟩ 0 [.int .u32 (k : Nat), sv]) := Mod.drop (b := B) (S := []) (k1.nil.trans (hm7.trans hmput)) hB
      refine (hQ _ _ (.slice (some ⟨B, 0, none⟩) (out.length + 1) cap) (ucs.take (posU k out) ++ [.int .u32 (k : Nat), sv] :: ucs.drop (posU k out)) (fun s s1 s2 s3 s4 s5 s6 s7 => ?_) ?_ ⟨⟨?_, .inr ⟨B, cap, rest, ?_, ?_, hB, hput, ?_⟩⟩, ?_, hN, hm08⟩).2
      · simp only [upd]
        repeat rw [if_neg (by omega)]
        rw [hfr3 s (by omega) s5]
        simp only [updo, upd]
        repeat rw [if_neg (by omega)]
        exact hfr12 s s1 s3 s4 s6 s7
      · simp [g6]
      · intro c hc
        rcases List.mem_append.1 hc with hc | hc
        · exact hq4.raw.two c (List.mem_of_mem_take hc)
        · rcases List.mem_cons.1 hc with rfl | hc
          · rfl
          · exact hq4.raw.two c (List.mem_of_mem_drop hc)
      · simp; omega
      · simp at hcap ⊢; omega
      · simp at hrest ⊢; omega
      · have e : unkStep least out (k, b) = out.take (posU k out) ++ (k, b) :: out.drop (posU k out) := by
          unfold unkStep; rw [if_neg hk, insU_pos, if_neg he]
        rw [e]
        have hmB : Mod [B] w6 (putCells w7 ⟨B, posU k out * 2, none⟩ 0 [.int .u32 (k : Nat), sv]) := hm7.trans hmput
        have hr := k2.mod (ok' := fun b => b < N) hmB (by simp; omega) fun _ _ h => h
        exact (hr.take _).append (.cons (hsv6.mod hmB (by simp; omega) fun _ _ h => h) (hr.drop _))
theorem unknown_callO (hm : P.follows .mixedOrders = true) (h : liftF P (F sUnknown) = some (ir_sUnknown F)) (hk : liftF P (F sKnown) = some (ir_sKnown F)) {w : World} {v uv : Value} {fs : List FD} {css uss : List (List Value)} {u : List (Nat × List UInt8)}
    (hv : SlC anyB w v fs.length css.flatten) (hr : RepFL anyB w fs css) (hlen : fs.length < 2147483648) (ht : ∀ f ∈ fs, f.tag < 2147483648) (hu : SlC anyB w uv u.length uss.flatten) {N : Nat} (hN0 : N ≤ w.heap.size) (hur : RepU (fun b => b < N) w u uss) :
    Calls P (F sUnknown) [v, uv].toArray w fun e w' => ∃ lv ucs, e = .returned lv ∧ SlC (fun b => w.heap.size ≤ b) w' lv (unknownP fs u).length ucs.flatten ∧ RepU (fun b => b < N) w' (unknownP fs u) ucs ∧ Mod [] w w' := by
  unfold ir_sUnknown at h
  refine call_of h hm (by simp) ?_
  clear h
  rw [wpC_seq, wpC_blk]
  refine go1 rfl rfl (wpR_done ?_)
  rw [wpC_seq, wpC_blk]
  refine go1 (v := v) rfl (by simp) ?_
  refine goCall rfl (vs := [v]) (by simp) (known_call hm hk hv hr hlen ht) ?_
  rintro e w1 ⟨rfl, hm1⟩
  refine ⟨_, rfl, go1 rfl rfl (wpR_done ?_)⟩
  rw [wpC_seq, wpC_blk]
  refine go1 rfl rfl (wpR_done ?_)
  rw [wpC_seq, wpC_seq, wpC_blk]
  have hu1 := hu.keep hm1
  obtain ⟨ub, uc, eu⟩ := hu.shape
  refine go1 (v := uv) rfl (by simp) ?_
  refine go1 (v := uv) rfl (by simp) ?_
  refine go1 (v := .int .i64 u.length) rfl (by simp [eu]) ?_
  refine go1 (v := .int .i64 ((min u.length 32767 : Nat) : Int)) rfl (by simp [min_nat]) ?_
  obtain ⟨tv, e1, h1⟩ := slice_head (x := .tmp 13) (y := .tmp 16) (sz := 2) (k := min u.length 32767)
    (σ := updo (updo (updo (updo (updo (updo (updo (updo (updo (args0 [v, uv]) (some 4) (.slice none 0 0)) (some 11) v) (some 12) (.int .u32 (knownP fs : Nat))) (some 5) (.int .u32 (knownP fs : Nat))) (some 6) (.slice none 0 0)) (some 13) uv) (some 14) uv) (some 15) (.int .i64 u.length)) (some 16) (.int .i64 ((min u.length 32767 : Nat) : Int)))
    (by simp) (by simp) hu1 (by omega)
  rw [flatten_take _ _ hur.two] at h1
  obtain ⟨tb, tc, etv⟩ := h1.shape
  refine go1 (v := tv) rfl e1 ?_
  refine go1 (v := .int .i64 ((min u.length 32767 : Nat) : Int)) rfl (by simp [etv]) ?_
  refine go1 rfl rfl (wpR_done ?_)
  have hN : w.heap.size ≤ w1.heap.size := hm1.size
  have hlo : RepU (fun b => b < N) w1 (u.take (min u.length 32767)) (uss.take (min u.length 32767)) := (hur.mod hm1 (by simp) fun _ _ h => h).take _
  have eu2 : u.take (min u.length 32767) = u.take 32767 := by
    by_cases hl : u.length ≤ 32767
    · rw [Nat.min_eq_left hl, List.take_of_length_le (Nat.le_refl _), List.take_of_length_le hl]
    · rw [Nat.min_eq_right (by omega)]
  refine rangeLoop (n := min u.length 32767) (fun j σ w' => σ 17 = tv ∧ σ 19 = .int .i64 (j : Nat) ∧ σ 18 = .int .i64 ((min u.length 32767 : Nat) : Int) ∧ σ 5 = .int .u32 (knownP fs : Nat) ∧ ∃ ucs, UQO N w1 w' (σ 6) (((u.take 32767).take j).foldl (unkStep (knownP fs)) []) ucs)
    (by omega) (by omega) (fun j σ w h => ⟨h.2.1, h.2.2.1⟩) ?_ ?_ ?_
  · refine ⟨by simp, by simp, by simp, by simp, [], ⟨⟨by simp, .inl ⟨by simp, rfl⟩⟩, by simp; exact .nil, Nat.le_trans hN0 hN, Mod.refl _ _⟩⟩
  · rintro j σ w2 hj ⟨h17, h19, h18, h5, ucs, hq⟩
    have hjl : j < (u.take 32767).length := by rw [← eu2]; simp; omega
    obtain ⟨t, ht'⟩ : ∃ t, (u.take 32767)[j]? = some t := ⟨_, List.getElem?_eq_getElem hjl⟩
    obtain ⟨sv, hcs, hsv⟩ := hlo.nth (t := t) (by rw [eu2]; exact ht')
    obtain ⟨a, c, ea, hjn, hcell⟩ := h1.flat (by have := hur.length; simp; omega) (fun c hc => hur.two c (List.mem_of_mem_take hc)) hcs
    rw [etv] at ea
    simp only [Value.slice.injEq, true_and] at ea
    obtain ⟨ea, ec⟩ := ea
    subst ea
    have hcell2 := cellsAt_below hq.mod.below _ _ _ hcell
    have hsv2 : SlC (fun b => b < N) w2 sv t.2.length (u8s t.2) := hsv.mod hq.mod (by simp) fun _ _ h => h
    have hol : (((u.take 32767).take j).foldl (unkStep (knownP fs)) []).length < 2147483647 := by
      have := unk_length (knownP fs) ((u.take 32767).take j) []
      simp at this; omega
    refine unk_bodyO (w0 := w1) (least := knownP fs) (k := t.1) (b := t.2) (n := min u.length 32767) (lv := σ 6) (a := a) (c := tc) (by simp [h5]) (by simp) (by simp [h17, etv]) (by simp [h19]) hj hq hcell2 hsv2 hol fun σ' w' lv' ucs' hfr e6 hq' => ?_
    have key : σ' 19 = .int .i64 (j : Nat) ∧ (upd (upd σ' 83 (.int .i64 ((j + 1 : Nat) : Int))) 19 (.int .i64 ((j + 1 : Nat) : Int))) 17 = tv ∧ (upd (upd σ' 83 (.int .i64 ((j + 1 : Nat) : Int))) 19 (.int .i64 ((j + 1 : Nat) : Int))) 19 = .int .i64 ((j + 1 : Nat) : Int) ∧
        (upd (upd σ' 83 (.int .i64 ((j + 1 : Nat) : Int))) 19 (.int .i64 ((j + 1 : Nat) : Int))) 18 = .int .i64 ((min u.length 32767 : Nat) : Int) ∧ (upd (upd σ' 83 (.int .i64 ((j + 1 : Nat) : Int))) 19 (.int .i64 ((j + 1 : Nat) : Int))) 5 = .int .u32 (knownP fs : Nat) ∧
        ∃ ucs, UQO N w1 w' ((upd (upd σ' 83 (.int .i64 ((j + 1 : Nat) : Int))) 19 (.int .i64 ((j + 1 : Nat) : Int))) 6) (((u.take 32767).take (j + 1)).foldl (unkStep (knownP fs)) []) ucs := by
      have g : ∀ s, s < 23 → s ≠ 6 → s ≠ 8 → s ≠ 9 → s ≠ 10 → s ≠ 21 → s ≠ 22 → s ≠ 20 → σ' s = σ s := fun s s1 s2 s3 s4 s5 s6 s7 s8 => by
        rw [hfr s s1 s2 s3 s4 s5 s6 s7]; simp [upd, s8]
      refine ⟨by rw [g 19 (by omega) (by omega) (by omega) (by omega) (by omega) (by omega) (by omega) (by omega)]; exact h19, ?_, by simp, ?_, ?_, ucs', ?_⟩
      · simp only [upd]; rw [if_neg (by omega), if_neg (by omega), g 17 (by omega) (by omega) (by omega) (by omega) (by omega) (by omega) (by omega) (by omega)]; exact h17
      · simp only [upd]; rw [if_neg (by omega), if_neg (by omega), g 18 (by omega) (by omega) (by omega) (by omega) (by omega) (by omega) (by omega) (by omega)]; exact h18
      · simp only [upd]; rw [if_neg (by omega), if_neg (by omega), g 5 (by omega) (by omega) (by omega) (by omega) (by omega) (by omega) (by omega) (by omega)]; exact h5
      · rw [take_succ_of ht', List.foldl_append]
        simp only [upd, List.foldl_cons, List.foldl_nil]
        rw [if_neg (by omega), if_neg (by omega), e6]
        exact hq'
    exact ⟨by simp only [rngP, if_true]; exact key, by simp only [rngP]; exact key⟩
  · rintro σ w2 ⟨h17, h19, h18, h5, ucs, hq⟩
    have e : (u.take 32767).take (min u.length 32767) = u.take 32767 := List.take_of_length_le (by simp; omega)
    rw [e] at hq
    simp only [thenC]
    rw [wpC_seq, wpC_blk]
    refine go1 (v := σ 6) rfl (by simp) ?_
    refine go1 (v := σ 6) rfl (by simp) (wpR_done (ret1 (v := σ 6) (by simp) ⟨_, ucs, rfl, ?_, hq.rep, hm1.trans hq.mod⟩))
    have := (hq.raw.slcN).mod (ok' := fun b => w.heap.size ≤ b) (Mod.refl [] _) (by simp) fun b _ hb => Nat.le_trans hm1.size hb
    rw [hq.rep.length.symm] at this
    exact this
theorem at_callO (hm : P.follows .mixedOrders = true) (h : liftF P (F sAt) = some (ir_sAt F)) {ok : Nat → Prop} {w : World} {t : TR} {ts : List Value} {i : Nat} (ht : RepT ok w t ts) :
    Calls P (F sAt) [.agg ts.toArray, .int .i64 (i : Nat)].toArray w fun e w' => ∃ cs, e = .returned (.agg cs.toArray) ∧ RepT ok w' (t.at i) cs ∧ Mod [] w w' := by
  cases ht with
  | @mk n s tnull l u sv lv uv css uss g1 g2 g3 g4 g5 =>
  unfold ir_sAt at h
  refine call_of h hm (by simp) ?_
  clear h
  rw [wpC_seq, wpC_blk]
  refine goBox rfl fun w1 hb1 hm1 => ?_
  refine goAlloc fun w2 hb2 hm2 => ?_
  have hm12 := hm1.trans hm2
  have c1 := fun k => (hb1.mod hm2 (by simp)).cell k
  refine wpR_done ?_
  obtain ⟨lb, lc, elv⟩ := g2.shape
  rw [wpC_seq, wpC_seq, wpC_blk]
  have key : ∀ σ : Sl, σ 4 = .pointer (some ⟨w1.heap.size, 0, none⟩) → l[i]? = none → wpC P (.seq (.blk [⟨(some (15)), .build [.int .i64 0, .slice none 0 0, .bool false, .slice none 0 0, .slice none 0 0] [], none⟩,
      ⟨none, .st (.tmp 4) 5 (.tmp 15), none⟩]) .ret) (postC [.cells 4 5] fun e w' => ∃ cs, e = .returned (.agg cs.toArray) ∧ RepT ok w' ((TR.mk n s tnull l u).at i) cs ∧ Mod [] w w') σ w2 := by
    intro σ h4 hn
    rw [wpC_seq, wpC_blk]
    refine go1 (v := .agg tzero.toArray) rfl rfl ?_
    refine goSt (b := w1.heap.size) (v := .agg tzero.toArray) (by simp [h4]) (by simp) hb2 rfl rfl (by simp [tzero, Value.oneCell']) fun w3 hb3 hm3 => ?_
    refine wpR_done (retN (by simpa using h4) hb3 rfl ⟨_, rfl, ?_, ?_⟩)
    · have : (TR.mk n s tnull l u).at i = TR.zero := by simp [TR.at, TR.l, hn]
      rw [this]; exact RepT.zero
    · exact Mod.drop (b := w1.heap.size) (S := []) (hm12.nil.trans hm3) hm1.size
  iterate 4 (apply go1 rfl; (· simp [c1, elv] <;> rfl))
  refine go1 (v := .bool (decide ((i : Int) < l.length))) rfl (by simp) ?_
  refine wpR_done ?_
  by_cases hi : i < l.length
  · rw [wpC_cond_t (by simp [hi]), wpC_seq, wpC_blk]
    obtain ⟨t', ht'⟩ : ∃ t', l[i]? = some t' := ⟨l[i], by simp [hi]⟩
    obtain ⟨cs, hcs, hrep⟩ := g3.nth ht'
    obtain ⟨a, c, ea, hj, hcell⟩ := g2.flat (g3.length) (g3.five) hcs
    have hcell2 : cellsAt w2 (a.add (i * 5)) 0 5 = some cs := cellsAt_below hm12.below _ _ _ hcell
    rw [elv] at ea
    simp only [Value.slice.injEq, true_and] at ea
    obtain ⟨ea, ec⟩ := ea
    subst ea
    iterate 3 (apply go1 rfl; (· simp [c1, elv] <;> rfl))
    refine go1 (v := .pointer (some (a.add (i * 5)))) rfl (by simp [hi]) ?_
    refine go1 (v := .agg cs.toArray) rfl (by simp [hcell2]) ?_
    refine goSt (b := w1.heap.size) (v := .agg cs.toArray) (by simp) (by simp) hb2 (by simp [hrep.five]) rfl (by simpa using hrep.oneCell) fun w3 hb3 hm3 => ?_
    have hm123 : Mod [] w w3 := Mod.drop (b := w1.heap.size) (S := []) (hm12.nil.trans hm3) hm1.size
    refine wpR_done (retThen (retN (cs := cs) (b := w1.heap.size) (by simp) (by simpa using hb3) hrep.five ⟨cs, rfl, ?_, hm123⟩))
    have : (TR.mk n s tnull l u).at i = t' := by simp [TR.at, TR.l, ht']
    rw [this]
    exact hrep.mod hm123 (by simp) fun _ _ h => h
  · rw [wpC_cond_f (by simp; omega), wpC_skip]
    exact key _ (by simp) (by simp; omega)
end
end Go.Msk

namespace Go.Msk
set_option maxRecDepth 100000
def ir_sFit_1 (F : Nat → Nat) : IC := (.seq (.blk [⟨some 17, .mv (.tmp 15), none⟩,
 ⟨some 18, .iad (.tmp 13) (.tmp 15) 8, none⟩,
 ⟨some 19, .ldn (.tmp 18) 8, none⟩,
 ⟨some 9, .alloc [.int .i64 0, .int .i64 0, .int .i64 0, .int .i64 0, .int .i64 0, .int .i64 0, .int .i64 0, .slice none 0 0], none⟩,
 ⟨some 8, .mv (.tmp 17), none⟩,
 ⟨none, .st (.tmp 9) 8 (.tmp 19), none⟩])
 (.drw [⟨⟨some 20, .fad (.tmp 7) 3, none⟩, false, []⟩,
 ⟨⟨some 21, .ld (.tmp 20), none⟩, false, []⟩,
 ⟨⟨some 22, .ldn (.tmp 9) 8, none⟩, false, []⟩,
 ⟨⟨some 23, .mv (.tmp 1), none⟩, false, []⟩,
 ⟨⟨some 24, .ldn (.tmp 5) 5, none⟩, false, []⟩,
 ⟨⟨some 25, .mv (.tmp 8), none⟩, false, []⟩,
 ⟨⟨some 26, .call (F sAt) [.tmp 24, .tmp 25], none⟩, true, []⟩,
 ⟨⟨some 27, .call (F sFitted) [.tmp 22, .tmp 23, .tmp 26], none⟩, true, [6]⟩,
 ⟨⟨some 28, .bslice 1 [.int .i64 0, .slice none 0 0, .bool false, .slice none 0 0, .slice none 0 0] [(0, 5, .tmp 27)], none⟩, true, [6, 7]⟩]
 [⟨some 29, .append (.tmp 21) (.tmp 28) 5 88, none⟩,
 ⟨some 30, .fad (.tmp 7) 3, none⟩,
 ⟨none, .st (.tmp 30) 1 (.tmp 29), none⟩]))
def ir_sFit_2 (F : Nat → Nat) : IC := (.seq (.blk [⟨some 39, .iad (.tmp 35) (.tmp 37) 2, none⟩,
 ⟨some 40, .ldn (.tmp 39) 2, none⟩,
 ⟨some 11, .alloc [.int .u32 0, .slice none 0 0], none⟩,
 ⟨none, .st (.tmp 11) 2 (.tmp 40), none⟩])
 (.drw [⟨⟨some 41, .fad (.tmp 7) 4, none⟩, false, []⟩,
 ⟨⟨some 42, .ld (.tmp 41), none⟩, false, []⟩,
 ⟨⟨some 43, .fad (.tmp 11) 0, none⟩, false, []⟩,
 ⟨⟨some 44, .ld (.tmp 43), none⟩, false, []⟩,
 ⟨⟨some 45, .fad (.tmp 11) 1, none⟩, false, []⟩,
 ⟨⟨some 46, .ld (.tmp 45), none⟩, false, []⟩,
 ⟨⟨some 47, .call (F sWhole) [.tmp 46], none⟩, true, []⟩,
 ⟨⟨some 48, .build [.int .u32 0, .slice none 0 0] [(0, 1, .tmp 44), (1, 1, .tmp 47)], none⟩, false, [6]⟩,
 ⟨⟨some 49, .bslice 1 [.int .u32 0, .slice none 0 0] [(0, 2, .tmp 48)], none⟩, true, [6]⟩]
 [⟨some 50, .append (.tmp 42) (.tmp 49) 2 32, none⟩,
 ⟨some 51, .fad (.tmp 7) 4, none⟩,
 ⟨none, .st (.tmp 51) 1 (.tmp 50), none⟩]))
def ir_sFit (F : Nat → Nat) : IC × List RV × Nat := (.seq (.blk [⟨some 5, .box (.tmp 2), none⟩,
 ⟨some 6, .alloc [.int .i64 0, .slice none 0 0, .bool false, .slice none 0 0, .slice none 0 0], none⟩])
 (.seq (.blk [⟨some 12, .build [.int .i64 0, .slice none 0 0, .bool false, .slice none 0 0, .slice none 0 0] [], none⟩,
 ⟨some 7, .alloc [.int .i64 0, .slice none 0 0, .bool false, .slice none 0 0, .slice none 0 0], none⟩,
 ⟨none, .st (.tmp 7) 5 (.tmp 12), none⟩])
 (.seq (.seq (.blk [⟨some 13, .mv (.tmp 0), none⟩,
 ⟨some 14, .len (.tmp 13), none⟩,
 ⟨some 15, .mv (.const (.int .i64 0)), none⟩])
 (.block 0 (.loop (.seq (.blk [⟨some 16, .bin .lss (.tmp 15) (.tmp 14), none⟩])
 (.seq (.cond (.tmp 16)
 (.skip)
 (.exit 0))
 (.seq (.block 1 (ir_sFit_1 F))
 (.blk [⟨some 31, .bin .add (.tmp 15) (.const (.int .i64 1)), none⟩,
 ⟨some 15, .mv (.tmp 31), none⟩])))))))
 (.seq (.seq (.blk [⟨some 32, .mv (.tmp 0), none⟩,
 ⟨some 33, .fad (.tmp 5) 4, none⟩,
 ⟨some 34, .ld (.tmp 33), none⟩,
 ⟨some 35, .call (F sUnknown) [.tmp 32, .tmp 34], none⟩,
 ⟨some 36, .len (.tmp 35), none⟩,
 ⟨some 37, .mv (.const (.int .i64 0)), none⟩])
 (.block 2 (.loop (.seq (.blk [⟨some 38, .bin .lss (.tmp 37) (.tmp 36), none⟩])
 (.seq (.cond (.tmp 38)
 (.skip)
 (.exit 2))
 (.seq (.block 3 (ir_sFit_2 F))
 (.blk [⟨some 52, .bin .add (.tmp 37) (.const (.int .i64 1)), none⟩,
 ⟨some 37, .mv (.tmp 52), none⟩])))))))
 (.seq (.blk [⟨some 53, .ldn (.tmp 7) 5, none⟩,
 ⟨none, .st (.tmp 6) 5 (.tmp 53), none⟩])
 (.ret))))),
 [.cells 6 5], 54)
def ir_sFitted_1 (F : Nat → Nat) : IC := (.blk [⟨some 39, .mv (.tmp 7), none⟩,
 ⟨some 40, .mv (.tmp 39), none⟩,
 ⟨some 41, .fad (.tmp 3) 4, some (40, false)⟩,
 ⟨some 42, .ld (.tmp 41), some (40, false)⟩,
 ⟨some 43, .bin .geq (.tmp 42) (.const (.int .i64 0)), some (40, false)⟩,
 ⟨some 44, .mv (.tmp 43), some (40, false)⟩,
 ⟨some 45, .fad (.tmp 5) 3, some (44, true)⟩,
 ⟨some 46, .ld (.tmp 45), some (44, true)⟩,
 ⟨some 47, .len (.tmp 46), some (44, true)⟩,
 ⟨some 48, .bin .eql (.tmp 47) (.const (.int .i64 0)), some (44, true)⟩,
 ⟨some 49, .pick (.tmp 44) (.tmp 48) (.const (.bool false)), some (40, false)⟩,
 ⟨some 50, .pick (.tmp 40) (.const (.bool true)) (.tmp 49), none⟩,
 ⟨some 51, .build [.int .i64 0, .slice none 0 0, .bool false, .slice none 0 0, .slice none 0 0] [(2, 1, .tmp 50)], none⟩,
 ⟨some 9, .alloc [.int .i64 0, .slice none 0 0, .bool false, .slice none 0 0, .slice none 0 0], none⟩,
 ⟨none, .st (.tmp 9) 5 (.tmp 51), none⟩])
def ir_sFitted_2 (F : Nat → Nat) : IC := (.seq (.blk [⟨some 64, .iad (.tmp 60) (.tmp 62) 5, none⟩,
 ⟨some 65, .ldn (.tmp 64) 5, none⟩,
 ⟨some 12, .alloc [.int .i64 0, .slice none 0 0, .bool false, .slice none 0 0, .slice none 0 0], none⟩,
 ⟨none, .st (.tmp 12) 5 (.tmp 65), none⟩])
 (.drw [⟨⟨some 66, .fad (.tmp 9) 3, none⟩, false, []⟩,
 ⟨⟨some 67, .ld (.tmp 66), none⟩, false, []⟩,
 ⟨⟨some 68, .ldn (.tmp 10) 8, none⟩, false, []⟩,
 ⟨⟨some 69, .mv (.tmp 1), none⟩, false, []⟩,
 ⟨⟨some 70, .ldn (.tmp 12) 5, none⟩, false, []⟩,
 ⟨⟨some 71, .call (F sFitted) [.tmp 68, .tmp 69, .tmp 70], none⟩, true, []⟩,
 ⟨⟨some 72, .bslice 1 [.int .i64 0, .slice none 0 0, .bool false, .slice none 0 0, .slice none 0 0] [(0, 5, .tmp 71)], none⟩, true, [5]⟩]
 [⟨some 73, .append (.tmp 67) (.tmp 72) 5 88, none⟩,
 ⟨some 74, .fad (.tmp 9) 3, none⟩,
 ⟨none, .st (.tmp 74) 1 (.tmp 73), none⟩]))
def ir_sFitted_3 (F : Nat → Nat) : IC := (.seq (ir_sFitted_1 F)
 (.seq (.blk [⟨some 52, .ldn (.tmp 3) 8, none⟩,
 ⟨some 10, .alloc [.int .i64 0, .int .i64 0, .int .i64 0, .int .i64 0, .int .i64 0, .int .i64 0, .int .i64 0, .slice none 0 0], none⟩,
 ⟨none, .st (.tmp 10) 8 (.tmp 52), none⟩])
 (.seq (.blk [⟨some 53, .fad (.tmp 3) 6, none⟩,
 ⟨some 54, .ld (.tmp 53), none⟩,
 ⟨some 55, .fad (.tmp 10) 0, none⟩,
 ⟨none, .st (.tmp 55) 1 (.tmp 54), none⟩,
 ⟨some 56, .fad (.tmp 10) 3, none⟩,
 ⟨none, .st (.tmp 56) 1 (.const (.int .i64 (-1))), none⟩,
 ⟨some 57, .fad (.tmp 10) 4, none⟩,
 ⟨none, .st (.tmp 57) 1 (.const (.int .i64 (-1))), none⟩])
 (.seq (.seq (.blk [⟨some 58, .fad (.tmp 5) 3, none⟩,
 ⟨some 59, .ld (.tmp 58), none⟩,
 ⟨some 60, .call (F sThings) [.tmp 59], none⟩,
 ⟨some 61, .len (.tmp 60), none⟩,
 ⟨some 62, .mv (.const (.int .i64 0)), none⟩])
 (.block 1 (.loop (.seq (.blk [⟨some 63, .bin .lss (.tmp 62) (.tmp 61), none⟩])
 (.seq (.cond (.tmp 63)
 (.skip)
 (.exit 1))
 (.seq (.block 2 (ir_sFitted_2 F))
 (.blk [⟨some 75, .bin .add (.tmp 62) (.const (.int .i64 1)), none⟩,
 ⟨some 62, .mv (.tmp 75), none⟩])))))))
 (.seq (.blk [⟨some 76, .ldn (.tmp 9) 5, none⟩,
 ⟨none, .st (.tmp 6) 5 (.tmp 76), none⟩])
 (.ret))))))
def ir_sFitted_4 (F : Nat → Nat) : IC := (.seq (.blk [⟨some 28, .bin .eql (.tmp 18) (.const (.int .i64 10)), none⟩,
 ⟨some 27, .mv (.tmp 28), none⟩])
 (.cond (.tmp 27)
 (.seq (.blk [⟨some 29, .fad (.tmp 3) 7, none⟩,
 ⟨some 30, .ld (.tmp 29), none⟩,
 ⟨some 31, .mv (.tmp 1), none⟩,
 ⟨some 32, .ldn (.tmp 5) 5, none⟩,
 ⟨some 33, .call (F sFit) [.tmp 30, .tmp 31, .tmp 32], none⟩,
 ⟨some 8, .alloc [.int .i64 0, .slice none 0 0, .bool false, .slice none 0 0, .slice none 0 0], none⟩,
 ⟨none, .st (.tmp 8) 5 (.tmp 33), none⟩])
 (.seq (.blk [⟨some 34, .mv (.tmp 7), none⟩,
 ⟨some 35, .fad (.tmp 8) 2, none⟩,
 ⟨none, .st (.tmp 35) 1 (.tmp 34), none⟩])
 (.seq (.blk [⟨some 36, .ldn (.tmp 8) 5, none⟩,
 ⟨none, .st (.tmp 6) 5 (.tmp 36), none⟩])
 (.ret))))
 (.seq (.blk [⟨some 38, .bin .eql (.tmp 18) (.const (.int .i64 11)), none⟩,
 ⟨some 37, .mv (.tmp 38), none⟩])
 (.cond (.tmp 37)
 (ir_sFitted_3 F)
 (.skip)))))
def ir_sFitted_5 (F : Nat → Nat) : IC := (.seq (.blk [⟨some 17, .fad (.tmp 3) 0, none⟩,
 ⟨some 18, .ld (.tmp 17), none⟩])
 (.block 0 (.seq (.seq (.blk [⟨some 20, .bin .eql (.tmp 18) (.const (.int .i64 8)), none⟩,
 ⟨some 19, .mv (.tmp 20), none⟩])
 (.cond (.tmp 19)
 (.skip)
 (.blk [⟨some 21, .bin .eql (.tmp 18) (.const (.int .i64 9)), none⟩,
 ⟨some 19, .mv (.tmp 21), none⟩])))
 (.cond (.tmp 19)
 (.seq (.blk [⟨some 22, .fad (.tmp 5) 1, none⟩,
 ⟨some 23, .ld (.tmp 22), none⟩,
 ⟨some 24, .call (F sWhole) [.tmp 23], none⟩,
 ⟨some 25, .mv (.tmp 7), none⟩,
 ⟨some 26, .build [.int .i64 0, .slice none 0 0, .bool false, .slice none 0 0, .slice none 0 0] [(1, 1, .tmp 24), (2, 1, .tmp 25)], none⟩,
 ⟨none, .st (.tmp 6) 5 (.tmp 26), none⟩])
 (.ret))
 (ir_sFitted_4 F)))))
def ir_sFitted (F : Nat → Nat) : IC × List RV × Nat := (.seq (.blk [⟨some 3, .box (.tmp 0), none⟩,
 ⟨some 5, .box (.tmp 2), none⟩,
 ⟨some 6, .alloc [.int .i64 0, .slice none 0 0, .bool false, .slice none 0 0, .slice none 0 0], none⟩])
 (.seq (.blk [⟨some 13, .ldn (.tmp 3) 8, none⟩,
 ⟨some 14, .mv (.tmp 1), none⟩,
 ⟨some 15, .ldn (.tmp 5) 5, none⟩,
 ⟨some 16, .call (F sNull) [.tmp 13, .tmp 14, .tmp 15], none⟩,
 ⟨some 7, .mv (.tmp 16), none⟩])
 (.seq (ir_sFitted_5 F)
 (.seq (.blk [⟨some 77, .fad (.tmp 5) 0, none⟩,
 ⟨some 78, .ld (.tmp 77), none⟩,
 ⟨some 79, .fad (.tmp 5) 1, none⟩,
 ⟨some 80, .ld (.tmp 79), none⟩,
 ⟨some 81, .build [.int .i64 0, .slice none 0 0, .bool false, .slice none 0 0, .slice none 0 0] [(0, 1, .tmp 78), (1, 1, .tmp 80)], none⟩,
 ⟨none, .st (.tmp 6) 5 (.tmp 81), none⟩])
 (.ret)))),
 [.cells 6 5], 82)
def ir_lGiven_1 (F : Nat → Nat) : IC := (.seq (.blk [⟨some 20, .iad (.tmp 16) (.tmp 18) 5, none⟩,
 ⟨some 21, .ldn (.tmp 20) 5, none⟩,
 ⟨some 5, .alloc [.int .i64 0, .slice none 0 0, .bool false, .slice none 0 0, .slice none 0 0], none⟩,
 ⟨none, .st (.tmp 5) 5 (.tmp 21), none⟩])
 (.drw [⟨⟨some 22, .fad (.tmp 3) 3, none⟩, false, []⟩,
 ⟨⟨some 23, .ld (.tmp 22), none⟩, false, []⟩,
 ⟨⟨some 24, .ldn (.tmp 5) 5, none⟩, false, []⟩,
 ⟨⟨some 25, .call (F lGiven) [.tmp 24], none⟩, true, []⟩,
 ⟨⟨some 26, .bslice 1 [.int .i64 0, .slice none 0 0, .bool false, .slice none 0 0, .slice none 0 0] [(0, 5, .tmp 25)], none⟩, true, [3]⟩]
 [⟨some 27, .append (.tmp 23) (.tmp 26) 5 88, none⟩,
 ⟨some 28, .fad (.tmp 3) 3, none⟩,
 ⟨none, .st (.tmp 28) 1 (.tmp 27), none⟩]))
def ir_lGiven_2 (F : Nat → Nat) : IC := (.seq (.blk [⟨some 35, .iad (.tmp 31) (.tmp 33) 2, none⟩,
 ⟨some 36, .ldn (.tmp 35) 2, none⟩,
 ⟨some 7, .alloc [.int .u32 0, .slice none 0 0], none⟩,
 ⟨none, .st (.tmp 7) 2 (.tmp 36), none⟩])
 (.blk [⟨some 37, .fad (.tmp 3) 4, none⟩,
 ⟨some 38, .ld (.tmp 37), none⟩,
 ⟨some 39, .fad (.tmp 7) 0, none⟩,
 ⟨some 40, .ld (.tmp 39), none⟩,
 ⟨some 41, .fad (.tmp 7) 1, none⟩,
 ⟨some 42, .ld (.tmp 41), none⟩,
 ⟨some 43, .build [.int .u32 0, .slice none 0 0] [(0, 1, .tmp 40), (1, 1, .tmp 42)], none⟩,
 ⟨some 44, .bslice 1 [.int .u32 0, .slice none 0 0] [(0, 2, .tmp 43)], none⟩,
 ⟨some 45, .append (.tmp 38) (.tmp 44) 2 32, none⟩,
 ⟨some 46, .fad (.tmp 3) 4, none⟩,
 ⟨none, .st (.tmp 46) 1 (.tmp 45), none⟩]))
def ir_lGiven (F : Nat → Nat) : IC × List RV × Nat := (.seq (.blk [⟨some 1, .box (.tmp 0), none⟩,
 ⟨some 2, .alloc [.int .i64 0, .slice none 0 0, .bool false, .slice none 0 0, .slice none 0 0], none⟩])
 (.seq (.blk [⟨some 8, .fad (.tmp 1) 0, none⟩,
 ⟨some 9, .ld (.tmp 8), none⟩,
 ⟨some 10, .fad (.tmp 1) 1, none⟩,
 ⟨some 11, .ld (.tmp 10), none⟩,
 ⟨some 12, .fad (.tmp 1) 2, none⟩,
 ⟨some 13, .ld (.tmp 12), none⟩,
 ⟨some 14, .build [.int .i64 0, .slice none 0 0, .bool false, .slice none 0 0, .slice none 0 0] [(0, 1, .tmp 9), (1, 1, .tmp 11), (2, 1, .tmp 13)], none⟩,
 ⟨some 3, .alloc [.int .i64 0, .slice none 0 0, .bool false, .slice none 0 0, .slice none 0 0], none⟩,
 ⟨none, .st (.tmp 3) 5 (.tmp 14), none⟩])
 (.seq (.seq (.blk [⟨some 15, .fad (.tmp 1) 3, none⟩,
 ⟨some 16, .ld (.tmp 15), none⟩,
 ⟨some 17, .len (.tmp 16), none⟩,
 ⟨some 18, .mv (.const (.int .i64 0)), none⟩])
 (.block 0 (.loop (.seq (.blk [⟨some 19, .bin .lss (.tmp 18) (.tmp 17), none⟩])
 (.seq (.cond (.tmp 19)
 (.skip)
 (.exit 0))
 (.seq (.block 1 (ir_lGiven_1 F))
 (.blk [⟨some 29, .bin .add (.tmp 18) (.const (.int .i64 1)), none⟩,
 ⟨some 18, .mv (.tmp 29), none⟩])))))))
 (.seq (.seq (.blk [⟨some 30, .fad (.tmp 1) 4, none⟩,
 ⟨some 31, .ld (.tmp 30), none⟩,
 ⟨some 32, .len (.tmp 31), none⟩,
 ⟨some 33, .mv (.const (.int .i64 0)), none⟩])
 (.block 2 (.loop (.seq (.blk [⟨some 34, .bin .lss (.tmp 33) (.tmp 32), none⟩])
 (.seq (.cond (.tmp 34)
 (.skip)
 (.exit 2))
 (.seq (.block 3 (ir_lGiven_2 F))
 (.blk [⟨some 47, .bin .add (.tmp 33) (.const (.int .i64 1)), none⟩,
 ⟨some 33, .mv (.tmp 47), none⟩])))))))
 (.seq (.blk [⟨some 48, .ldn (.tmp 3) 5, none⟩,
 ⟨none, .st (.tmp 2) 5 (.tmp 48), none⟩])
 (.ret))))),
 [.cells 2 5], 49)
def ir_iAt (F : Nat → Nat) : IC × List RV × Nat := (.seq (.blk [⟨some 2, .box (.tmp 0), none⟩,
 ⟨some 4, .alloc [.int .i64 0, .slice none 0 0, .bool false, .slice none 0 0, .slice none 0 0], none⟩])
 (.seq (.seq (.blk [⟨some 5, .mv (.tmp 1), none⟩,
 ⟨some 6, .fad (.tmp 2) 3, none⟩,
 ⟨some 7, .ld (.tmp 6), none⟩,
 ⟨some 8, .len (.tmp 7), none⟩,
 ⟨some 9, .bin .lss (.tmp 5) (.tmp 8), none⟩])
 (.cond (.tmp 9)
 (.seq (.blk [⟨some 10, .fad (.tmp 2) 3, none⟩,
 ⟨some 11, .ld (.tmp 10), none⟩,
 ⟨some 12, .mv (.tmp 1), none⟩,
 ⟨some 13, .iad (.tmp 11) (.tmp 12) 5, none⟩,
 ⟨some 14, .ldn (.tmp 13) 5, none⟩,
 ⟨none, .st (.tmp 4) 5 (.tmp 14), none⟩])
 (.ret))
 (.skip)))
 (.seq (.blk [⟨some 15, .build [.int .i64 0, .slice none 0 0, .bool false, .slice none 0 0, .slice none 0 0] [], none⟩,
 ⟨none, .st (.tmp 4) 5 (.tmp 15), none⟩])
 (.ret))),
 [.cells 4 5], 16)
def ir_iSixteen (F : Nat → Nat) : IC × List RV × Nat := (.seq (.blk [⟨some 2, .alloc [.int .u8 0, .int .u8 0, .int .u8 0, .int .u8 0, .int .u8 0, .int .u8 0, .int .u8 0, .int .u8 0, .int .u8 0, .int .u8 0, .int .u8 0, .int .u8 0, .int .u8 0, .int .u8 0, .int .u8 0, .int .u8 0], none⟩])
 (.seq (.blk [⟨some 3, .slicea (.tmp 2) 16, none⟩,
 ⟨some 4, .mv (.tmp 0), none⟩,
 ⟨some 5, .copy (.tmp 3) (.tmp 4) 1, none⟩])
 (.seq (.blk [⟨some 6, .ldn (.tmp 2) 16, none⟩,
 ⟨none, .st (.tmp 2) 16 (.tmp 6), none⟩])
 (.ret))),
 [.cells 2 16], 7)
end Go.Msk

namespace Go.Msk
open Go.RowKit
set_option maxRecDepth 100000
def fitV (kind : Int) (part : TR → TR) (null : Bool) (t : TR) : TR :=
  if kind = 8 ∨ kind = 9 then .mk 0 (wholeP t.s) null [] []
  else if kind = 10 then .mk (part t).n (part t).s null (part t).l (part t).u
  else .mk t.n t.s false [] []
def fitU (fs : List FD) (u : List (Nat × List UInt8)) : List (Nat × List UInt8) := (unknownP fs u).map fun p => (p.1, wholeP p.2)
mutual
/-- A field that fits. -/
def FD.fit (ver : Int) : FD → TR → TR
  | .mk kind frm to null tag dfl of sub, t =>
    if kind = 11 then .mk 0 [] (FD.nullV (.mk kind frm to null tag dfl of sub) ver t || (decide (tag ≥ 0) && decide (t.l.length = 0))) ((t.l.take 32767).map (fitV of (fun y => .mk 0 [] false (fitL ver sub 0 y) (fitU sub y.u)) false)) []
    else fitV kind (fun y => .mk 0 [] false (fitL ver sub 0 y) (fitU sub y.u)) (FD.nullV (.mk kind frm to null tag dfl of sub) ver t) t
/-- Fields that fit. -/
def fitL (ver : Int) : List FD → Nat → TR → List TR
  | [], _, _ => []
  | f :: r, i, t => f.fit ver (t.at i) :: fitL ver r (i + 1) t
end
def fitT (ver : Int) (fs : List FD) (t : TR) : TR := .mk 0 [] false (fitL ver fs 0 t) (fitU fs t.u)
theorem fitL_length (ver : Int) : ∀ (fs : List FD) (i : Nat) (t : TR), (fitL ver fs i t).length = fs.length
  | [], _, _ => rfl
  | f :: r, i, t => by simp [fitL, fitL_length ver r]
theorem fitL_get (ver : Int) (t : TR) : ∀ (fs : List FD) (i j : Nat) (f : FD), fs[j]? = some f → (fitL ver fs i t)[j]? = some (f.fit ver (t.at (i + j)))
  | [], _, _, _, h => by simp at h
  | g :: r, i, 0, f, h => by simp at h; subst h; simp [fitL]
  | g :: r, i, j + 1, f, h => by
    simp only [List.getElem?_cons_succ] at h
    have := fitL_get ver t r (i + 1) j f h
    simp only [fitL, List.getElem?_cons_succ, this]
    congr 3; omega
def FitC (P : Program) (F : Nat → Nat) (fds : List FD) : Prop :=
  ∀ (N : Nat) (w : World) (sv : Value) (css : List (List Value)) (ver : Int) (t : TR) (ts : List Value), N ≤ w.heap.size → SlC anyB w sv fds.length css.flatten → RepFL anyB w fds css → RepT (fun b => b < N) w t ts →
    Calls P (F sFit) [sv, .int .i64 ver, .agg ts.toArray].toArray w fun e w' => ∃ cs', e = .returned (.agg cs'.toArray) ∧ RepT (fun b => b < N ∨ w.heap.size ≤ b) w' (fitT ver fds t) cs' ∧ Mod [] w w'
def FitdC (P : Program) (F : Nat → Nat) (f : FD) : Prop :=
  ∀ (N : Nat) (w : World) (fcs : List Value) (ver : Int) (t : TR) (ts : List Value), N ≤ w.heap.size → RepF anyB w f fcs → RepT (fun b => b < N) w t ts →
    Calls P (F sFitted) [.agg fcs.toArray, .int .i64 ver, .agg ts.toArray].toArray w fun e w' => ∃ cs', e = .returned (.agg cs'.toArray) ∧ RepT (fun b => b < N ∨ w.heap.size ≤ b) w' (f.fit ver t) cs' ∧ Mod [] w w'
theorem GU.same {w3 w w' : World} {Ob : Nat} {n : Int} {sv lv uv : Value} {null : Bool} {N : Nat} {us : List (Nat × List UInt8)} {ucs : List (List Value)} (h : GU w3 w Ob n sv lv uv null N us ucs) (hm : Mod [] w w') : GU w3 w' Ob n sv lv uv null N us ucs :=
  ⟨h.ob.mod hm (by simp), ⟨h.raw.two, h.raw.sl.imp id fun ⟨BA, cap, rest, g1, g2, g3, g4, g5⟩ => ⟨BA, cap, rest, g1, g2, g3, g4.mod hm (by simp), g5⟩⟩, h.rep.mod hm (by simp) (fun _ _ h => h), h.mod.trans hm.nil, h.lob, h.nob⟩
theorem GU.step {P : Program} {w3 w : World} {Ob : Nat} {n : Int} {sv lv uv : Value} {null : Bool} {N k : Nat} {us : List (Nat × List UInt8)} {ucs : List (List Value)} {v : Value} {b : List UInt8} {sb : Nat} {σ : Sl} {x y a : Operand} {d1 d2 : Nat} {Q : Sl → World → Prop} (h : GU w3 w Ob n sv lv uv null N us ucs)
    (hx : ev σ x = uv) (hy : ev σ y = .slice (some ⟨sb, 0, none⟩) 1 1) (hsb : Blk w sb [.int .u32 k, v]) (hv : SlC (fun b => b < N) w v b.length (u8s b)) (hlen : ucs.length ≤ 2147483647)
    (ha : ∀ v, ev (upd σ d1 v) a = .pointer (some ⟨Ob, 0, none⟩)) (hd : d1 ≠ d2)
    (hQ : ∀ w' uv', GU w3 w' Ob n sv lv uv' null N (us ++ [(k, b)]) (ucs ++ [[.int .u32 k, v]]) → Q (upd (upd σ d1 uv') d2 (.pointer (some ⟨Ob, 4, none⟩))) w') :
    wpR P [⟨some d1, .append x y 2 32, none⟩, ⟨some d2, .fad a 4, none⟩, ⟨none, .st (.tmp d2) 1 (.tmp d1), none⟩] σ w Q := by
  have hlob := h.lob
  have hnob := h.nob
  obtain ⟨vb, vc, evj⟩ := hv.shape
  refine wpR_run ?_
  refine append_two (lv := uv) (n0 := w3.heap.size) hx h.raw h.mod.size hy hsb rfl (by rw [evj]; simp [Value.oneCell']) (by omega) fun uv' w1 hraw1 hown => ?_
  have hge : ∀ b, own uv = some b → w3.heap.size ≤ b := fun b hb => by
    rcases h.raw.sl with ⟨e, -⟩ | ⟨BA, cap, rest, e, g2, g3, -⟩
    · rw [e] at hb; simp [own] at hb
    · rw [e] at hb; simp only [own, Option.some.injEq] at hb; omega
  have key : Blk w1 Ob [.int .i64 n, sv, .bool null, lv, uv] ∧ Mod [Ob] w3 w1 ∧ RepU (fun b => b < N) w1 (us ++ [(k, b)]) (ucs ++ [[.int .u32 k, v]]) := by
    have hS : ∀ b ∈ (own uv).toList, own uv = some b := fun b hb => by simpa using hb
    have hrep : RepU (fun b => b < N) w (us ++ [(k, b)]) (ucs ++ [[.int .u32 k, v]]) := h.rep.append (.cons hv .nil)
    rcases hown with ⟨⟨ho, hm⟩, -⟩ | ⟨ho, hm⟩
    · refine ⟨h.ob.mod hm (fun hc => by have := hge _ (hS _ hc); omega), ?_, hrep.mod hm (fun b hb hc => by have := hge _ (hS _ hb); omega) fun _ _ h => h⟩
      refine ⟨hm.os.trans h.mod.os, hm.tape.trans h.mod.tape, hm.output.trans h.mod.output, Nat.le_trans h.mod.size hm.size, fun k hk hn => ?_⟩
      rw [hm.block k (Nat.lt_of_lt_of_le hk h.mod.size) (fun hc => by have := hge _ (hS _ hc); omega)]
      exact h.mod.block k hk hn
    · exact ⟨h.ob.mod hm (by simp), h.mod.trans hm.nil, hrep.mod hm (by simp) fun _ _ h => h⟩
  obtain ⟨k1, k2, k3⟩ := key
  have o1 : uv'.cells = #[uv'] ∧ uv'.oneCell' = true := by
    rcases hraw1.sl with ⟨e, -⟩ | ⟨BA, cap, rest, e, -⟩ <;> subst e <;> exact ⟨rfl, rfl⟩
  have hput : Mod [Ob] w1 (putCells w1 ⟨Ob, 4, none⟩ 0 [uv']) := Mod.put (by simp)
  have hp := k1.put (o := 4) (vs := [uv']) (by simp)
  have e1 : splice [Value.int .i64 n, sv, .bool null, lv, uv] 4 [uv'] = [.int .i64 n, sv, .bool null, lv, uv'] := by simp [splice]
  rw [e1] at hp
  refine wpR_step (v := .pointer (some ⟨Ob, 4, none⟩)) (by
    show (RK.fad a 4).val? (upd σ d1 uv') w1 = _
    simp only [RK.val?, ha uv', Addr.add_mk, Nat.zero_add]) ?_
  have s1 : (updo (updo σ (some d1) uv') (some d2) (.pointer (some ⟨Ob, 4, none⟩))) d1 = uv' := by simp only [updo, upd, hd, if_false, if_true]
  have s2 : (updo (updo σ (some d1) uv') (some d2) (.pointer (some ⟨Ob, 4, none⟩))) d2 = .pointer (some ⟨Ob, 4, none⟩) := by simp only [updo, upd, if_true]
  have hge' : ∀ b, own uv' = some b → w3.heap.size ≤ b := fun b hb => by
    rcases hraw1.sl with ⟨e, -⟩ | ⟨BA, cap, rest, e, g2, g3, -⟩
    · rw [e] at hb; simp [own] at hb
    · rw [e] at hb; simp only [own, Option.some.injEq] at hb; omega
  refine wpR_run ?_
  simp only [RK.run, ev, s1, s2, o1]
  refine ⟨rfl, stOk_one k1 (by simp) o1.2, ?_⟩
  refine hQ _ uv' ⟨hp, ⟨hraw1.two, hraw1.sl.imp id fun ⟨BA, cap, rest, g1, g2, g3, g4, g5⟩ => ⟨BA, cap, rest, g1, g2, g3, g4.mod hput (by have := hge' BA (by rw [g1]; rfl); simp; omega), g5⟩⟩, k3.mod hput (fun b hb hc => by
    simp only [List.mem_singleton] at hb; omega) (fun _ _ h => h), k2.trans hput, hlob, hnob⟩
end Go.Msk

namespace Go.Msk
open Go.RowKit
set_option maxRecDepth 100000
section
variable {P : Program} {F : Nat → Nat}
attribute [local simp] bnd wpC wpR RI.wp gOk RK.run thenC inBlockC updo upd ev args0 postC rvals RV.val tup_one isShift
theorem got_loop2 {N : Nat} {w w3 : World} {Pb b2 Ob : Nat} {n : Int} {sv lv uv0 : Value} {null : Bool} {u : List (Nat × List UInt8)} {uss : List (List Value)} {σ : Sl} {Q : Exit → Sl → World → Prop}
    (hw : Mod [] w w3 ∨ (Mod [Ob] w w3)) (_hN : N ≤ w.heap.size) (hu : SlC (fun b => b < N) w uv0 u.length uss.flatten) (hr : RepU (fun b => b < N) w u uss) (hlen : u.length ≤ 2147483647)
    (hob : Blk w3 Ob [.int .i64 n, sv, .bool null, lv, .slice none 0 0]) (hoN : N ≤ Ob)
    (h1 : σ 1 = .pointer (some ⟨Pb, 0, none⟩)) (h2 : σ 2 = .pointer (some ⟨b2, 0, none⟩)) (h3 : σ 3 = .pointer (some ⟨Ob, 0, none⟩)) (hpb : w3.cell? ⟨Pb, 4, none⟩ = some uv0)
    (hQ : ∀ σ' w' uv ucs, σ' 2 = .pointer (some ⟨b2, 0, none⟩) → σ' 3 = .pointer (some ⟨Ob, 0, none⟩) → GU w3 w' Ob n sv lv uv null N u ucs → ucs.length = u.length → Q .normal σ' w') :
    wpC P (.seq (.blk [⟨some 30, .fad (.tmp 1) 4, none⟩, ⟨some 31, .ld (.tmp 30), none⟩, ⟨some 32, .len (.tmp 31), none⟩, ⟨some 33, .mv (.const (.int .i64 0)), none⟩])
      (.block 2 (.loop (.seq (.blk [⟨some 34, .bin .lss (.tmp 33) (.tmp 32), none⟩]) (.seq (.cond (.tmp 34) .skip (.exit 2))
        (.seq (.block 3 (.seq (.blk [⟨some 35, .iad (.tmp 31) (.tmp 33) 2, none⟩, ⟨some 36, .ldn (.tmp 35) 2, none⟩, ⟨some 7, .alloc uzero, none⟩, ⟨none, .st (.tmp 7) 2 (.tmp 36), none⟩])
            (.blk [⟨some 37, .fad (.tmp 3) 4, none⟩, ⟨some 38, .ld (.tmp 37), none⟩, ⟨some 39, .fad (.tmp 7) 0, none⟩, ⟨some 40, .ld (.tmp 39), none⟩, ⟨some 41, .fad (.tmp 7) 1, none⟩, ⟨some 42, .ld (.tmp 41), none⟩,
                ⟨some 43, .build uzero [(0, 1, .tmp 40), (1, 1, .tmp 42)], none⟩, ⟨some 44, .bslice 1 uzero [(0, 2, .tmp 43)], none⟩, ⟨some 45, .append (.tmp 38) (.tmp 44) 2 32, none⟩, ⟨some 46, .fad (.tmp 3) 4, none⟩, ⟨none, .st (.tmp 46) 1 (.tmp 45), none⟩])))
          (.blk [⟨some 47, .bin .add (.tmp 33) (.const (.int .i64 1)), none⟩, ⟨some 33, .mv (.tmp 47), none⟩])))))))
      Q σ w3 := by
  obtain ⟨lb, lc, elv⟩ := hu.shape
  have hol := hob.lt
  have hw' : Mod [Ob] w w3 := hw.elim (·.nil) id
  rw [wpC_seq, wpC_blk]
  refine wpR_step (v := .pointer (some ⟨Pb, 4, none⟩)) (by simp [RK.val?, h1, Addr.add_mk]) ?_
  refine wpR_step (v := uv0) (by simp [RK.val?, hpb]) ?_
  refine wpR_step (v := .int .i64 u.length) (by simp [RK.val?, elv]) ?_
  refine wpR_step (v := .int .i64 0) (by simp [RK.val?]) ?_
  simp only [wpR, thenC]
  rw [wpC_block, wpC_loop]
  refine ⟨fun σ1 w1 => ∃ j uv ucs, j ≤ u.length ∧ σ1 2 = .pointer (some ⟨b2, 0, none⟩) ∧ σ1 3 = .pointer (some ⟨Ob, 0, none⟩) ∧ σ1 31 = uv0 ∧ σ1 32 = .int .i64 u.length ∧ σ1 33 = .int .i64 j ∧
      GU w3 w1 Ob n sv lv uv null N (u.take j) ucs ∧ ucs.length = j,
    fun σ1 _ => u.length - (match σ1 33 with | .int _ j => j.toNat | _ => 0), ⟨0, .slice none 0 0, [], Nat.zero_le _, by simp [h2], by simp [h3], by simp, by simp, by simp, ⟨hob, ⟨by simp, .inl ⟨rfl, rfl⟩⟩, by simpa using .nil, Mod.refl _ _, hol, hoN⟩, rfl⟩, ?_⟩
  rintro σ1 w1 ⟨j, uv, ucs, hj, s2, s3, s31, s32, s33, hgs, htl⟩
  rw [wpC_seq, wpC_blk]
  refine wpR_step (v := .bool (decide ((j : Int) < u.length))) (by simp [RK.val?, s32, s33, intBin]) ?_
  simp only [wpR, thenC]
  rw [wpC_seq]
  by_cases hlt : j < u.length
  · rw [wpC_cond_t (by simp [hlt]), wpC_skip]
    simp only [thenC]
    rw [wpC_seq, wpC_block, wpC_seq, wpC_blk]
    obtain ⟨tj, htj⟩ : ∃ t, u[j]? = some t := ⟨u[j], List.getElem?_eq_getElem hlt⟩
    have hmw : Mod [Ob] w w1 := hw'.trans hgs.mod
    have hNob : ∀ b ∈ [Ob], ¬ b < N := fun b hb => by simp only [List.mem_singleton] at hb; have := hgs.nob; omega
    obtain ⟨vj, hcj, hrj⟩ := (hr.mod (ok' := fun b => b < N) hmw hNob fun _ _ h => h).nth htj
    obtain ⟨pa, pc, ep, -, hcells⟩ := (hu.mod (ok' := fun b => b < N) hmw hNob fun _ _ h => h).flat hr.length hr.two hcj
    obtain ⟨vb, vc, evj⟩ := hrj.shape
    refine wpR_step (v := .pointer (some (pa.add (j * 2)))) (by simp [RK.val?, s31, s33, ep, hlt]) ?_
    refine wpR_step (v := .agg [.int .u32 tj.1, vj].toArray) (by simp [RK.val?, hcells]) ?_
    refine wpR_run ?_
    intro Ty
    obtain ⟨q1, q2, q3⟩ := new_put w1 uzero [.int .u32 tj.1, vj] Ty rfl (by rw [evj]; simp [Value.oneCell'])
    refine wpR_run ?_
    have ec' : (Value.agg [.int .u32 tj.1, vj].toArray).cells.toList = [.int .u32 tj.1, vj] := rfl
    simp only [RK.run, ev, updo, upd]
    simp only [if_true, show (36 : Nat) ≠ 7 by decide, if_false, ec']
    refine ⟨rfl, q1, ?_⟩
    generalize hw4 : putCells (w1.alloc (.cells uzero.toArray Ty)) ⟨w1.heap.size, 0, none⟩ 0 [.int .u32 tj.1, vj] = w4 at q2 q3
    simp only [wpR, thenC]
    rw [wpC_blk]
    have hob4 := hgs.ob.mod q3 (by simp)
    have hraw4 : LRaw2 w4 w3.heap.size uv ucs := ⟨hgs.raw.two, hgs.raw.sl.imp id fun ⟨BA, cap, rest, g1, g2, g3, g4, g5⟩ => ⟨BA, cap, rest, g1, g2, g3, g4.mod q3 (by simp), g5⟩⟩
    have c0 := q2.cell 0
    have c1 := q2.cell 1
    refine wpR_step (v := .pointer (some ⟨Ob, 4, none⟩)) (by simp [RK.val?, s3, Addr.add_mk]) ?_
    refine wpR_step (v := uv) (by simp [RK.val?]; exact hob4.cell 4) ?_
    refine wpR_step (v := .pointer (some ⟨w1.heap.size, 0, none⟩)) (by simp [RK.val?, Addr.add_mk]) ?_
    refine wpR_step (v := .int .u32 tj.1) (by simp [RK.val?]; simpa using c0) ?_
    refine wpR_step (v := .pointer (some ⟨w1.heap.size, 1, none⟩)) (by simp [RK.val?, Addr.add_mk]) ?_
    refine wpR_step (v := vj) (by simp [RK.val?]; simpa using c1) ?_
    refine wpR_step (v := .agg [.int .u32 tj.1, vj].toArray) (by simp [RK.val?, uzero, fillL, splice, Value.cells, evj]) ?_
    refine wpR_run ?_
    have hf : fillL (zrep 1 uzero) [(0, 2, Value.agg [.int .u32 tj.1, vj].toArray)] = some [.int .u32 tj.1, vj] := by
      simp [zrep, uzero, fillL, splice, Value.cells]
    simp only [RK.run, List.map_cons, List.map_nil, ev, updo, upd, if_true, hf]
    intro T5
    have hm5 : Mod [] w4 (w4.alloc (.cells [.int .u32 tj.1, vj].toArray T5)) := Mod.alloc _ _ _
    have hb5 : Blk (w4.alloc (.cells [.int .u32 tj.1, vj].toArray T5)) w4.heap.size [.int .u32 tj.1, vj] := Blk.new _ _ _
    generalize w4.alloc (.cells [.int .u32 tj.1, vj].toArray T5) = w5 at hm5 hb5
    have hob5 := hob4.mod hm5 (by simp)
    have hraw5 : LRaw2 w5 w3.heap.size uv ucs := ⟨hraw4.two, hraw4.sl.imp id fun ⟨BA, cap, rest, g1, g2, g3, g4, g5⟩ => ⟨BA, cap, rest, g1, g2, g3, g4.mod hm5 (by simp), g5⟩⟩
    have hm15 : Mod [] w1 w5 := q3.trans hm5
    have hm35 : Mod [Ob] w3 w5 := hgs.mod.trans hm15.nil
    refine wpR_run ?_
    refine append_two (lv := uv) (n0 := w3.heap.size) (by simp) hraw5 hm35.size (by simp) hb5 rfl (by rw [evj]; simp [Value.oneCell']) (by omega) fun uv' w6 hraw6 hown => ?_
    have hlob := hgs.lob
    have hge : ∀ b, own uv = some b → w3.heap.size ≤ b := fun b hb => by
      rcases hraw5.sl with ⟨e, -⟩ | ⟨BA, cap, rest, e, g2, g3, -⟩
      · rw [e] at hb; simp [own] at hb
      · rw [e] at hb; simp only [own, Option.some.injEq] at hb; omega
    have hnN : N ≤ w3.heap.size := by have := hgs.nob; omega
    have key : Blk w6 Ob [.int .i64 n, sv, .bool null, lv, uv] ∧ Mod [Ob] w3 w6 ∧ RepU (fun b => b < N) w6 (u.take j ++ [tj]) (ucs ++ [[.int .u32 tj.1, vj]]) := by
      have hS : ∀ b ∈ (own uv).toList, own uv = some b := fun b hb => by simpa using hb
      have hrep5 : RepU (fun b => b < N) w5 (u.take j ++ [tj]) (ucs ++ [[.int .u32 tj.1, vj]]) := (hgs.rep.mod hm15 (by simp) fun _ _ h => h).append (.cons (hrj.mod hm15 (by simp) fun _ _ h => h) .nil)
      rcases hown with ⟨⟨ho, hm⟩, -⟩ | ⟨ho, hm⟩
      · refine ⟨hob5.mod hm (fun hc => by have := hge _ (hS _ hc); omega), ?_, hrep5.mod hm (fun b hb hc => by have := hge _ (hS _ hb); omega) fun _ _ h => h⟩
        refine ⟨hm.os.trans hm35.os, hm.tape.trans hm35.tape, hm.output.trans hm35.output, Nat.le_trans hm35.size hm.size, fun k hk hn => ?_⟩
        rw [hm.block k (Nat.lt_of_lt_of_le hk hm35.size) (fun hc => by have := hge _ (hS _ hc); omega)]
        exact hm35.block k hk hn
      · exact ⟨hob5.mod hm (by simp), hm35.trans hm.nil, hrep5.mod hm (by simp) fun _ _ h => h⟩
    obtain ⟨k1, k2, k3⟩ := key
    have o1 : uv'.cells = #[uv'] ∧ uv'.oneCell' = true := by
      rcases hraw6.sl with ⟨e, -⟩ | ⟨BA, cap, rest, e, -⟩ <;> subst e <;> exact ⟨rfl, rfl⟩
    have hput : Mod [Ob] w6 (putCells w6 ⟨Ob, 4, none⟩ 0 [uv']) := Mod.put (by simp)
    have hp := k1.put (o := 4) (vs := [uv']) (by simp)
    have e1 : splice [Value.int .i64 n, sv, .bool null, lv, uv] 4 [uv'] = [.int .i64 n, sv, .bool null, lv, uv'] := by simp [splice]
    rw [e1] at hp
    refine wpR_step (v := .pointer (some ⟨Ob, 4, none⟩)) (by simp [RK.val?, s3, Addr.add_mk]) ?_
    refine wpR_run ?_
    simp only [RK.run, ev, updo, upd, if_true, show (45 : Nat) ≠ 46 by decide, if_false, o1.1]
    refine ⟨rfl, stOk_one k1 (by simp) o1.2, ?_⟩
    have hge' : ∀ b, own uv' = some b → w3.heap.size ≤ b := fun b hb => by
      rcases hraw6.sl with ⟨e, -⟩ | ⟨BA, cap, rest, e, g2, g3, -⟩
      · rw [e] at hb; simp [own] at hb
      · rw [e] at hb; simp only [own, Option.some.injEq] at hb; omega
    simp only [wpR, inBlockC, thenC]
    have hw : IntKind.i64.wrap ((j : Int) + 1) = ((j + 1 : Nat) : Int) := by
      simp only [IntKind.wrap, IntKind.bits, IntKind.signed]; simp; omega
    rw [wpC_blk]
    refine wpR_step (v := .int .i64 ((j + 1 : Nat) : Int)) (by simp [RK.val?, intBin, s33, hw]) ?_
    refine wpR_step (v := .int .i64 ((j + 1 : Nat) : Int)) (by simp [RK.val?]) ?_
    simp only [wpR, thenC]
    refine ⟨⟨j + 1, uv', ucs ++ [[.int .u32 tj.1, vj]], hlt, by simp [s2], by simp [s3], by simp [s31], by simp [s32], by simp, ?_, by simp [htl]⟩, ?_⟩
    · rw [List.take_add_one, htj]
      refine ⟨by simpa using hp, ⟨hraw6.two, hraw6.sl.imp id fun ⟨BA, cap, rest, g1, g2, g3, g4, g5⟩ => ⟨BA, cap, rest, g1, g2, g3, by simpa using g4.mod hput (by have := hge' BA (by rw [g1]; rfl); simp; omega), g5⟩⟩, ?_, by simpa using k2.trans hput, hlob, hgs.nob⟩
      exact k3.mod hput (fun b hb hc => by simp only [List.mem_singleton] at hb; have := hgs.nob; omega) fun _ _ h => h
    · simp [s33]; show u.length - (j + 1) < u.length - j; omega
  · rw [wpC_cond_f (by simp; omega)]
    have hje : j = u.length := by omega
    subst hje
    rw [List.take_length] at hgs
    simp only [wpC, inBlockC, thenC, if_true]
    exact hQ _ w1 uv ucs (by simp [s2]) (by simp [s3]) hgs htl
end
end Go.Msk

namespace Go.Msk
open Go.RowKit
set_option maxRecDepth 100000
section
variable {P : Program} {F : Nat → Nat}
theorem LRaw.slc {w : World} {n0 : Nat} {lv : Value} {css : List (List Value)} (h : LRaw w n0 lv css) {ok : Nat → Prop} (hok : ∀ b, n0 ≤ b → ok b) : SlC ok w lv css.length css.flatten := by
  rcases h.sl with ⟨rfl, rfl⟩ | ⟨BA, cap, rest, rfl, q2, q3, q4, q5⟩
  · exact SlC.nil
  · refine ⟨some ⟨BA, 0, none⟩, cap, rfl, q2, fun h => by simp at h, fun a ha _ => ?_⟩
    simp only [Option.some.injEq] at ha; subst ha
    refine ⟨hok _ q3, q4.lt, ?_⟩
    have := q4.cells.take css.flatten.length
    rwa [List.take_left] at this
theorem LRaw2.slc {w : World} {n0 : Nat} {lv : Value} {css : List (List Value)} (h : LRaw2 w n0 lv css) {ok : Nat → Prop} (hok : ∀ b, n0 ≤ b → ok b) : SlC ok w lv css.length css.flatten := by
  rcases h.sl with ⟨rfl, rfl⟩ | ⟨BA, cap, rest, rfl, q2, q3, q4, q5⟩
  · exact SlC.nil
  · refine ⟨some ⟨BA, 0, none⟩, cap, rfl, q2, fun h => by simp at h, fun a ha _ => ?_⟩
    simp only [Option.some.injEq] at ha; subst ha
    refine ⟨hok _ q3, q4.lt, ?_⟩
    have := q4.cells.take css.flatten.length
    rwa [List.take_left] at this
theorem got_one (hm : P.follows .mixedOrders = true) (h : liftF P (F lGot) = some (ir_lGot F)) {n : Int} {s : List UInt8} {null : Bool} {l : List TR} {u : List (Nat × List UInt8)} (hf : ∀ t ∈ l, GotAt P (F lGot) t)
    (hl : l.length ≤ 2147483647) (hul : u.length ≤ 2147483647) : GotAt P (F lGot) (.mk n s null l u) := by
  intro N w cs hN hrep
  obtain ⟨sv, lv0, uv0, css, uss, rfl, h1, h2, h3, h4, h5⟩ : ∃ sv lv0 uv0 css uss, cs = [.int .i64 n, sv, .bool null, lv0, uv0] ∧ SlC (fun b => b < N) w sv s.length (u8s s) ∧ SlC (fun b => b < N) w lv0 l.length css.flatten ∧ RepTL (fun b => b < N) w l css ∧
      SlC (fun b => b < N) w uv0 u.length uss.flatten ∧ RepU (fun b => b < N) w u uss := by
    cases hrep with | mk h1 h2 h3 h4 h5 => exact ⟨_, _, _, _, _, rfl, h1, h2, h3, h4, h5⟩
  refine call_of h hm (by simp) ?_
  have a0 : args0 [.agg [.int .i64 n, sv, .bool null, lv0, uv0].toArray] 0 = .agg [.int .i64 n, sv, .bool null, lv0, uv0].toArray := rfl
  generalize args0 [.agg [.int .i64 n, sv, .bool null, lv0, uv0].toArray] = σ0 at a0 ⊢
  rw [wpC_seq, wpC_blk]
  refine wpR_run ?_
  have ec : (Value.agg [.int .i64 n, sv, .bool null, lv0, uv0].toArray).cells.toList = [.int .i64 n, sv, .bool null, lv0, uv0] := rfl
  simp only [RK.run, ev, a0, ec]
  intro T1
  have b1 := Blk.new w [.int .i64 n, sv, .bool null, lv0, uv0] T1
  have m1 : Mod [] w (w.alloc (.cells [.int .i64 n, sv, .bool null, lv0, uv0].toArray T1)) := Mod.alloc _ _ _
  have z1 : (w.alloc (.cells [.int .i64 n, sv, .bool null, lv0, uv0].toArray T1)).heap.size = w.heap.size + 1 := by simp
  generalize w.alloc (.cells [.int .i64 n, sv, .bool null, lv0, uv0].toArray T1) = w1 at b1 m1 z1 ⊢
  refine wpR_run ?_
  have hz : ([Value.int .i64 0, .slice none 0 0, .bool false, .slice none 0 0, .slice none 0 0] : List Value) = tzero := rfl
  rw [hz]
  simp only [RK.run]
  intro T2
  have b2 := Blk.new w1 tzero T2
  have m2 : Mod [] w1 (w1.alloc (.cells tzero.toArray T2)) := Mod.alloc _ _ _
  have z2 : (w1.alloc (.cells tzero.toArray T2)).heap.size = w1.heap.size + 1 := by simp
  generalize w1.alloc (.cells tzero.toArray T2) = w2 at b2 m2 z2 ⊢
  simp only [wpR, thenC]
  rw [wpC_seq, wpC_blk]
  have b12 := b1.mod m2 (by simp)
  have s1 : ∀ x y, updo (updo σ0 (some 1) x) (some 2) y 1 = x := fun x y => by simp [updo, upd]
  have c0 := b12.cell 0
  have c1 := b12.cell 1
  have c2 := b12.cell 2
  simp only [List.getElem?_cons_zero, List.getElem?_cons_succ] at c0 c1 c2
  obtain ⟨svb, svc, esv⟩ := h1.shape
  refine wpR_step (v := .pointer (some ⟨w.heap.size, 0, none⟩)) (by simp [RK.val?, ev, updo, upd, Addr.add_mk]) ?_
  refine wpR_step (v := .int .i64 n) (by simp only [RK.val?, ev, updo, upd_same, c0]) ?_
  refine wpR_step (v := .pointer (some ⟨w.heap.size, 1, none⟩)) (by simp [RK.val?, ev, updo, upd, Addr.add_mk]) ?_
  refine wpR_step (v := sv) (by simp only [RK.val?, ev, updo, upd_same, c1]) ?_
  refine wpR_step (v := .pointer (some ⟨w.heap.size, 2, none⟩)) (by simp [RK.val?, ev, updo, upd, Addr.add_mk]) ?_
  refine wpR_step (v := .bool null) (by simp only [RK.val?, ev, updo, upd_same, c2]) ?_
  refine wpR_step (v := .agg [.int .i64 n, sv, .bool null, .slice none 0 0, .slice none 0 0].toArray) (by simp [RK.val?, ev, updo, upd, tzero, fillL, splice, Value.cells, esv]) ?_
  refine wpR_run ?_
  simp only [RK.run]
  intro T3
  obtain ⟨q1, q2, q3⟩ := new_put w2 tzero [.int .i64 n, sv, .bool null, .slice none 0 0, .slice none 0 0] T3 rfl (by rw [esv]; simp [Value.oneCell'])
  refine wpR_run ?_
  have ec2 : (Value.agg [.int .i64 n, sv, .bool null, .slice none 0 0, .slice none 0 0].toArray).cells.toList = [.int .i64 n, sv, .bool null, .slice none 0 0, .slice none 0 0] := rfl
  simp only [RK.run, ev, updo, upd]
  simp only [if_true, show (14 : Nat) ≠ 3 by decide, if_false, ec2]
  refine ⟨rfl, q1, ?_⟩
  have hsz3 : (putCells (w2.alloc (.cells tzero.toArray T3)) ⟨w2.heap.size, 0, none⟩ 0 [.int .i64 n, sv, .bool null, .slice none 0 0, .slice none 0 0]).heap.size = w2.heap.size + 1 := by rw [size_putCells]; simp
  generalize putCells (w2.alloc (.cells tzero.toArray T3)) ⟨w2.heap.size, 0, none⟩ 0 [.int .i64 n, sv, .bool null, .slice none 0 0, .slice none 0 0] = w3 at q2 q3 hsz3
  have m03 : Mod [] w w3 := (m1.trans m2).trans q3
  simp only [wpR, thenC]
  rw [wpC_seq]
  refine got_loop1 (Pb := w.heap.size) (b2 := w1.heap.size) (Ob := w2.heap.size) (n := n) (sv := sv) (null := null) hf m03 hN h2 h3 hl q2 (by omega) (by simp [upd]) (by simp [upd]) (by simp [upd]) ((b12.mod q3 (by simp)).cell 3) fun σ4 w4 lv tcs t1 t2 t3 hgs hln => ?_
  simp only [thenC]
  rw [wpC_seq]
  have m04 : Mod [w2.heap.size] w w4 := m03.nil.trans hgs.mod
  have nO : ∀ b ∈ [w2.heap.size], ¬ b < N := fun b hb => by simp only [List.mem_singleton] at hb; omega
  refine got_loop2 (Pb := w.heap.size) (b2 := w1.heap.size) (Ob := w2.heap.size) (n := n) (sv := sv) (null := null) (.inr m04) hN h4 h5 hul hgs.ob (by omega) t1 t2 t3 (((b12.mod q3 (by simp)).mod hgs.mod (by simp; omega)).cell 4) fun σ5 w5 uv ucs r2 r3 hgu hun => ?_
  simp only [thenC]
  rw [wpC_seq, wpC_blk]
  refine wpR_step (v := .agg [.int .i64 n, sv, .bool null, lv, uv].toArray) (by simp only [RK.val?, ev, r3, cellsAt_of' hgu.ob.cells (n := 5) rfl, Option.map_some]) ?_
  have m05 : Mod [w2.heap.size] w w5 := m04.trans hgu.mod
  have m45 := hgu.mod
  have own_ne : ∀ b, own lv = some b → w3.heap.size ≤ b := fun b hb => (hgs.raw.own hb).1
  have hraw5 : LRaw w5 w3.heap.size lv tcs := hgs.raw.mod m45 (fun b hb => by have := own_ne b hb; simp; omega)
  have hrep5 : RepTL (fun b => b < N ∨ (w3.heap.size ≤ b ∧ own lv ≠ some b)) w5 l tcs := hgs.rep.mod m45 (fun b hb hc => by
    simp only [List.mem_singleton] at hb
    rcases hc with hc | hc <;> omega) fun _ _ h => h
  have hb25 : Blk w5 w1.heap.size tzero := ((b2.mod q3 (by simp)).mod hgs.mod (by simp; omega)).mod m45 (by simp; omega)
  have hs5 := h1.mod (ok' := fun b => b < N) m05 nO fun _ _ h => h
  have hfin : RepT (fun b => (b < N ∨ w.heap.size ≤ b) ∧ b ≠ w1.heap.size) w5 (.mk n s null l u) [.int .i64 n, sv, .bool null, lv, uv] := by
    refine .mk (css := tcs) (uss := ucs) (hs5.mod (Mod.refl [] _) (by simp) fun b _ hb => ⟨.inl hb, by omega⟩) ?_ (hrep5.mod (Mod.refl [] _) (by simp) fun b _ hb => ?_) ?_ (hgu.rep.mod (Mod.refl [] _) (by simp) fun b _ hb => ⟨.inl hb, by omega⟩)
    · rw [← hln]; exact hraw5.slc fun b hb => ⟨.inr (by omega), by omega⟩
    · rcases hb with hb | hb
      · exact ⟨.inl hb, by omega⟩
      · exact ⟨.inr (by omega), by omega⟩
    · rw [← hun]; exact hgu.raw.slc fun b hb => ⟨.inr (by have := hgs.mod.size; omega), by have := hgs.mod.size; omega⟩
  have hput : Mod [w1.heap.size] w5 (putCells w5 ⟨w1.heap.size, 0, none⟩ 0 [.int .i64 n, sv, .bool null, lv, uv]) := Mod.put (by simp)
  have hp := hb25.put (o := 0) (vs := [.int .i64 n, sv, .bool null, lv, uv]) (by simp [tzero])
  rw [splice_all (by rfl)] at hp
  refine wpR_run ?_
  have ec3 : (Value.agg [.int .i64 n, sv, .bool null, lv, uv].toArray).cells.toList = [.int .i64 n, sv, .bool null, lv, uv] := rfl
  simp only [RK.run, ev, updo, upd]
  simp only [show (2 : Nat) ≠ 48 by decide, if_false, if_true, r2, ec3]
  refine ⟨rfl, stOk_many hb25 (by simp [tzero]) hfin.oneCell, ?_⟩
  simp only [wpR, wpC, thenC, postC, rvals, List.mapM_cons, List.mapM_nil, RV.val, upd, show (2 : Nat) ≠ 48 by decide, if_false, r2, cellsAt_of' hp.cells (n := 5) rfl, Option.bind_eq_bind, Option.map_some, Option.bind_some, Option.pure_def, tup_one]
  refine ⟨_, rfl, hfin.mod hput (fun b hb hc => by simp only [List.mem_singleton] at hb; exact hc.2 hb) (fun b _ hb => hb.1), ?_⟩
  refine Mod.drop (b := w1.heap.size) (S := []) ?_ (by omega)
  refine Mod.drop (b := w2.heap.size) (S := [w1.heap.size]) ?_ (by omega)
  exact (m05.mono (by simp)).trans (hput.mono (by simp))
end
end Go.Msk

namespace Go.Msk
open Go.RowKit
set_option maxRecDepth 100000
theorem RepFL.lowN {w : World} {l : List FD} {cs : List (List Value)} (h : RepFL anyB w l cs) : RepFL (fun b => b < w.heap.size) w l cs := h.mod (Mod.refl [] w) (by simp) fun _ hb _ => hb
section
variable {P : Program} {F : Nat → Nat}
attribute [local simp] gOk updo upd ev RK.val? isShift intBin Addr.add_mk args0 Value.cells undef
theorem fit_body1 (hm : P.follows .mixedOrders = true) (ha : liftF P (F sAt) = some (ir_sAt F)) {N : Nat} {w0 w3 w : World} {c : Nat} {a : Addr} {fds : List FD} {css tcs : List (List Value)} {ver : Int} {t : TR} {ts : List Value} {tb Ob j n : Nat} {lv uv : Value} {out : List TR} {f : FD} {σ : Sl} {Q : Exit → Sl → World → Prop}
    (hF : FitdC P F f) (hN : N ≤ w0.heap.size) (hm03 : Mod [] w0 w3) (hO : w0.heap.size ≤ Ob) (hj : fds[j]? = some f) (hjn : j < n) (hn : n = fds.length) (hn2 : n < 1000) (hsv : SlC anyB w0 (.slice (some a) n c) n css.flatten) (hr : RepFL anyB w0 fds css) (ht : RepT (fun b => b < N) w0 t ts) (hbt3 : Blk w3 tb ts) (htb : tb ≠ Ob)
    (hg : GS w3 w Ob 0 (.slice none 0 0) lv uv false N out tcs) (htl : tcs.length = j)
    (h1 : σ 1 = .int .i64 ver) (h5 : σ 5 = .pointer (some ⟨tb, 0, none⟩)) (h7 : σ 7 = .pointer (some ⟨Ob, 0, none⟩)) (h13 : σ 13 = .slice (some a) n c) (h15 : σ 15 = .int .i64 (j : Nat))
    (hQ : ∀ σ' w' lv' tcs', (∀ s, s < 17 → s ≠ 8 → s ≠ 9 → σ' s = σ s) → GS w3 w' Ob 0 (.slice none 0 0) lv' uv false N (out ++ [f.fit ver (t.at j)]) tcs' → tcs'.length = j + 1 → Q .normal σ' w') : wpC P (ir_sFit_1 F) Q σ w := by
  unfold ir_sFit_1
  have hm0 : Mod [Ob] w0 w := hm03.nil.trans hg.mod
  have hbt : Blk w tb ts := hbt3.mod hg.mod (by simpa using htb)
  have nO : ∀ b ∈ [Ob], ¬ b < w0.heap.size := fun b hb => by simp only [List.mem_singleton] at hb; omega
  have nN : ∀ b ∈ [Ob], ¬ b < N := fun b hb => by simp only [List.mem_singleton] at hb; omega
  have hsv1 : SlC anyB w (.slice (some a) n c) n css.flatten := hsv.lowN.mod hm0 nO fun _ _ _ => trivial
  have hr1 : RepFL anyB w fds css := hr.lowN.mod hm0 nO fun _ _ _ => trivial
  have ht1 : RepT (fun b => b < N) w t ts := ht.mod hm0 nN fun _ _ h => h
  obtain ⟨fcs, hcs, hrf⟩ := hr1.nth hj
  obtain ⟨a', c', ea, -, hcell⟩ := hsv1.flat (by rw [hn]; exact hr1.length) hr1.eight hcs
  simp only [Value.slice.injEq, Option.some.injEq, true_and] at ea
  obtain ⟨rfl, rfl⟩ := ea
  rw [wpC_seq, wpC_blk]
  refine go1 (v := .int .i64 (j : Nat)) rfl (by simp [h15]) ?_
  refine go1 (v := .pointer (some (a.add (j * 8)))) rfl (by simp [h13, h15, hjn]) ?_
  refine go1 (v := .agg fcs.toArray) rfl (by simp [hcell]) ?_
  refine goAlloc fun w1 hb1 hm1 => ?_
  refine go1 (v := .int .i64 (j : Nat)) rfl (by simp) ?_
  refine goSt (b := w.heap.size) (v := .agg fcs.toArray) (by simp) (by simp) hb1 (by simp [hrf.eight]) rfl (by simpa using hrf.oneCell) fun w2 hb2 hm2 => ?_
  have hb2 : Blk w2 w.heap.size fcs := by simpa using hb2
  have hm02 : Mod [] w w2 := Mod.drop (b := w.heap.size) (S := []) (hm1.nil.trans hm2) (Nat.le_refl _)
  refine wpR_done ?_
  simp only [thenC, wpC]
  have hmd : Mod [] w w2.drew := hm02.trans (Mod.drew _ _)
  have hg2 := hg.same hmd
  have hbf : Blk w2.drew w.heap.size fcs := hb2.mod (Mod.drew [] _) (by simp)
  have hbt2 : Blk w2.drew tb ts := hbt.mod hmd (by simp)
  have ht2 := ht1.mod (ok' := fun b => b < N) hmd (by simp) fun _ _ h => h
  have hrf2 : RepF anyB w2.drew f fcs := hrf.keep hmd
  have hNw : N ≤ w2.drew.heap.size := Nat.le_trans hN (Nat.le_trans hm0.size hmd.size)
  have sz : w3.heap.size ≤ w2.drew.heap.size := Nat.le_trans hg.mod.size hmd.size
  generalize hw4 : w2.drew = w4 at hmd hg2 hbf hbt2 ht2 hrf2 hNw sz ⊢
  refine wpD_of_B (fun i v w' => match i with | 6 => ∃ cs, v = .agg cs.toArray ∧ RepT (fun b => b < N) w' (t.at j) cs | 7 => ∃ cs, v = .agg cs.toArray ∧ RepT (fun b => b < N ∨ w4.heap.size ≤ b) w' (f.fit ver (t.at j)) cs | 8 => ∃ sb cs, v = .slice (some ⟨sb, 0, none⟩) 1 1 ∧ Blk w' sb cs ∧ RepT (fun b => b < N ∨ w4.heap.size ≤ b) w' (f.fit ver (t.at j)) cs | _ => True) (by
    intro i v w w' h hm
    split at h
    · obtain ⟨cs, e1, e2⟩ := h; exact ⟨cs, e1, e2.mod hm (by simp) fun _ _ h => h⟩
    · obtain ⟨cs, e1, e2⟩ := h; exact ⟨cs, e1, e2.mod hm (by simp) fun _ _ h => h⟩
    · obtain ⟨sb, cs, e1, e2, e3⟩ := h; exact ⟨sb, cs, e1, e2.mod hm (by simp), e3.mod hm (by simp) fun _ _ h => h⟩
    · trivial) ?_
  refine bo1 (v := .pointer (some ⟨Ob, 3, none⟩)) rfl (by simp [h7]) ?_
  refine bo1 (v := lv) rfl (by simp; exact hg2.ob.cell 3) ?_
  refine bo1 (v := .agg fcs.toArray) rfl (by simp [cellsAt_of' hbf.cells hrf.eight]) ?_
  refine bo1 (v := .int .i64 ver) rfl (by simp [h1]) ?_
  refine bo1 (v := .agg ts.toArray) rfl (by simp [h5, cellsAt_of' hbt2.cells ht.five]) ?_
  refine bo1 (v := .int .i64 (j : Nat)) rfl (by simp) ?_
  refine boCall (vs := [.agg ts.toArray, .int .i64 (j : Nat)]) rfl (by simp) (fun w' hm' _ => (at_callO hm ha (ht2.mod (ok' := fun b => b < N) hm' (by simp) fun _ _ h => h)).mono ?_) ?_
  · rintro e w'' ⟨cs, rfl, hr, hm2⟩; exact ⟨_, rfl, hm2, cs, rfl, hr⟩
  rintro v6 ⟨_, cs6, rfl, -⟩
  refine boCall (vs := [.agg fcs.toArray, .int .i64 ver, .agg cs6.toArray]) rfl (by simp) (fun w' hm' hkn => ?_) ?_
  · obtain ⟨cs, e1, e2⟩ := known_get (j := 6) (t := 26) hkn (by simp) rfl rfl rfl rfl
    simp only [updo, upd, if_true, Value.agg.injEq, Array.mk.injEq] at e1
    have e1 : cs6 = cs := by simpa using e1
    subst e1
    refine (hF N w' fcs ver (t.at j) cs6 (Nat.le_trans hNw hm'.size) (hrf2.keep hm') e2).mono ?_
    rintro e w'' ⟨cs', rfl, g1, g2⟩
    exact ⟨_, rfl, g2, cs', rfl, g1.mod (Mod.refl [] _) (by simp) fun b _ hb => hb.imp id fun h => Nat.le_trans hm'.size h⟩
  rintro v7 ⟨_, cs7, rfl, h57⟩
  have h75 := h57.five
  refine boN rfl (fun w' hm' hkn => ?_) ?_
  · obtain ⟨cs, e1, e2⟩ := known_get (j := 7) (t := 27) hkn (by simp) rfl rfl rfl rfl
    simp only [updo, upd, if_true, Value.agg.injEq, Array.mk.injEq] at e1
    have e1 : cs7 = cs := by simpa using e1
    subst e1
    refine bslice_run (cs := cs7) (n0 := 0) (by simp) h75 (Nat.zero_le _) fun v w6 hbs hm6 => ?_
    obtain ⟨sb, cs', g1, g2, g3, g4, g5⟩ := hbs
    have : cs' = cs7 := by
      have := congrArg (fun v => match v with | Value.agg a => a.toList | _ => []) g5
      simpa using this
    subst this
    exact ⟨hm6, sb, cs', g1, g3, e2.mod hm6 (by simp) fun _ _ h => h⟩
  rintro v8 -
  intro w5 hm5 hkn
  obtain ⟨sb, es, e8, hblk, htree⟩ := known_get (j := 8) (t := 28) hkn (by simp) rfl rfl rfl rfl
  simp only [updo, upd, if_true] at e8
  subst e8
  refine (hg2.same hm5).step (wr := w4) (by simp) (by simp) hblk htree (by omega) (fun b hb => (hg2.raw.own hb).2) sz (fun v => by simp [h7]) (by decide) fun w6 lv' hgs6 => ?_
  refine hQ _ w6 lv' _ (fun s s1 s2 s3 => ?_) hgs6 (by simp [htl])
  simp only [updo, upd]
  repeat rw [if_neg (by omega)]
theorem fit_body2 (hm : P.follows .mixedOrders = true) (hw : liftF P (F sWhole) = some (ir_sWhole F)) {N : Nat} {w3 w : World} {c : Nat} {a : Addr} {u out : List (Nat × List UInt8)} {uss ucs : List (List Value)} {Ob j n k : Nat} {b : List UInt8} {lv uv : Value} {σ : Sl} {Q : Exit → Sl → World → Prop}
    (hN : N ≤ w3.heap.size) (hj : u[j]? = some (k, b)) (hjn : j < n) (hn : n = u.length) (hn2 : n ≤ 32767) (hu : SlC (fun b => b ≠ Ob) w3 (.slice (some a) n c) n uss.flatten) (hr : RepU (fun b => b < N) w3 u uss)
    (hg : GU w3 w Ob 0 (.slice none 0 0) lv uv false N out ucs) (hul : ucs.length = j)
    (h7 : σ 7 = .pointer (some ⟨Ob, 0, none⟩)) (h35 : σ 35 = .slice (some a) n c) (h37 : σ 37 = .int .i64 (j : Nat))
    (hQ : ∀ σ' w' uv' ucs', (∀ s, s < 39 → s ≠ 10 → s ≠ 11 → σ' s = σ s) → GU w3 w' Ob 0 (.slice none 0 0) lv uv' false N (out ++ [(k, wholeP b)]) ucs' → ucs'.length = j + 1 → Q .normal σ' w') : wpC P (ir_sFit_2 F) Q σ w := by
  unfold ir_sFit_2
  have hnob := hg.nob
  have nO : ∀ b ∈ [Ob], ¬ b ≠ Ob := fun b hb => by simpa using hb
  have nN : ∀ b ∈ [Ob], ¬ b < N := fun b hb => by simp only [List.mem_singleton] at hb; omega
  have hu1 : SlC anyB w (.slice (some a) n c) n uss.flatten := hu.mod hg.mod nO fun _ _ _ => trivial
  have hr1 : RepU (fun b => b < N) w u uss := hr.mod hg.mod nN fun _ _ h => h
  obtain ⟨v, hcs, hv⟩ := hr1.nth hj
  obtain ⟨a', c', ea, -, hcell⟩ := hu1.flat (by rw [hn]; exact hr1.length) hr1.two hcs
  simp only [Value.slice.injEq, Option.some.injEq, true_and] at ea
  obtain ⟨rfl, rfl⟩ := ea
  rw [wpC_seq, wpC_blk]
  refine go1 (v := .pointer (some (a.add (j * 2)))) rfl (by simp [h35, h37, hjn]) ?_
  refine go1 (v := .agg #[.int .u32 (k : Nat), v]) rfl (by simp [hcell]) ?_
  refine goAlloc fun w1 hb1 hm1 => ?_
  refine goSt (b := w.heap.size) (v := .agg #[.int .u32 (k : Nat), v]) (by simp) (by simp) hb1 rfl rfl (two_one hv.one) fun w2 hb2 hm2 => ?_
  have hb2 : Blk w2 w.heap.size [.int .u32 (k : Nat), v] := by simpa using hb2
  have hm02 : Mod [] w w2 := Mod.drop (b := w.heap.size) (S := []) (hm1.nil.trans hm2) (Nat.le_refl _)
  refine wpR_done ?_
  simp only [thenC, wpC]
  have hmd : Mod [] w w2.drew := hm02.trans (Mod.drew _ _)
  have hg2 := hg.same hmd
  have hbf : Blk w2.drew w.heap.size [.int .u32 (k : Nat), v] := hb2.mod (Mod.drew [] _) (by simp)
  have hv2 := hv.mod (ok' := fun b => b < N) hmd (by simp) fun _ _ h => h
  generalize hw4 : w2.drew = w4 at hmd hg2 hbf hv2 ⊢
  have c2 := fun k => hbf.cell k
  refine wpD_of_B (fun i v w' => match i with | 6 => SlC (fun b => b < N) w' v (wholeP b).length (u8s (wholeP b)) | 8 => ∃ sb v', v = .slice (some ⟨sb, 0, none⟩) 1 1 ∧ Blk w' sb [.int .u32 (k : Nat), v'] ∧ SlC (fun b => b < N) w' v' (wholeP b).length (u8s (wholeP b)) | _ => True) (by
    intro i v w w' h hm
    split at h
    · exact h.mod hm (by simp) fun _ _ h => h
    · obtain ⟨sb, v', e1, e2, e3⟩ := h; exact ⟨sb, v', e1, e2.mod hm (by simp), e3.mod hm (by simp) fun _ _ h => h⟩
    · trivial) ?_
  refine bo1 (v := .pointer (some ⟨Ob, 4, none⟩)) rfl (by simp [h7]) ?_
  refine bo1 (v := uv) rfl (by simp; exact hg2.ob.cell 4) ?_
  refine bo1 (v := .pointer (some ⟨w.heap.size, 0, none⟩)) rfl (by simp) ?_
  refine bo1 (v := .int .u32 (k : Nat)) rfl (by simp [c2]) ?_
  refine bo1 (v := .pointer (some ⟨w.heap.size, 1, none⟩)) rfl (by simp) ?_
  refine bo1 (v := v) rfl (by simp [c2]) ?_
  refine boCall (vs := [v]) rfl (by simp) (fun w' hm' _ => (whole_call hm hw (hv2.mod (ok' := fun b => b < N) hm' (by simp) fun _ _ h => h)).mono ?_) ?_
  · rintro e w'' ⟨rfl, v', rfl, h⟩; exact ⟨_, rfl, Mod.refl _ _, h⟩
  rintro v6 ⟨_, h6⟩
  obtain ⟨b6, c6, e6⟩ := h6.shape
  refine bo1 (v := .agg #[.int .u32 (k : Nat), v6]) rfl (by simp [fillL, splice, e6]) ?_
  refine boN rfl (fun w' hm' hkn => ?_) ?_
  · have h6 := known_get (j := 6) (t := 47) hkn (by simp) rfl rfl rfl rfl
    simp only [updo, upd] at h6
    simp only [RK.run, List.map_cons, List.map_nil, ev, updo, upd, if_true]
    have hf : fillL (zrep 1 [Value.int .u32 0, .slice none 0 0]) [(0, 2, Value.agg #[.int .u32 (k : Nat), v6])] = some [.int .u32 (k : Nat), v6] := by
      simp [zrep, fillL, splice, Value.cells]
    rw [hf]
    intro T
    exact ⟨Mod.alloc _ _ _, w'.heap.size, v6, rfl, Blk.new _ _ _, SlC.mod (ok' := fun b => b < N) h6 (Mod.alloc [] _ _) (by simp) fun _ _ h => h⟩
  rintro v8 -
  intro w5 hm5 hkn
  obtain ⟨sb, v', e8, hblk, hsl⟩ := known_get (j := 8) (t := 49) hkn (by simp) rfl rfl rfl rfl
  simp only [updo, upd, if_true] at e8
  subst e8
  refine (hg2.same hm5).step (by simp) (by simp) hblk hsl (by omega) (fun v => by simp [h7]) (by decide) fun w6 uv' hgs6 => ?_
  refine hQ _ w6 uv' _ (fun s s1 s2 s3 => ?_) hgs6 (by simp [hul])
  simp only [updo, upd]
  repeat rw [if_neg (by omega)]
end
end Go.Msk
