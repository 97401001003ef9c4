/- A small language of resolved operations, and what the generic and the generated functions do in it (part 16). -/
import Derived.Test.YthjbggibpkgmpaaGreatDoorFo
import Derived.Shelf.GgSortFunc.Whole
import Derived.Shelf.GgSortFunc.Tiny

namespace Go.Msk
open Go.RowKit
set_option maxRecDepth 100000
structure LibA (P : Program) (F : Nat → Nat) (has : Nat → Bool) : Prop where
  mixed : P.follows .mixedOrders = true
  kAppendBool : has Msk.kAppendBool = true → liftF P (F Msk.kAppendBool) = some (ir_kAppendBool F)
  kAppendInt8 : has Msk.kAppendInt8 = true → liftF P (F Msk.kAppendInt8) = some (ir_kAppendInt8 F)
  kAppendInt16 : has Msk.kAppendInt16 = true → liftF P (F Msk.kAppendInt16) = some (ir_kAppendInt16 F)
  kAppendUint16 : has Msk.kAppendUint16 = true → liftF P (F Msk.kAppendUint16) = some (ir_kAppendUint16 F)
  kAppendInt32 : has Msk.kAppendInt32 = true → liftF P (F Msk.kAppendInt32) = some (ir_kAppendInt32 F)
  kAppendUint32 : has Msk.kAppendUint32 = true → liftF P (F Msk.kAppendUint32) = some (ir_kAppendUint32 F)
  kAppendInt64 : has Msk.kAppendInt64 = true → liftF P (F Msk.kAppendInt64) = some (ir_kAppendInt64 F)
  kAppendUint64 : has Msk.kAppendUint64 = true → liftF P (F Msk.kAppendUint64) = some (ir_kAppendUint64 F)
  kAppendUuid : has Msk.kAppendUuid = true → liftF P (F Msk.kAppendUuid) = some (ir_kAppendUuid F)
  kAppendUvarint : has Msk.kAppendUvarint = true → liftF P (F Msk.kAppendUvarint) = some (ir_kAppendUvarint F)
  kUvarintLen : has Msk.kUvarintLen = true → liftF P (F Msk.kUvarintLen) = some (ir_kUvarintLen F)
  bLen32 : has Msk.bLen32 = true → liftF P (F Msk.bLen32) = some (ir_bLen32 F)
  kAppendString : has Msk.kAppendString = true → liftF P (F Msk.kAppendString) = some (ir_kAppendString F)
  kAppendCompactString : has Msk.kAppendCompactString = true → liftF P (F Msk.kAppendCompactString) = some (ir_kAppendCompactString F)
  kAppendNullableString : has Msk.kAppendNullableString = true → liftF P (F Msk.kAppendNullableString) = some (ir_kAppendNullableString F)
  kAppendCompactNullableString : has Msk.kAppendCompactNullableString = true → liftF P (F Msk.kAppendCompactNullableString) = some (ir_kAppendCompactNullableString F)
  kAppendBytes : has Msk.kAppendBytes = true → liftF P (F Msk.kAppendBytes) = some (ir_kAppendBytes F)
  kAppendCompactBytes : has Msk.kAppendCompactBytes = true → liftF P (F Msk.kAppendCompactBytes) = some (ir_kAppendCompactBytes F)
  kAppendArrayLen : has Msk.kAppendArrayLen = true → liftF P (F Msk.kAppendArrayLen) = some (ir_kAppendArrayLen F)
  kAppendCompactArrayLen : has Msk.kAppendCompactArrayLen = true → liftF P (F Msk.kAppendCompactArrayLen) = some (ir_kAppendCompactArrayLen F)
  kAppendNullableArrayLen : has Msk.kAppendNullableArrayLen = true → liftF P (F Msk.kAppendNullableArrayLen) = some (ir_kAppendNullableArrayLen F)
  kAppendCompactNullableArrayLen : has Msk.kAppendCompactNullableArrayLen = true → liftF P (F Msk.kAppendCompactNullableArrayLen) = some (ir_kAppendCompactNullableArrayLen F)
  tLen : has Msk.tLen = true → liftF P (F Msk.tLen) = some (ir_tLen F)
  tAppendEach : has Msk.tAppendEach = true → liftF P (F Msk.tAppendEach) = some (ir_tAppendEach F)
  tAppendEach1 : has Msk.tAppendEach1 = true → liftF P (F Msk.tAppendEach1) = some (ir_tAppendEach1 F)
  body1 : has Msk.tAppendEach1 = true → hasBody P (F Msk.tAppendEach1) = true
  tEach : has Msk.tEach = true → liftF P (F Msk.tEach) = some (ir_tEach F)
  sort : has Msk.tEach = true → SortC P (F sortSlice) (F tEach1) (F tyU32s)
def apF (F : Nat → Nat) (has : Nat → Bool) (p : PK) (x : Bool) (f : FuncId) : Bool :=
  let ok (c : Nat) (l : List Nat) : Bool := f == F c && hasAll has (c :: l)
  let uv := [kAppendUvarint, kUvarintLen, bLen32]
  match p with
  | .bool => ok kAppendBool []
  | .i8 => ok kAppendInt8 []
  | .i16 => ok kAppendInt16 [kAppendUint16]
  | .u16 => ok kAppendUint16 []
  | .i32 => ok kAppendInt32 [kAppendUint32]
  | .i64 => ok kAppendInt64 [kAppendUint64]
  | .str => if x then ok kAppendCompactString uv else ok kAppendString [kAppendInt16, kAppendUint16]
  | .nstr => if x then ok kAppendCompactNullableString (kAppendCompactString :: uv) else ok kAppendNullableString [kAppendString, kAppendInt16, kAppendUint16]
  | .byt => if x then ok kAppendCompactBytes uv else ok kAppendBytes [kAppendInt32, kAppendUint32]
  | _ => false
def apL (F : Nat → Nat) (has : Nat → Bool) (nul x : Bool) (f : FuncId) : Bool :=
  let ok (c : Nat) (l : List Nat) : Bool := f == F c && hasAll has (c :: l)
  let uv := [kAppendUvarint, kUvarintLen, bLen32]
  if nul then (if x then ok kAppendCompactNullableArrayLen uv else ok kAppendNullableArrayLen [kAppendInt32, kAppendUint32])
  else (if x then ok kAppendCompactArrayLen uv else ok kAppendArrayLen [kAppendInt32, kAppendUint32])
def Ap.okB (F : Nat → Nat) (has : Nat → Bool) (hf x : Bool) : Ap → Bool
  | .nil => true
  | .prm _ _ p a rest => (!a.fx || hf) && apF F has p x (a.sel x) && rest.okB F has hf x
  | .uid _ f rest => (f == F kAppendUuid && has kAppendUuid) && rest.okB F has hf x
  | .lsp _ nul ln p a rest => (!ln.fx || hf) && (!a.fx || hf) && apL F has nul x (ln.sel x) && apF F has p x (a.sel x) && rest.okB F has hf x
  | .lss _ nul ln _ body rest => (!ln.fx || hf) && apL F has nul x (ln.sel x) && body.okB F has hf x && rest.okB F has hf x
  | .sub _ _ body rest => body.okB F has hf x && rest.okB F has hf x
  | .tags ln uv ap => hf && (ln == F tLen && uv == F kAppendUvarint && ap == F tAppendEach && hasAll has [tLen, kAppendUvarint, kUvarintLen, bLen32, tAppendEach, tAppendEach1, tEach])
section
variable {P : Program} {F : Nat → Nat} {has : Nat → Bool} {f : FuncId}
theorem imp_of {a b : Bool} (h : (!a || b) = true) (ha : a = true) : b = true := by
  rw [ha] at h; simpa using h
theorem spl_of {c : Nat} {l : List Nat} (h : (f == F c && hasAll has (c :: l)) = true) : f = F c ∧ ∀ y ∈ c :: l, has y = true := by
  simp only [Bool.and_eq_true, beq_iff_eq] at h
  exact ⟨h.1, hasAll_mem h.2⟩
theorem apF_of (L : LibA P F has) {p : PK} {x : Bool} (h : apF F has p x f = true) : ApF P f p x := by
  have hm := L.mixed
  cases p with
  | bool => obtain ⟨rfl, q⟩ := spl_of h; exact ApF.bool (fun b => (kAppendBool_call hm (L.kAppendBool (q _ (by simp)))).k fun _ _ _ h => h) x
  | i8 => obtain ⟨rfl, q⟩ := spl_of h; exact ApF.int (.inl ⟨rfl, rfl, rfl⟩) fun n => (kAppendInt8_call hm (L.kAppendInt8 (q _ (by simp)))).k fun _ _ _ h => h
  | i16 => obtain ⟨rfl, q⟩ := spl_of h; exact ApF.int (.inr (.inl ⟨rfl, rfl, rfl⟩)) fun n => (kAppendInt16_call hm (L.kAppendInt16 (q _ (by simp))) (L.kAppendUint16 (q _ (by simp)))).k fun _ _ _ h => h
  | u16 => obtain ⟨rfl, q⟩ := spl_of h; exact ApF.u16 fun n h1 h2 => (kAppendUint16_call hm (L.kAppendUint16 (q _ (by simp))) ⟨h1, h2⟩).k fun _ _ _ h => h
  | i32 => obtain ⟨rfl, q⟩ := spl_of h; exact ApF.int (.inr (.inr (.inl ⟨rfl, rfl, rfl⟩))) fun n => (kAppendInt32_call hm (L.kAppendInt32 (q _ (by simp))) (L.kAppendUint32 (q _ (by simp)))).k fun _ _ _ h => h
  | i64 => obtain ⟨rfl, q⟩ := spl_of h; exact ApF.int (.inr (.inr (.inr ⟨rfl, rfl, rfl⟩))) fun n => (kAppendInt64_call hm (L.kAppendInt64 (q _ (by simp))) (L.kAppendUint64 (q _ (by simp)))).k fun _ _ _ h => h
  | str =>
    cases x with
    | true => obtain ⟨rfl, q⟩ := spl_of h; exact ApF.str fun s hs => by simpa using kAppendCompactString_call hm (L.kAppendCompactString (q _ (by simp))) (L.kAppendUvarint (q _ (by simp))) (L.kUvarintLen (q _ (by simp))) (L.bLen32 (q _ (by simp))) hs
    | false => obtain ⟨rfl, q⟩ := spl_of h; exact ApF.str fun s hs => by simpa using kAppendString_call hm (L.kAppendString (q _ (by simp))) (L.kAppendInt16 (q _ (by simp))) (L.kAppendUint16 (q _ (by simp)))
  | nstr =>
    cases x with
    | true => obtain ⟨rfl, q⟩ := spl_of h; exact ApF.nstr fun o ho => kAppendCompactNullableString_call hm (L.kAppendCompactNullableString (q _ (by simp))) (L.kAppendCompactString (q _ (by simp))) (L.kAppendUvarint (q _ (by simp))) (L.kUvarintLen (q _ (by simp))) (L.bLen32 (q _ (by simp))) ho
    | false => obtain ⟨rfl, q⟩ := spl_of h; exact ApF.nstr fun o ho => kAppendNullableString_call hm (L.kAppendNullableString (q _ (by simp))) (L.kAppendString (q _ (by simp))) (L.kAppendInt16 (q _ (by simp))) (L.kAppendUint16 (q _ (by simp)))
  | byt =>
    cases x with
    | true => obtain ⟨rfl, q⟩ := spl_of h; exact ApF.byt fun s hs => by simpa using kAppendCompactBytes_call hm (L.kAppendCompactBytes (q _ (by simp))) (L.kAppendUvarint (q _ (by simp))) (L.kUvarintLen (q _ (by simp))) (L.bLen32 (q _ (by simp))) hs
    | false => obtain ⟨rfl, q⟩ := spl_of h; exact ApF.byt fun s hs => by simpa using kAppendBytes_call hm (L.kAppendBytes (q _ (by simp))) (L.kAppendInt32 (q _ (by simp))) (L.kAppendUint32 (q _ (by simp)))
  | u32 => simp [apF] at h
  | uuid => simp [apF] at h
  | nbyt => simp [apF] at h
theorem apL_of (L : LibA P F has) {nul x : Bool} (h : apL F has nul x f = true) : ApL P f nul x := by
  have hm := L.mixed
  intro w0 w dv l n isnil hn hm0 hd hl
  cases nul with
  | true =>
    cases x with
    | true =>
      obtain ⟨rfl, q⟩ := spl_of h
      have k := kAppendCompactNullableArrayLen_call hm (L.kAppendCompactNullableArrayLen (q _ (by simp))) (L.kAppendUvarint (q _ (by simp))) (L.kUvarintLen (q _ (by simp))) (L.bLen32 (q _ (by simp))) (n := n) (null := isnil) hn
      have e : encLen true true isnil n = if isnil then [0] else uvE (n + 1) := by simp [encLen]
      rw [e] at hl ⊢
      exact k w0 w dv l hm0 hd hl
    | false =>
      obtain ⟨rfl, q⟩ := spl_of h
      have k := kAppendNullableArrayLen_call hm (L.kAppendNullableArrayLen (q _ (by simp))) (L.kAppendInt32 (q _ (by simp))) (L.kAppendUint32 (q _ (by simp))) (n := n) (null := isnil)
      have e : encLen true false isnil n = if isnil then beI 4 (-1) else beI 4 n := by simp [encLen]
      rw [e] at hl ⊢
      exact k w0 w dv l hm0 hd hl
  | false =>
    cases x with
    | true =>
      obtain ⟨rfl, q⟩ := spl_of h
      have k := kAppendCompactArrayLen_call hm (L.kAppendCompactArrayLen (q _ (by simp))) (L.kAppendUvarint (q _ (by simp))) (L.kUvarintLen (q _ (by simp))) (L.bLen32 (q _ (by simp))) (n := n) hn
      have e : encLen false true isnil n = uvE (n + 1) := by simp [encLen]
      rw [e] at hl ⊢
      exact k w0 w dv _ l hm0 hd hl rfl
    | false =>
      obtain ⟨rfl, q⟩ := spl_of h
      have k := (kAppendArrayLen_call hm (L.kAppendArrayLen (q _ (by simp))) (L.kAppendInt32 (q _ (by simp))) (L.kAppendUint32 (q _ (by simp))) (n := (n : Int))).k fun _ _ _ h => h
      have e : encLen false false isnil n = beI 4 n := by simp [encLen]
      rw [e] at hl ⊢
      exact k w0 w dv _ l hm0 hd hl rfl
theorem Ap.ok_of (L : LibA P F has) {hf x : Bool} : ∀ ap : Ap, ap.okB F has hf x = true → ap.Ok P hf x := by
  intro ap
  induction ap with
  | nil => intro _; trivial
  | prm vc cp p a rest ih =>
    intro h
    simp only [Ap.okB, Bool.and_eq_true] at h
    exact ⟨imp_of h.1.1, apF_of L h.1.2, ih h.2⟩
  | uid vc ff rest ih =>
    intro h
    simp only [Ap.okB, Bool.and_eq_true, beq_iff_eq] at h
    obtain ⟨⟨rfl, h1⟩, h2⟩ := h
    exact ⟨fun u hu => kAppendUuid_call L.mixed (L.kAppendUuid h1) hu, ih h2⟩
  | lsp vc nul ln p a rest ih =>
    intro h
    simp only [Ap.okB, Bool.and_eq_true] at h
    exact ⟨imp_of h.1.1.1.1, imp_of h.1.1.1.2, apL_of L h.1.1.2, apF_of L h.1.2, ih h.2⟩
  | lss vc nul ln sz body rest ihb ih =>
    intro h
    simp only [Ap.okB, Bool.and_eq_true] at h
    exact ⟨imp_of h.1.1.1, apL_of L h.1.1.2, ihb h.1.2, ih h.2⟩
  | sub vc sz body rest ihb ih =>
    intro h
    simp only [Ap.okB, Bool.and_eq_true] at h
    exact ⟨ihb h.1, ih h.2⟩
  | tags ln uv ap =>
    intro h
    simp only [Ap.okB, Bool.and_eq_true, beq_iff_eq] at h
    obtain ⟨h0, ⟨⟨rfl, rfl⟩, rfl⟩, h1⟩ := h
    have q := hasAll_mem h1
    refine ⟨h0, fun w B o v m hc hM => tLen_call L.mixed (L.tLen (q _ (by simp))) hc hM, fun n hn => (kAppendUvarint_call L.mixed (L.kAppendUvarint (q _ (by simp))) (L.kUvarintLen (q _ (by simp))) (L.bLen32 (q _ (by simp))) hn).k fun _ _ _ h => h, ?_⟩
    intro w0 w B o dv v l m hm0 hd hl hc hM hml hmv
    exact tAppendEach_call L.mixed (L.tAppendEach (q _ (by simp))) (L.tAppendEach1 (q _ (by simp))) (L.body1 (q _ (by simp))) (L.tEach (q _ (by simp))) (L.sort (q _ (by simp))) (L.kAppendUvarint (q _ (by simp))) (L.kUvarintLen (q _ (by simp))) (L.bLen32 (q _ (by simp))) hm0 hd hl hc hM hml hmv
structure BehFs where
  mx : FuncId
  newp : FuncId
  maxv : FuncId
  setv : FuncId
  rf : FuncId
  rd : FuncId
  ap : FuncId
  beh : FuncId
  sm : FuncId
structure BehOk (P : Program) (F : Nat → Nat) (has : Nat → Bool) (M : BehFs) (T : Top) (A : ATop) (fx : List FX) (flex : Int) (z : List Value) (most : Nat) : Prop where
  mx : liftF P M.mx = some (impMaxCode M.newp M.maxv)
  maxv : liftF P M.maxv = some (maxCode most)
  newp : liftF P M.newp = some (newCode z T.dfl)
  setv : liftF P M.setv = some setCode
  rf : liftF P M.rf = some (rfCode M.rd false)
  rd : liftF P M.rd = some T.gen
  ap : liftF P M.ap = some A.gen
  beh : liftF P M.beh = some (behCode M.newp M.setv M.rf M.ap)
  sm : liftF P M.sm = some (FX.genMsg fx flex)
  fxs : FX.OkL P fx
  cnt : Nat.blt fx.length 1000 = true
  dfl : ∃ l, liftF P T.dfl = some (dfGen l) ∧ dfOk l (T.sc.dcs.flatten.length + 1) ∧ z.length = T.sc.dcs.flatten.length + 1 ∧ dfRes l z = .int .i16 0 :: T.sc.dcs.flatten ∧ ∀ ver, dfRes l (.int .i16 ver :: T.sc.dcs.flatten) = .int .i16 ver :: T.sc.dcs.flatten
  dfs : DfsOk P T.sc.dfs
  okT : T.okB F has = true
  okA : (A.ap.okB F has A.flex.isSome false && (A.flex.isNone || A.ap.okB F has A.flex.isSome true)) = true
  rt : rtOk T A ⟨FX.fds fx, flex⟩ most = true
  most : most < 32768
variable {M : BehFs} {T : Top} {A : ATop} {fx : List FX} {flex : Int} {z : List Value} {most : Nat}
theorem ATop.ok_all (L : LibA P F has) (h : (A.ap.okB F has A.flex.isSome false && (A.flex.isNone || A.ap.okB F has A.flex.isSome true)) = true) (ver : Int) : A.ap.Ok P A.flex.isSome (A.x ver) := by
  simp only [Bool.and_eq_true, Bool.or_eq_true] at h
  cases hx : A.x ver with
  | false => exact Ap.ok_of L _ h.1
  | true =>
    refine Ap.ok_of L _ (h.2.resolve_left ?_)
    unfold ATop.x at hx
    cases hf : A.flex with
    | none => rw [hf] at hx; simp at hx
    | some n => simp
theorem BehOk.len (h : BehOk P F has M T A fx flex z most) (size : Nat.ble (FD.maxL (decide (flex ≥ 0)) (FX.fds fx) + tagM (decide (flex ≥ 0))) 70368744176664 = true) (sizef : Nat.ble (FD.maxL false (FX.fds fx) + tagM false) 70368744176664 = true) {t : TR} (hk : t.kok) (v : Int) : (writeP ⟨FX.fds fx, flex⟩ v t).length + 1000 ≤ lim := by
  have hp : FD.plainL (FX.fds fx) = true := by have := h.rt; simp only [rtOk, Bool.and_eq_true] at this; exact this.1
  suffices (writeP ⟨FX.fds fx, flex⟩ v t).length ≤ 70368744176664 by unfold lim; omega
  refine writeP_le hp hk ?_
  cases hf : MD.isFlex ⟨FX.fds fx, flex⟩ v with
  | false => exact Nat.le_of_ble_eq_true sizef
  | true =>
    have hx : decide (flex ≥ 0) = true := by
      simp only [MD.isFlex, Bool.and_eq_true] at hf; exact hf.1
    have := Nat.le_of_ble_eq_true size
    rwa [hx] at this
theorem BehOk.lenW (h : BehOk P F has M T A fx flex z most) (size : Nat.ble (FD.kL (FX.fds fx)) 1000000 = true) {t : TR} (hk : t.kok) (hw : t.wt ≤ 1048576) (v : Int) : (writeP ⟨FX.fds fx, flex⟩ v t).length + 1000 ≤ lim := by
  have hp : FD.plainL (FX.fds fx) = true := by have := h.rt; simp only [rtOk, Bool.and_eq_true] at this; exact this.1
  have a := writeP_wt (m := ⟨FX.fds fx, flex⟩) (ver := v) hp hk
  have b := Nat.le_of_ble_eq_true size
  have c : (FD.kL (FX.fds fx) + 16) * t.wt ≤ 1000016 * 1048576 := Nat.mul_le_mul (by omega) hw
  have d : (FD.kL (MD.fs ⟨FX.fds fx, flex⟩) + 16) * t.wt = (FD.kL (FX.fds fx) + 16) * t.wt := rfl
  unfold lim
  omega
theorem BehOk.behOf (L : Lib P F has) (LA : LibA P F has) (h : BehOk P F has M T A fx flex z most) {Te : TypeId} {ve : Value} : BehOf P M.beh ⟨FX.fds fx, flex⟩ most (F gErr) Te ve := by
  intro w ver t dv sv ld hk hlen h0 h1 hld hd hs hg
  unfold lim at hlen
  obtain ⟨l, e1, e2, e3, e4, e5⟩ := h.dfl
  have hz : DfC P T.dfl z (.int .i16 0 :: T.sc.dcs.flatten) := df_call L.mixed e1 (by rw [e3]; exact e2) e4
  obtain ⟨hpos, gs, hdec, henc, hfit⟩ := top_rt h.rt h0 h1 hk
  have hmost := h.most
  have := beh_call (A := A) L.mixed h.beh h.newp hz h.setv h.rf h.rd (Top.ok_of L h.okT h.dfs e1 e2 e5 false) h.ap (ATop.ok_all LA h.okA ver) hdec rfl hfit hd hs hpos (by unfold lim; omega) (by rw [henc]; unfold lim; omega)
    (by simp only [IntKind.wrap, IntKind.bits, IntKind.signed]; simp; omega) hg
  rw [henc] at this
  exact this.mono fun e w' ⟨v', he, hv, hm⟩ => ⟨v', he, hv.any, hm⟩
theorem beh_msg (L : Lib P F has) (LA : LibA P F has) (SL : SLib P F) (h : BehOk P F has M T A fx flex z most) {f zz z2 z3 : FuncId} (hf : liftF P f = some (behLaw zz M.mx M.sm (F lVersion) (F sWrite) M.beh (F sSame))) (hz1 : liftF P zz = some (zz1Code z2)) (hz2 : liftF P z2 = some (zz2Code z3)) (hz3 : liftF P z3 = some zz3Code)
    (hv : liftF P (F lVersion) = some (ir_lVersion F)) (hs : liftF P (F sSame) = some (ir_sSame F)) {Te : TypeId} {ve : Value} {w : World} {n : Int} (hn : 0 ≤ n ∧ n < 256) {dv : Value} {ld : List UInt8} {t : TR} {ts : List Value}
    (hd : SlC anyB w dv ld.length (u8s ld)) (ht : RepT anyB w t ts) (hk : t.kok) (hlen : ∀ v, (writeP ⟨FX.fds fx, flex⟩ v t).length + 1000 ≤ lim) (hge : GErr (F gErr) w Te ve) : Calls P f [.int .u8 n, dv, .agg ts.toArray].toArray w fun e w' => e = .returned (.bool true) ∧ Mod [] w w' := by
  obtain ⟨l, e1, e2, e3, e4, e5⟩ := h.dfl
  have hz : DfC P T.dfl z (.int .i16 0 :: T.sc.dcs.flatten) := df_call L.mixed e1 (by rw [e3]; exact e2) e4
  have hmost : (0 : Int) ≤ most ∧ (most : Int) < 32768 := ⟨by omega, by have := h.most; omega⟩
  have hp : FD.plainL (FX.fds fx) = true := by have := h.rt; simp only [rtOk, Bool.and_eq_true] at this; exact this.1
  refine beh_law L.mixed hf hmost (fun w t ts ht => zz1_call L.mixed hz1 hz2 hz3 ht) (fun w => impMax_call L.mixed h.mx h.newp hz h.maxv hmost) (fun w => msg_call L.mixed h.sm h.fxs) (fun w n hn => version_call L.mixed hv hn hmost) (fun v w ms t ts a b c d => ?_) (h.behOf L LA) (fun w v1 v2 l1 l2 a b c => same_call L.mixed hs a b c) hn hd ht hk hlen hge
  · refine writeC_plain SL (m := ⟨FX.fds fx, flex⟩) (ver := v) hp ?_ w ms t ts a b c d
    show (FX.fds fx).length < 1000
    rw [FX.fds_length]
    have := h.cnt
    exact Nat.lt_of_succ_le (Nat.le_of_ble_eq_true this)
end
end Go.Msk

namespace Go.Msk
open Go.RowKit Go.Shelf Go.Proofs
set_option maxRecDepth 100000
def ltN (x y : Nat) : Bool := decide (x < y)
theorem swo_ltN : Go.Sort.SWO ltN where
  irrefl := fun x => by simp [ltN]
  trans := fun x y z => by simp only [ltN, decide_eq_true_eq]; omega
  ntrans := fun x y z => by simp only [ltN, decide_eq_false_iff_not]; omega
theorem sortWorld_ok {w : World} {B m : Nat} {cs : List Value} {dk : Array Nat} {os : Array Obj} (h : Blk w B cs) (hl : cs.length = dk.size) :
    Mod [B] w (Go.Sort.grow (Go.Sort.putRow u32v (Go.Sort.ahead w m) B 0 dk) os) ∧ Blk (Go.Sort.grow (Go.Sort.putRow u32v (Go.Sort.ahead w m) B 0 dk) os) B (dk.toList.map u32v) := by
  obtain ⟨T, fr, hb, hfr⟩ := h
  have hlt : B < w.heap.size := (Array.getElem?_eq_some_iff.1 hb).1
  have hsz : (w.heap.modify B (Go.Sort.onCells (Go.Sort.putCells u32v 0 dk))).size = w.heap.size := by simp
  have hget : ∀ k, k < w.heap.size → (Go.Sort.grow (Go.Sort.putRow u32v (Go.Sort.ahead w m) B 0 dk) os).heap[k]? = (w.heap.modify B (Go.Sort.onCells (Go.Sort.putCells u32v 0 dk)))[k]? := fun k hk => by
    show ((w.heap.modify B (Go.Sort.onCells (Go.Sort.putCells u32v 0 dk))) ++ os)[k]? = _
    rw [Array.getElem?_append_left (by omega)]
  refine ⟨⟨rfl, rfl, rfl, ?_, fun k hk hn => ?_⟩, T, fr, ?_, ?_⟩
  · show w.heap.size ≤ ((w.heap.modify B (Go.Sort.onCells (Go.Sort.putCells u32v 0 dk))) ++ os).size
    simp
  · rw [hget k hk, Array.getElem?_modify, if_neg (by simp only [List.mem_singleton] at hn; omega)]
  · rw [hget B hlt, Array.getElem?_modify, if_pos rfl, hb]
    simp only [Option.map_some, Go.Sort.onCells, Option.some.injEq, Obj.cells.injEq, and_true]
    apply Array.ext_getElem?
    intro k
    simp only [Go.Sort.putCells, Array.getElem?_mapIdx, List.getElem?_toArray, List.getElem?_map, Array.getElem?_toList, Nat.zero_add, Nat.zero_le, true_and, Nat.sub_zero]
    by_cases hk : k < dk.size
    · have e1 : cs[k]? = some cs[k] := List.getElem?_eq_getElem (by omega)
      have e2 : dk[k]? = some dk[k] := Array.getElem?_eq_getElem hk
      rw [e1, e2]
      simp only [Option.map_some, if_pos hk]
      rw [getElem!_pos dk k hk]
    · rw [List.getElem?_eq_none (by omega), Array.getElem?_eq_none (by omega)]
      rfl
  · simp only [List.length_map, Array.length_toList]
    rw [← hl]; exact hfr
section
variable {P : Program} {F : Nat → Nat}
theorem each1_call (hm : P.follows .mixedOrders = true) (h : liftF P (F tEach1) = some (ir_tEach1 F)) {w : World} {B Bs n : Nat} {G : Nat → Nat} (hs : w.cell? ⟨Bs, 0, none⟩ = some (.slice (some ⟨B, 0, none⟩) n n))
    (hc : ∀ t, t < n → w.cell? ⟨B, t, none⟩ = some (u32v (G t))) {i j : Nat} (hi : i < n) (hj : j < n) :
    Calls P (F tEach1) [.int .i64 i, .int .i64 j, .pointer (some ⟨Bs, 0, none⟩)].toArray w fun e w' => e = .returned (.bool (ltN (G i) (G j))) ∧ w' = w.drew := by
  unfold ir_tEach1 at h
  refine call_of h hm (by simp) ?_
  have a0 : args0 [.int .i64 i, .int .i64 j, .pointer (some ⟨Bs, 0, none⟩)] 0 = .int .i64 i := rfl
  have a1 : args0 [.int .i64 i, .int .i64 j, .pointer (some ⟨Bs, 0, none⟩)] 1 = .int .i64 j := rfl
  have a2 : args0 [.int .i64 i, .int .i64 j, .pointer (some ⟨Bs, 0, none⟩)] 2 = .pointer (some ⟨Bs, 0, none⟩) := rfl
  generalize args0 [.int .i64 i, .int .i64 j, .pointer (some ⟨Bs, 0, none⟩)] = σ at a0 a1 a2 ⊢
  rw [wpC_seq, wpC_blk]
  refine wpR_step (v := .bool false) rfl ?_
  refine wpR_done ?_
  rw [wpC_seq]
  show wpD P _ [] _ w.drew _
  have hs' : w.drew.cell? ⟨Bs, 0, none⟩ = some (.slice (some ⟨B, 0, none⟩) n n) := hs
  have hi' : w.drew.cell? ⟨B, i, none⟩ = some (u32v (G i)) := hc i hi
  have hj' : w.drew.cell? ⟨B, j, none⟩ = some (u32v (G j)) := hc j hj
  refine wpD_pure rfl ?_
  simp only [List.map_cons, List.map_nil, List.cons_append, List.nil_append]
  refine wpR_step (v := .slice (some ⟨B, 0, none⟩) n n) (by simp only [RK.val?, ev, updo, upd]; simp [a2, hs']) ?_
  refine wpR_step (v := .int .i64 i) (by simp only [RK.val?, ev, updo, upd]; simp [a0]) ?_
  refine wpR_step (v := .pointer (some ⟨B, i, none⟩)) (by
    simp only [RK.val?, ev, updo, upd, show (6 : Nat) ≠ 7 by decide, if_false, if_true]
    rw [if_pos (by omega)]; simp [Addr.add_mk]) ?_
  refine wpR_step (v := u32v (G i)) (by simp only [RK.val?, ev, updo, upd, if_true, hi']) ?_
  refine wpR_step (v := .slice (some ⟨B, 0, none⟩) n n) (by simp only [RK.val?, ev, updo, upd]; simp [a2, hs']) ?_
  refine wpR_step (v := .int .i64 j) (by simp only [RK.val?, ev, updo, upd]; simp [a1]) ?_
  refine wpR_step (v := .pointer (some ⟨B, j, none⟩)) (by
    simp only [RK.val?, ev, updo, upd, show (10 : Nat) ≠ 11 by decide, if_false, if_true]
    rw [if_pos (by omega)]; simp [Addr.add_mk]) ?_
  refine wpR_step (v := u32v (G j)) (by simp only [RK.val?, ev, updo, upd, if_true, hj']) ?_
  refine wpR_step (v := .bool (ltN (G i) (G j))) (by
    simp only [RK.val?, ev, updo, upd, show (9 : Nat) ≠ 13 by decide, show (9 : Nat) ≠ 12 by decide, show (9 : Nat) ≠ 11 by decide, show (9 : Nat) ≠ 10 by decide, if_false, if_true, u32v, isShift, decide_true, Bool.or_true, intBin, ltN]
    congr 2; exact decide_eq_decide.2 (by omega)) ?_
  refine wpR_step (v := .bool (ltN (G i) (G j))) (by simp only [RK.val?, ev, updo, upd, if_true]) ?_
  refine wpR_done ?_
  simp only [wpC, postC, rvals, List.mapM_cons, List.mapM_nil, RV.val, updo, upd, if_true, Option.bind_eq_bind, Option.bind_some, Option.pure_def, tup_one]
  exact ⟨trivial, trivial⟩
theorem sortC_of {ρ : Ren} (L : LaysGg.n6 P ρ) (hm : P.follows .mixedOrders = true) (hl : liftF P (F tEach1) = some (ir_tEach1 F)) (hf : ρ.f 6 = F sortSlice) {e : TypeId} {i ie : TypeInfo} (hi : P.info? (F tyU32s) = some i) (hd : i.desc = .slice e)
    (hpk : P.packed (F tyU32s) = false) (hie : P.info? e = some ie) (ke : Nat) (hke : ∀ w, (Extern.Rtype.kind e).run P w = .ok ke w) (hs1 : ie.size = 1) (hagg : ∀ w, (isAgg e).run P w = .ok false w) (hp : ie.hasPointers = false) (hb : ie.bytes = 4)
    (eg : ∀ args w, (callFunc (F tEach1) args).run P w = .ok (.enter (F tEach1) args) w) (f1 f2 f6 : Nat) (h1 : P.funcs.findIdx? (·.name == "internal/reflectlite" ++ ".Swapper$" ++ toString 1) = some f1) (h2 : P.funcs.findIdx? (·.name == "internal/reflectlite" ++ ".Swapper$" ++ toString 2) = some f2)
    (h6 : P.funcs.findIdx? (·.name == "internal/reflectlite" ++ ".Swapper$" ++ toString 6) = some f6) (gS : Bool) (hx : ∀ args W, (callFunc f6 args).run P W = ((Extern.ReflectliteSwapper.swap gS args).run P W).andThen fun v w' => .ok (.value v) w') :
    SortC P (F sortSlice) (F tEach1) (F tyU32s) := by
  intro w B Bs ks hB hBs hne hlen hk32
  rw [← hf]
  by_cases hn : 2 ≤ ks.length
  · have hK : Go.Lib.swapperK ks.toArray.size ie ke = 6 := by
      have c : (ks.toArray.size == 0) = false := by simp; intro h; rw [h] at hn; simp at hn
      have d : (ks.toArray.size == 1) = false := by simp; omega
      simp only [Go.Lib.swapperK, hp, hb, c, d, Bool.false_and, Bool.false_eq_true, if_false]
    have hH : Go.Sort.Holds u32v w B 0 ks.toArray := by
      intro j hj
      have hj' : j < ks.length := by simpa using hj
      refine ⟨?_, ?_⟩
      · rw [Nat.zero_add, hB.cell j, List.getElem?_map, List.getElem?_eq_getElem hj', getElem!_pos ks.toArray j hj]
        simp
      · obtain ⟨T, fr, hb, hfr⟩ := hB
        obtain ⟨lo, hi⟩ := fr
        simp only [World.frozen?, hb, Nat.zero_add]
        simp only [List.length_map] at hfr
        simp only [Bool.and_eq_false_iff, decide_eq_false_iff_not]
        omega
    have hless : LessReads P (F tEach1) #[.pointer (some ⟨Bs, 0, none⟩)] u32v ltN B 0 ks.toArray.size w := by
      intro m os dk hs a b ha hb
      have hs' : dk.size = ks.length := by simpa using hs
      obtain ⟨q1, q2⟩ := sortWorld_ok (w := w) (B := B) (m := m) (dk := dk) (os := os) hB (by simpa using hs'.symm)
      have q3 := hBs.mod q1 (by simpa using hne)
      refine (each1_call hm hl (w := sortWorld u32v w B 0 m dk os) (B := B) (Bs := Bs) (n := ks.length) (G := fun t => dk[t]!) (q3.cell 0) (fun t ht => ?_) (i := a) (j := b) (by simpa using ha) (by simpa using hb)).mono fun en w' hh => ⟨hh.1, 1, hh.2⟩
      have := q2.cell t
      rw [List.getElem?_map] at this
      have ht' : t < dk.size := by omega
      rw [show (sortWorld u32v w B 0 m dk os).cell? ⟨B, t, none⟩ = _ from this, getElem!_pos dk t ht']
      simp [Array.getElem?_eq_getElem ht']
    have hS := Any.sort_Slice_sorted L (F tyU32s) e i ie hi hd hpk hie ke hke hs1 hagg u32v (fun _ => rfl) ltN swo_ltN (F tEach1) #[.pointer (some ⟨Bs, 0, none⟩)] eg B 0 ks.length ks.toArray (by simpa using hn) (by simp; omega) f6 (by rw [hK]; exact h6) gS hx w hless hH hB.lt
    have hsz : ks.toArray.size = ks.length := by simp
    rw [hsz] at hS
    refine hS.mono ?_
    rintro en w' ⟨rfl, d', n, os, ⟨p1, -, p3⟩, hso, rfl⟩
    have hd' : d'.size = ks.length := by simpa using p1
    obtain ⟨q1, q2⟩ := sortWorld_ok (w := w) (B := B) (m := n) (dk := d') (os := os) hB (by simpa using hd'.symm)
    refine ⟨rfl, d'.toList, ?_, ?_, q2, q1⟩
    · have x1 : d'.extract 0 ks.length = d' := by rw [← hd']; exact Array.extract_size
      have x2 : ks.toArray.extract 0 ks.length = ks.toArray := by rw [← hsz]; exact Array.extract_size
      rw [x1, x2] at p3
      exact p3
    · rw [List.pairwise_iff_getElem]
      intro a b ha hb hab
      have ha' : a < d'.size := by simpa using ha
      have hb' : b < d'.size := by simpa using hb
      have := hso a b (Nat.zero_le _) hab (by omega)
      rw [getElem!_pos d' a ha', getElem!_pos d' b hb'] at this
      simp only [ltN, decide_eq_false_iff_not] at this
      simp only [Array.getElem_toList]
      omega
  · have hks : ks.length = 0 ∨ ks.length = 1 := by omega
    have hfn : ∃ f, P.funcs.findIdx? (·.name == "internal/reflectlite" ++ ".Swapper$" ++ toString (Go.Lib.swapperK ks.length ie ke)) = some f := by
      rcases hks with h | h
      · rw [h]; exact ⟨f1, h1⟩
      · rw [h]; exact ⟨f2, h2⟩
    obtain ⟨f0, hf0⟩ := hfn
    refine (Any.sort_Slice_tiny L (F tyU32s) e i ie hi hd hpk hie ke hke (some ⟨B, 0, none⟩) ks.length ks.length (by omega) f0 hf0 (.func (F tEach1)) #[] #[.pointer (some ⟨Bs, 0, none⟩)] w).mono ?_
    rintro en w' ⟨rfl, os, rfl⟩
    have hm' : Mod [] w (Go.Sort.grow w os) := ⟨rfl, rfl, rfl, by show w.heap.size ≤ (w.heap ++ os).size; simp, fun k hk _ => by show (w.heap ++ os)[k]? = _; rw [Array.getElem?_append_left hk]⟩
    refine ⟨rfl, ks, .refl _, ?_, hB.mod hm' (by simp), hm'.nil⟩
    match ks, hks with
    | [], _ => exact .nil
    | [x], _ => simp
end
end Go.Msk
